import JvmDerived
import JvmDerived.Pilot.@@N@@Statement
import JvmDerived.Pilot.@@N@@Code
set_option linter.unusedVariables false
set_option linter.unusedSimpArgs false
@@BLOCK:NumsL.lean.txt@@
namespace Jvm.RoadKit
open Sem ClassFile Op Lib Jvm.Stand Jvm.Free Jvm.LawKit
section New
variable {p : Program} {l : Launch} {e : Env} {R : Room} {s : State} {m : MethodId} {args : Array Value} {below : List Frame} {meth : Method} {c : Code} {T : State} {locs : List Loc} {cells slots : Nat}
theorem retI (X : Stand p l e R s m args below meth c T locs cells slots) (hx : p.tables.exec = Jvm.exec) {pc : Nat} {Ls : Array Slot} {z : Int32} {rest : List Value} (hret : meth.sig.returnType = some .int) (hd : decode c.code pc = .ok (.ireturn, 1)) {fs : List Frame}
    (hl : ∀ (f : JFrame) (acts : List Action), f.method = m → f.locked = none → f.entered = [] → (doReturn e (T.setTop f) acts (some (.int z))).1 = T.setFrames fs) : Steps p.tables e below (T.setTop (mkF m pc Ls (.int z :: rest))) (T.setFrames fs) := by
  have hm' : T.vm.method? m = some meth := X.method'
  have hn : narrow .int (.int z) = .int z := rfl
  show Steps p.tables e below (T.setTop { method := m, pc := pc, locals := Ls, stack := _ :: rest, locked := none }) _
  jvm_step X.here [X.here.top, hx, hd, hm', hret, hn]
  first | (intro acts; rw [hl _ acts rfl rfl rfl]) | rw [hl _ _ rfl rfl rfl]
  exact Steps.refl _
end New
end Jvm.RoadKit
namespace Jvm.Pilot.@@N@@
open Jvm Jvm.ClassFile Sem Op Lib Jvm.Free Jvm.Stand Jvm.LawKit Jvm.RoadKit Bundle Jvm.Pilot.@@N@@.Jvm.D
theorem own_nb (y : Int32) : nar .byte (y.toInt8.toInt32) = y.toInt8.toInt32 := by
  show (y.toInt8.toInt32).toInt8.toInt32 = _
  simp
theorem own_fb (y : Int32) : fits .byte (.int (y.toInt8.toInt32)) = true := fits_nar_byte y

def own_St (Z : State) (t0 t1 t2 t3 d0 d1 d2 d3 oa : Addr) (oc : Cell) : Prop := (Sta Z Z.heap "com/example/reroutine/reroutine/scenario/EventType" "ACT_END" "Lcom/example/reroutine/reroutine/scenario/EventType;" (.ref t0) ∧ Exa Z Z.heap t0 "com/example/reroutine/reroutine/scenario/EventType" ∧ Fld Z Z.heap t0 "com/example/reroutine/reroutine/scenario/EventType" "detailAttribute" "Ljava/lang/String;" (.ref d0)) ∧ (Sta Z Z.heap "com/example/reroutine/reroutine/scenario/EventType" "DEPARTURE" "Lcom/example/reroutine/reroutine/scenario/EventType;" (.ref t1) ∧ Exa Z Z.heap t1 "com/example/reroutine/reroutine/scenario/EventType" ∧ Fld Z Z.heap t1 "com/example/reroutine/reroutine/scenario/EventType" "detailAttribute" "Ljava/lang/String;" (.ref d1)) ∧ (Sta Z Z.heap "com/example/reroutine/reroutine/scenario/EventType" "ARRIVAL" "Lcom/example/reroutine/reroutine/scenario/EventType;" (.ref t2) ∧ Exa Z Z.heap t2 "com/example/reroutine/reroutine/scenario/EventType" ∧ Fld Z Z.heap t2 "com/example/reroutine/reroutine/scenario/EventType" "detailAttribute" "Ljava/lang/String;" (.ref d2)) ∧ (Sta Z Z.heap "com/example/reroutine/reroutine/scenario/EventType" "ACT_START" "Lcom/example/reroutine/reroutine/scenario/EventType;" (.ref t3) ∧ Exa Z Z.heap t3 "com/example/reroutine/reroutine/scenario/EventType" ∧ Fld Z Z.heap t3 "com/example/reroutine/reroutine/scenario/EventType" "detailAttribute" "Ljava/lang/String;" (.ref d3)) ∧ Sta Z Z.heap "com/example/reroutine/reroutine/replanning/ExecutedDay" "ORDER" "[Lcom/example/reroutine/reroutine/scenario/EventType;" (.ref oa) ∧ Arr Z Z.heap oa oc (.object "com/example/reroutine/reroutine/scenario/EventType") ∧ oc.slots.size = (4 : Int32).toNatClampNeg ∧ (oc.slots[0]? = some (.ref t0) ∧ oc.slots[1]? = some (.ref t1) ∧ oc.slots[2]? = some (.ref t2) ∧ oc.slots[3]? = some (.ref t3))
def own_ED (Z : State) (h : Heap) (n0 : Nat) (a : Addr) (sz cap : Int32) : Prop := Exa Z h a "com/example/reroutine/reroutine/replanning/ExecutedDay" ∧ Fld Z h a "com/example/reroutine/reroutine/replanning/ExecutedDay" "size" "I" (.int sz) ∧ ∃ (ar : Addr) (kk : ClassId) (vs : List Value), n0 ≤ ar ∧ a ≠ ar ∧ Fld Z h a "com/example/reroutine/reroutine/replanning/ExecutedDay" "times" "[I" (.ref ar) ∧ Arv Z h ar kk .int cap vs (.int (0 : Int32)) ∧ vs.length = cap.toNatClampNeg
theorem own_ED.lt {Z : State} {h : Heap} {n0 : Nat} {a : Addr} {sz cap : Int32} (B : own_ED Z h n0 a sz cap) : a < h.size := B.1.lt
theorem own_ED.ext {Z : State} {h h' : Heap} {n0 : Nat} {a : Addr} {sz cap : Int32} (B : own_ED Z h n0 a sz cap) (E : Ext h h') : own_ED Z h' n0 a sz cap := by
  obtain ⟨e, f, ar, kk, vs, g1, g2, g3, g4, g5⟩ := B
  exact ⟨e.ext E, f.ext E, ar, kk, vs, g1, g2, g3.ext E, g4.ext E, g5⟩
theorem own_ED.keep0 {Z : State} {h h' : Heap} {n0 : Nat} {a : Addr} {sz cap : Int32} (B : own_ED Z h n0 a sz cap) (K : Keep h h' []) : own_ED Z h' n0 a sz cap := by
  obtain ⟨e, f, ar, kk, vs, g1, g2, g3, g4, g5⟩ := B
  exact ⟨e.keep K, f.keep K nin0, ar, kk, vs, g1, g2, g3.keep K nin0, g4.keep K nin0, g5⟩

theorem own_c255 (x : Int32) : ((x &&& (255 : Int32)).toUInt32.toUInt16.toUInt32.toInt32) = x &&& (255 : Int32) := by
  have a : ∀ n : Nat, n &&& 255 = n % 256 := fun n => Nat.and_two_pow_sub_one_eq_mod n 8
  apply Int32.toBitVec_inj.mp
  apply BitVec.eq_of_toNat_eq
  simp
  simp only [a]
  omega
theorem own_ch (x : Int32) : ¬ (255 : Int32) < ((x &&& (255 : Int32)).toUInt32.toUInt16.toUInt32.toInt32) := by
  rw [own_c255]
  have h := Jvm.Kit.i32_mask x 255 (k := 8) (by decide) (by decide)
  simp only [Int32.lt_iff_toInt_lt, h, Int32.reduceToInt]
  omega
theorem own_tm (y : Int32) : ¬ (y &&& (2147483647 : Int32)) < 0 := by
  have h := Jvm.Kit.i32_mask y 2147483647 (k := 31) (by decide) (by decide)
  simp only [Int32.lt_iff_toInt_lt, h, Int32.reduceToInt]
  omega

theorem own_ns (y : Int32) : ((y &&& (2147483647 : Int32)) % (9 : Int32)) = (0 : Int32) ∨ ((y &&& (2147483647 : Int32)) % (9 : Int32)) = (1 : Int32) ∨ ((y &&& (2147483647 : Int32)) % (9 : Int32)) = (2 : Int32) ∨ ((y &&& (2147483647 : Int32)) % (9 : Int32)) = (3 : Int32) ∨ ((y &&& (2147483647 : Int32)) % (9 : Int32)) = (4 : Int32) ∨ ((y &&& (2147483647 : Int32)) % (9 : Int32)) = (5 : Int32) ∨ ((y &&& (2147483647 : Int32)) % (9 : Int32)) = (6 : Int32) ∨ ((y &&& (2147483647 : Int32)) % (9 : Int32)) = (7 : Int32) ∨ ((y &&& (2147483647 : Int32)) % (9 : Int32)) = (8 : Int32) := by
  have h := Jvm.Kit.i32_mask y 2147483647 (k := 31) (by decide) (by decide)
  have q := Jvm.Kit.i32_rem_nonneg (x := y &&& (2147483647 : Int32)) (y := 9) (by rw [h]; omega)
  have e : (9 : Int32).toInt = 9 := by decide
  rw [e] at q
  simp only [← Int32.toInt_inj, q, Int32.reduceToInt]; omega

theorem d2_0 : decode jdk_43_method_3_code 0 = .ok (.iload_n 0, 1) := by decide +kernel
theorem d2_1 : decode jdk_43_method_3_code 1 = .ok (.sipush 255, 3) := by decide +kernel
theorem d2_4 : decode jdk_43_method_3_code 4 = .ok (.if_icmp .gt 7, 3) := by decide +kernel
theorem d2_7 : decode jdk_43_method_3_code 7 = .ok (.iconst 1, 1) := by decide +kernel
theorem d2_8 : decode jdk_43_method_3_code 8 = .ok (.goto 4, 3) := by decide +kernel
theorem d2_12 : decode jdk_43_method_3_code 12 = .ok (.ireturn, 1) := by decide +kernel
theorem pn_0 : plainName "java/lang/StringLatin1" = true := by first | (simp [plainName, overriddenIn]; done) | decide +kernel
def QCanE (Z : State) (u0 : Int32)  (h0 : Heap) (n0 : Nat) (v : Option Value) (h : Heap) (L : List Loc) : Prop := v = some (.int (1 : Int32)) ∧ Fr n0 L ∧ h = h0
theorem ef_rmCanE (m : MethodId) (u0 : Int32) : entryFrame m #[(.int u0)] 1 = mkF m 0 #[iv u0] [] := by first | (simp [entryFrame, mkF, argsToLocals, Value.category]; done) | rfl
set_option maxRecDepth 65536 in
set_option maxHeartbeats 40000000 in
theorem rmCanE (l : Launch) (Z : State) (a0 : Array Value) (hw : ∀ d ∈ tables_1, d.before a0 Z = true) (ws : List Jvm.Cond) (u0 : Int32)  (h0 : Heap) (n0 : Nat) (Z0 : n0 ≤ h0.size) (hc : ¬ (255 : Int32) < u0) :
    MetFree l (⟨"java/lang/StringLatin1", "canEncode", "(C)Z"⟩ : MethodName) (head1 (Jvm.Cond.code (⟨"java/lang/StringLatin1", "canEncode", "(C)Z"⟩ : MethodName) jdk_43_method_3_code 1 (some .boolean) :: ws) ({ frames := 0, cells := 0, slots := 0, locals := 0 } : Room)) (fun a U => a = #[(.int u0)] ∧ Z.Warmed39 U.vm ∧ U.heap = h0) (fun _ _ _ _ _ => True) (fun _ U o U' => ∃ v L, o = .returned v ∧ QCanE Z u0 h0 n0 v U'.heap L ∧ FrameEnd U o U' L ({ frames := 0, cells := 0, slots := 0, locals := 0 } : Room).cells ({ frames := 0, cells := 0, slots := 0, locals := 0 } : Room).slots) := by
  refine MetFree.of_bodySF (plainFor_of_name pn_0) hisR ?_
  intro p e s m args below meth c s₁ Bd hml0 hP hK
  obtain ⟨rfl, hZ, hh⟩ := hP
  have hx := Bd.exec
  have hby := Bd.bytes
  have hml : c.maxLocals = 1 := hml0
  have hown : s.vm.findClass "java/lang/StringLatin1" = some m.cls := findClass_of_methodNamed Bd.named
  have hnm := (name_of_methodNamed Bd.named Bd.method).1
  have X0 : Stand p l e ({ frames := 0, cells := 0, slots := 0, locals := 0 } : Room) s m #[(.int u0)] below meth c s₁ [] 0 0 := Stand.of_body Bd
  have e0 : s₁.heap = h0 := by rw [← hh, Bd.state]; rfl
  have N0 := Fr.nil n0
  have S0 : ∀ t, Steps p.tables e below (s₁.setTop (mkF m 0 #[iv u0] [])) t → Steps p.tables e below (s₁.setTop (entryFrame m #[(.int u0)] 1)) t := fun t k => castTop (ef_rmCanE m u0) k
  obtain ⟨fs, hr, hrun, hended, hW, hsame⟩ := X0.leave (v := some (.int (1 : Int32))) (fun h => by rw [Bd.returns] at h; cases h)
  refine ⟨_, _, S0 _ ?_, hrun, hended, _, _, rfl, ?_, ⟨_, rfl⟩, hW, hsame.mono (by decide) (by decide)⟩
  · skip
    show Steps p.tables e below (s₁.setTop (mkF m 0 #[iv u0] [])) _
    refine XS.iloadN X0.here hx rfl (hb hby d2_0) rfl ?_
    show Steps p.tables e below (s₁.setTop (mkF m 1 #[iv u0] [(.int u0)])) _
    refine XS.sipush X0.here hx rfl (hb hby d2_1) ?_
    show Steps p.tables e below (s₁.setTop (mkF m 4 #[iv u0] [(.int (255 : Int32)), (.int u0)])) _
    refine XS.icmpNo X0.here hx rfl (hb hby d2_4) rfl (flt hc).2.2.1 ?_
    show Steps p.tables e below (s₁.setTop (mkF m 7 #[iv u0] [])) _
    refine XS.iconst X0.here hx rfl (hb hby d2_7) ?_
    show Steps p.tables e below (s₁.setTop (mkF m 8 #[iv u0] [(.int (1 : Int32))])) _
    refine XS.goto X0.here hx rfl (pc0 := 8) (pc' := 12) rfl (hb hby d2_8) (by decide) (by decide) ?_
    show Steps p.tables e below (s₁.setTop (mkF m 12 #[iv u0] [(.int (1 : Int32))])) _
    exact retN X0 hx (t := .boolean) Bd.returns (by simp) (hb hby d2_12) hr
  · show QCanE Z u0 h0 n0 _ s₁.heap _
    rw [e0]
    exact ⟨rfl, N0, rfl⟩
theorem d3_0 : decode jdk_43_method_46_code 0 = .ok (.iconst 1, 1) := by decide +kernel
theorem d3_1 : decode jdk_43_method_46_code 1 = .ok (.newarray .byte, 2) := by decide +kernel
theorem d3_3 : decode jdk_43_method_46_code 3 = .ok (.dup, 1) := by decide +kernel
theorem d3_4 : decode jdk_43_method_46_code 4 = .ok (.iconst 0, 1) := by decide +kernel
theorem d3_5 : decode jdk_43_method_46_code 5 = .ok (.iload_n 0, 1) := by decide +kernel
theorem d3_6 : decode jdk_43_method_46_code 6 = .ok (.i2b, 1) := by decide +kernel
theorem d3_7 : decode jdk_43_method_46_code 7 = .ok (.bastore, 1) := by decide +kernel
theorem d3_8 : decode jdk_43_method_46_code 8 = .ok (.areturn, 1) := by decide +kernel
def QToB (Z : State) (u0 : Int32)  (h0 : Heap) (n0 : Nat) (v : Option Value) (h : Heap) (L : List Loc) : Prop := ∃ b : Addr, v = some (.ref b) ∧ Fr n0 L ∧ Keep h0 h [] ∧ n0 ≤ b ∧ h0.size ≤ b
theorem ef_rmToB (m : MethodId) (u0 : Int32) : entryFrame m #[(.int u0)] 1 = mkF m 0 #[iv u0] [] := by first | (simp [entryFrame, mkF, argsToLocals, Value.category]; done) | rfl
set_option maxRecDepth 65536 in
set_option maxHeartbeats 40000000 in
theorem rmToB (l : Launch) (Z : State) (a0 : Array Value) (hw : ∀ d ∈ tables_1, d.before a0 Z = true) (ws : List Jvm.Cond) (u0 : Int32)  (h0 : Heap) (n0 : Nat) (Z0 : n0 ≤ h0.size) :
    MetFree l (⟨"java/lang/StringLatin1", "toBytes", "(C)[B"⟩ : MethodName) (head1 (Jvm.Cond.code (⟨"java/lang/StringLatin1", "toBytes", "(C)[B"⟩ : MethodName) jdk_43_method_46_code 1 (some (.array .byte)) :: ws) ({ frames := 0, cells := 1, slots := 1, locals := 0 } : Room)) (fun a U => a = #[(.int u0)] ∧ Z.Warmed39 U.vm ∧ U.heap = h0) (fun _ _ _ _ _ => True) (fun _ U o U' => ∃ v L, o = .returned v ∧ QToB Z u0 h0 n0 v U'.heap L ∧ FrameEnd U o U' L ({ frames := 0, cells := 1, slots := 1, locals := 0 } : Room).cells ({ frames := 0, cells := 1, slots := 1, locals := 0 } : Room).slots) := by
  refine MetFree.of_bodySF (plainFor_of_name pn_0) hisR ?_
  intro p e s m args below meth c s₁ Bd hml0 hP hK
  obtain ⟨rfl, hZ, hh⟩ := hP
  have hx := Bd.exec
  have hby := Bd.bytes
  have hml : c.maxLocals = 1 := hml0
  have hown : s.vm.findClass "java/lang/StringLatin1" = some m.cls := findClass_of_methodNamed Bd.named
  have hnm := (name_of_methodNamed Bd.named Bd.method).1
  have X0 : Stand p l e ({ frames := 0, cells := 1, slots := 1, locals := 0 } : Room) s m #[(.int u0)] below meth c s₁ [] 0 0 := Stand.of_body Bd
  have e0 : s₁.heap = h0 := by rw [← hh, Bd.state]; rfl
  have N0 := Fr.nil n0
  have S0 : ∀ t, Steps p.tables e below (s₁.setTop (mkF m 0 #[iv u0] [])) t → Steps p.tables e below (s₁.setTop (entryFrame m #[(.int u0)] 1)) t := fun t k => castTop (ef_rmToB m u0) k
  have K0 : Keep h0 h0 [] := Keep.refl _ _
  obtain ⟨T1, h1, k1, X1, e1, E1, A1, st1⟩ := newP X0 hx hZ (hw _ (List.mem_of_getElem? (i := 15) rfl)) e0 (g := (mkF m 1 #[iv u0] [(.int (1 : Int32))])) rfl (hb hby d3_1) rfl (by decide) (cap := 1) (by decide) (by decide) (by decide) (by decide)
  obtain ⟨b1, g1⟩ : ∃ z, z = h0.size := ⟨_, rfl⟩
  rw [← g1] at A1 st1
  have ge_b1 : n0 ≤ b1 := Nat.le_trans Z0 (Nat.le_of_eq g1.symm)
  have V1 : Arv Z h1 b1 k1 .byte (1 : Int32) [(.int (0 : Int32))] (.int (0 : Int32)) := (Arv.new A1 (by decide)).pad (pad_rep [] (.int (0 : Int32)) 1)
  have Z1 : n0 ≤ h1.size := Nat.le_trans Z0 E1.1
  have K1 : Keep h0 h1 [] := K0.ext E1
  have sz_b1 : h0.size ≤ b1 := Nat.le_trans K0.1 (Nat.le_of_eq g1.symm)
  obtain ⟨cl2, Ar2, qa2, Sa2, Na2, Ha2, Ga2⟩ := id V1
  have hin2 : ¬ ((0 : Int32) < 0 ∨ cl2.slots.size ≤ ((0 : Int32)).toNatClampNeg) := inb_of Sa2 ⟨by decide, by decide⟩
  obtain ⟨T3, h3, X3, e3, W3, st3⟩ := stB X1 hx hZ e1 Ar2 (j := (0 : Int32)) hin2 (g := (mkF m 7 #[iv u0] [(.int (u0.toInt8.toInt32)), (.int (0 : Int32)), (.ref b1), (.ref b1)])) rfl rfl (hb hby d3_7)
  rw [own_nb] at W3
  have V3 : Arv Z h3 b1 k1 .byte (1 : Int32) [(.int (u0.toInt8.toInt32))] (.int (0 : Int32)) := Arv.set Ar2 qa2 Sa2 Na2 Ha2 Ga2 (own_fb _) W3 0 rfl (Nat.le_of_ble_eq_true rfl)
  have N3 := Fr.snoc X3 N0 ge_b1
  have Z3 : n0 ≤ h3.size := Nat.le_trans Z1 (Keep.of_wr W3).1
  have K3 : Keep h0 h3 [] := K1.wr W3 (Or.inr sz_b1)
  obtain ⟨fs, hr, hrun, hended, hW, hsame⟩ := X3.leave (v := some (.ref b1)) (fun h => by rw [Bd.returns] at h; cases h)
  refine ⟨_, _, S0 _ ?_, hrun, hended, _, _, rfl, ?_, ⟨_, rfl⟩, hW, hsame.mono (by decide) (by decide)⟩
  · skip
    show Steps p.tables e below (s₁.setTop (mkF m 0 #[iv u0] [])) _
    refine XS.iconst X0.here hx rfl (hb hby d3_0) ?_
    show Steps p.tables e below (s₁.setTop (mkF m 1 #[iv u0] [(.int (1 : Int32))])) _
    refine st1 _ ?_
    show Steps p.tables e below (T1.setTop (mkF m 3 #[iv u0] [(.ref b1)])) _
    refine XS.dup X1.here hx rfl (hb hby d3_3) rfl rfl ?_
    show Steps p.tables e below (T1.setTop (mkF m 4 #[iv u0] [(.ref b1), (.ref b1)])) _
    refine XS.iconst X1.here hx rfl (hb hby d3_4) ?_
    show Steps p.tables e below (T1.setTop (mkF m 5 #[iv u0] [(.int (0 : Int32)), (.ref b1), (.ref b1)])) _
    refine XS.iloadN X1.here hx rfl (hb hby d3_5) rfl ?_
    show Steps p.tables e below (T1.setTop (mkF m 6 #[iv u0] [(.int u0), (.int (0 : Int32)), (.ref b1), (.ref b1)])) _
    refine XS.i2b X1.here hx rfl (hb hby d3_6) rfl ?_
    show Steps p.tables e below (T1.setTop (mkF m 7 #[iv u0] [(.int (u0.toInt8.toInt32)), (.int (0 : Int32)), (.ref b1), (.ref b1)])) _
    refine st3 _ ?_
    show Steps p.tables e below (T3.setTop (mkF m 8 #[iv u0] [(.ref b1)])) _
    jvm_step X3.here [X3.here.top, hx, (hb hby d3_8), X3.method', Bd.returns, Value.isRef, FieldType.isReference]
    first | (intro acts; rw [hr _ acts rfl rfl rfl]) | rw [hr _ _ rfl rfl rfl]
    exact Steps.refl _
  · show QToB Z u0 h0 n0 _ T3.heap _
    rw [e3]
    exact ⟨_, rfl, N3, K3, ge_b1, sz_b1⟩
theorem d4_0 : decode jdk_42_method_151_code 0 = .ok (.aload_n 0, 1) := by decide +kernel
theorem d4_1 : decode jdk_42_method_151_code 1 = .ok (.invokespecial 1, 3) := by decide +kernel
theorem d4_4 : decode jdk_42_method_151_code 4 = .ok (.aload_n 0, 1) := by decide +kernel
theorem d4_5 : decode jdk_42_method_151_code 5 = .ok (.aload_n 1, 1) := by decide +kernel
theorem d4_6 : decode jdk_42_method_151_code 6 = .ok (.putfield 9, 3) := by decide +kernel
theorem d4_9 : decode jdk_42_method_151_code 9 = .ok (.aload_n 0, 1) := by decide +kernel
theorem d4_10 : decode jdk_42_method_151_code 10 = .ok (.iload_n 2, 1) := by decide +kernel
theorem d4_11 : decode jdk_42_method_151_code 11 = .ok (.putfield 15, 3) := by decide +kernel
theorem d4_14 : decode jdk_42_method_151_code 14 = .ok (.return_, 1) := by decide +kernel
theorem pn_1 : plainName "java/lang/String" = true := by first | (simp [plainName, overriddenIn]; done) | decide +kernel
def QStrI (Z : State) (a0_ : Addr) (a1_ : Addr)  (h0 : Heap) (n0 : Nat) (v : Option Value) (h : Heap) (L : List Loc) : Prop := v = none ∧ Fr n0 L ∧ Keep h0 h [a0_] ∧ Exa Z h a0_ "java/lang/String"
theorem ef_rmStrI (m : MethodId) (a0_ : Addr) (a1_ : Addr) : entryFrame m #[(.ref a0_), (.ref a1_), (.int (0 : Int32))] 3 = mkF m 0 #[rv a0_, rv a1_, iv (0 : Int32)] [] := by first | (simp [entryFrame, mkF, argsToLocals, Value.category]; done) | rfl
set_option maxRecDepth 65536 in
set_option maxHeartbeats 40000000 in
theorem rmStrI (l : Launch) (Z : State) (a0 : Array Value) (hw : ∀ d ∈ tables_1, d.before a0 Z = true) (ws : List Jvm.Cond) (a0_ : Addr) (a1_ : Addr)  (h0 : Heap) (n0 : Nat) (Z0 : n0 ≤ h0.size) (E1 : Exa Z h0 a0_ "java/lang/String") (F1 : Fld Z h0 a0_ "java/lang/String" "value" "[B" .null) (F2 : Fld Z h0 a0_ "java/lang/String" "coder" "B" (.int (0 : Int32))) (g0 : n0 ≤ a0_) :
    MetFree l (⟨"java/lang/String", "<init>", "([BB)V"⟩ : MethodName) (head1 (Jvm.Cond.code (⟨"java/lang/String", "<init>", "([BB)V"⟩ : MethodName) jdk_42_method_151_code 3 none :: ws) ({ frames := 1, cells := 0, slots := 0, locals := 12 } : Room)) (fun a U => a = #[(.ref a0_), (.ref a1_), (.int (0 : Int32))] ∧ Z.Warmed39 U.vm ∧ U.heap = h0) (fun _ _ _ _ _ => True) (fun _ U o U' => ∃ v L, o = .returned v ∧ QStrI Z a0_ a1_ h0 n0 v U'.heap L ∧ FrameEnd U o U' L ({ frames := 1, cells := 0, slots := 0, locals := 12 } : Room).cells ({ frames := 1, cells := 0, slots := 0, locals := 12 } : Room).slots) := by
  refine MetFree.of_bodySF (plainFor_of_name pn_1) hisR ?_
  intro p e s m args below meth c s₁ Bd hml0 hP hK
  obtain ⟨rfl, hZ, hh⟩ := hP
  have hx := Bd.exec
  have hby := Bd.bytes
  have hml : c.maxLocals = 3 := hml0
  have hown : s.vm.findClass "java/lang/String" = some m.cls := findClass_of_methodNamed Bd.named
  have hnm := (name_of_methodNamed Bd.named Bd.method).1
  have X0 : Stand p l e ({ frames := 1, cells := 0, slots := 0, locals := 12 } : Room) s m #[(.ref a0_), (.ref a1_), (.int (0 : Int32))] below meth c s₁ [] 0 0 := Stand.of_body Bd
  have e0 : s₁.heap = h0 := by rw [← hh, Bd.state]; rfl
  have N0 := Fr.nil n0
  have S0 : ∀ t, Steps p.tables e below (s₁.setTop (mkF m 0 #[rv a0_, rv a1_, iv (0 : Int32)] [])) t → Steps p.tables e below (s₁.setTop (entryFrame m #[(.ref a0_), (.ref a1_), (.int (0 : Int32))] 3)) t := fun t k => castTop (ef_rmStrI m a0_ a1_) k
  have K0 : Keep h0 h0 [a0_] := Keep.refl _ _
  obtain ⟨T1, X1, e1, st1⟩ := initO X0 hx hZ hown (hw _ (List.mem_of_getElem? (i := 20) rfl)) (hw _ (List.mem_of_getElem? (i := 21) rfl)) (hw _ (List.mem_of_getElem? (i := 22) rfl)) e0 (g := (mkF m 1 #[rv a0_, rv a1_, iv (0 : Int32)] [(.ref a0_)])) rfl (by rw [hml]; rfl) rfl (hb hby d4_1) (by decide) (W := 0) (by show 2 * 0 + _ ≤ _; exact Nat.le_of_eq rfl) (by decide)
  obtain ⟨T2, h2, X2, e2, W2, st2⟩ := putF X1 hx hZ hown (host := "") (Or.inl (hw _ (List.mem_of_getElem? (i := 23) rfl))) Via.refl e1 F1 E1 (Or.inr ⟨(hw _ (List.mem_of_getElem? (i := 24) rfl)), rfl, hnm⟩) (hw _ (List.mem_of_getElem? (i := 11) rfl)) (ty := (.array .byte)) (by decide) rfl rfl (g := (mkF m 6 #[rv a0_, rv a1_, iv (0 : Int32)] [(.ref a1_), (.ref a0_)])) rfl rfl (hb hby d4_6)
  have Fw2 := F1.same W2
  have f3 := F2.other W2 (Or.inr (slot_ne (Or.inr (hw _ (List.mem_of_getElem? (i := 26) rfl))) (Or.inr (hw _ (List.mem_of_getElem? (i := 24) rfl))) (by decide) (t := .byte) (t' := (.array .byte)) (by decide) (by decide)))
  have f4 := E1.wr W2
  have N2 := Fr.snoc X2 N0 g0
  have Z2 : n0 ≤ h2.size := Nat.le_trans Z0 (Keep.of_wr W2).1
  have K2 : Keep h0 h2 [a0_] := K0.wr W2 (Or.inl (List.mem_of_getElem? (i := 0) rfl))
  obtain ⟨T8, h8, X8, e8, W8, st8⟩ := putFN X2 hx hZ hown (hw _ (List.mem_of_getElem? (i := 25) rfl)) Via.refl e2 f3 f4 (Or.inr ⟨(hw _ (List.mem_of_getElem? (i := 26) rfl)), rfl, hnm⟩) (hw _ (List.mem_of_getElem? (i := 11) rfl)) (ty := .byte) (v' := (.int (nar .byte (0 : Int32)))) (by decide) rfl (fits_nar_byte _) (g := (mkF m 11 #[rv a0_, rv a1_, iv (0 : Int32)] [(.int (0 : Int32)), (.ref a0_)])) rfl rfl (hb hby d4_11)
  have Fw8 := f3.same W8
  have f9 := Fw2.other W8 (Or.inr (slot_ne (Or.inr (hw _ (List.mem_of_getElem? (i := 24) rfl))) (Or.inr (hw _ (List.mem_of_getElem? (i := 26) rfl))) (by decide) (t := (.array .byte)) (t' := .byte) (by decide) (by decide)))
  have f10 := f4.wr W8
  have N8 := Fr.snoc X8 N2 g0
  have Z8 : n0 ≤ h8.size := Nat.le_trans Z2 (Keep.of_wr W8).1
  have K8 : Keep h0 h8 [a0_] := K2.wr W8 (Or.inl (List.mem_of_getElem? (i := 0) rfl))
  obtain ⟨fs, hr, hrun, hended, hW, hsame⟩ := X8.leave (v := none) (fun _ => rfl)
  refine ⟨_, _, S0 _ ?_, hrun, hended, _, _, rfl, ?_, ⟨_, rfl⟩, hW, hsame.mono (by decide) (by decide)⟩
  · skip
    show Steps p.tables e below (s₁.setTop (mkF m 0 #[rv a0_, rv a1_, iv (0 : Int32)] [])) _
    refine XS.aloadN X0.here hx rfl (hb hby d4_0) rfl rfl ?_
    show Steps p.tables e below (s₁.setTop (mkF m 1 #[rv a0_, rv a1_, iv (0 : Int32)] [(.ref a0_)])) _
    refine st1 _ ?_
    show Steps p.tables e below (T1.setTop (mkF m 4 #[rv a0_, rv a1_, iv (0 : Int32)] [])) _
    refine XS.aloadN X1.here hx rfl (hb hby d4_4) rfl rfl ?_
    show Steps p.tables e below (T1.setTop (mkF m 5 #[rv a0_, rv a1_, iv (0 : Int32)] [(.ref a0_)])) _
    refine XS.aloadN X1.here hx rfl (hb hby d4_5) rfl rfl ?_
    show Steps p.tables e below (T1.setTop (mkF m 6 #[rv a0_, rv a1_, iv (0 : Int32)] [(.ref a1_), (.ref a0_)])) _
    refine st2 _ ?_
    show Steps p.tables e below (T2.setTop (mkF m 9 #[rv a0_, rv a1_, iv (0 : Int32)] [])) _
    refine XS.aloadN X2.here hx rfl (hb hby d4_9) rfl rfl ?_
    show Steps p.tables e below (T2.setTop (mkF m 10 #[rv a0_, rv a1_, iv (0 : Int32)] [(.ref a0_)])) _
    refine XS.iloadN X2.here hx rfl (hb hby d4_10) rfl ?_
    show Steps p.tables e below (T2.setTop (mkF m 11 #[rv a0_, rv a1_, iv (0 : Int32)] [(.int (0 : Int32)), (.ref a0_)])) _
    refine st8 _ ?_
    show Steps p.tables e below (T8.setTop (mkF m 14 #[rv a0_, rv a1_, iv (0 : Int32)] [])) _
    exact X8.returnOut hx Bd.returns (hb hby d4_14) hr
  · show QStrI Z a0_ a1_ h0 n0 _ T8.heap _
    rw [e8]
    exact ⟨rfl, N8, K8, f10⟩
theorem d1_0 : decode jdk_42_method_139_code 0 = .ok (.getstatic 38, 3) := by decide +kernel
theorem d1_3 : decode jdk_42_method_139_code 3 = .ok (.ifCond .eq 23, 3) := by decide +kernel
theorem d1_6 : decode jdk_42_method_139_code 6 = .ok (.iload_n 0, 1) := by decide +kernel
theorem d1_7 : decode jdk_42_method_139_code 7 = .ok (.invokestatic 1015, 3) := by decide +kernel
theorem pd_0 : parseMethodDescriptor "(C)Z" = some ⟨[.char], some .boolean⟩ := by decide +kernel
theorem d1_10 : decode jdk_42_method_139_code 10 = .ok (.ifCond .eq 16, 3) := by decide +kernel
theorem d1_13 : decode jdk_42_method_139_code 13 = .ok (.new 10, 3) := by decide +kernel
theorem d1_16 : decode jdk_42_method_139_code 16 = .ok (.dup, 1) := by decide +kernel
theorem d1_17 : decode jdk_42_method_139_code 17 = .ok (.iload_n 0, 1) := by decide +kernel
theorem d1_18 : decode jdk_42_method_139_code 18 = .ok (.invokestatic 1018, 3) := by decide +kernel
theorem pd_1 : parseMethodDescriptor "(C)[B" = some ⟨[.char], some (.array .byte)⟩ := by decide +kernel
theorem d1_21 : decode jdk_42_method_139_code 21 = .ok (.iconst 0, 1) := by decide +kernel
theorem d1_22 : decode jdk_42_method_139_code 22 = .ok (.invokespecial 209, 3) := by decide +kernel
theorem pd_2 : parseMethodDescriptor "([BB)V" = some ⟨[(.array .byte), .byte], none⟩ := by decide +kernel
theorem d1_25 : decode jdk_42_method_139_code 25 = .ok (.areturn, 1) := by decide +kernel
def QVal (Z : State) (u0 : Int32) (G1 : Int32) (h0 : Heap) (n0 : Nat) (v : Option Value) (h : Heap) (L : List Loc) : Prop := ∃ b : Addr, v = some (.ref b) ∧ Fr n0 L ∧ Keep h0 h [] ∧ n0 ≤ b ∧ h0.size ≤ b ∧ Exa Z h b "java/lang/String"
theorem ef_rmVal (m : MethodId) (u0 : Int32) : entryFrame m #[(.int u0)] 1 = mkF m 0 #[iv u0] [] := by first | (simp [entryFrame, mkF, argsToLocals, Value.category]; done) | rfl
set_option maxRecDepth 65536 in
set_option maxHeartbeats 40000000 in
theorem rmVal (l : Launch) (Z : State) (a0 : Array Value) (hw : ∀ d ∈ tables_1, d.before a0 Z = true) (ws : List Jvm.Cond) (u0 : Int32) (G1 : Int32) (h0 : Heap) (n0 : Nat) (Z0 : n0 ≤ h0.size) (hO : Old Z n0 h0) (O2 : Sta Z Z.heap "java/lang/String" "COMPACT_STRINGS" "Z" (.int G1)) (P3 : ¬ (G1 = (0 : Int32))) (hc : ¬ (255 : Int32) < u0) :
    MetFree l (⟨"java/lang/String", "valueOf", "(C)Ljava/lang/String;"⟩ : MethodName) (head1 (Jvm.Cond.code (⟨"java/lang/String", "valueOf", "(C)Ljava/lang/String;"⟩ : MethodName) jdk_42_method_139_code 1 (some (.object "java/lang/String")) :: ws) ({ frames := 2, cells := 2, slots := 5, locals := 27 } : Room)) (fun a U => a = #[(.int u0)] ∧ Z.Warmed39 U.vm ∧ U.heap = h0) (fun _ _ _ _ _ => True) (fun _ U o U' => ∃ v L, o = .returned v ∧ QVal Z u0 G1 h0 n0 v U'.heap L ∧ FrameEnd U o U' L ({ frames := 2, cells := 2, slots := 5, locals := 27 } : Room).cells ({ frames := 2, cells := 2, slots := 5, locals := 27 } : Room).slots) := by
  refine MetFree.of_bodySF (plainFor_of_name pn_1) hisR ?_
  intro p e s m args below meth c s₁ Bd hml0 hP hK
  obtain ⟨rfl, hZ, hh⟩ := hP
  have hx := Bd.exec
  have hby := Bd.bytes
  have hml : c.maxLocals = 1 := hml0
  have hown : s.vm.findClass "java/lang/String" = some m.cls := findClass_of_methodNamed Bd.named
  have hnm := (name_of_methodNamed Bd.named Bd.method).1
  have X0 : Stand p l e ({ frames := 2, cells := 2, slots := 5, locals := 27 } : Room) s m #[(.int u0)] below meth c s₁ [] 0 0 := Stand.of_body Bd
  have e0 : s₁.heap = h0 := by rw [← hh, Bd.state]; rfl
  have N0 := Fr.nil n0
  have S0 : ∀ t, Steps p.tables e below (s₁.setTop (mkF m 0 #[iv u0] [])) t → Steps p.tables e below (s₁.setTop (entryFrame m #[(.int u0)] 1)) t := fun t k => castTop (ef_rmVal m u0) k
  have K0 : Keep h0 h0 [] := Keep.refl _ _
  obtain ⟨T1, X1, e1, st1⟩ := getS2 X0 hx hZ hown (host := "") (Or.inl (hw _ (List.mem_of_getElem? (i := 5) rfl))) Via.refl e0 (O2.ext hO.2) (g := (mkF m 0 #[iv u0] [])) rfl (hb hby d1_0)
  obtain ⟨_, _, ⟨T2, L2, k2, n2⟩, -, X2, ⟨Lc2, hQ2, l2, y2, z2⟩, st2⟩ := Jvm.LawKit.callS X1 hx (y := (⟨"java/lang/StringLatin1", "canEncode", "(C)Z"⟩ : MethodName)) hown (mvT hZ (hw _ (List.mem_of_getElem? (i := 6) rfl))) (mvT hZ (hw _ (List.mem_of_getElem? (i := 7) rfl))) (mvT hZ (hw _ (List.mem_of_getElem? (i := 8) rfl))) (mvT hZ (hw _ (List.mem_of_getElem? (i := 9) rfl))) (by decide) (backOf (W := 0) (rmCanE l Z a0 hw [] u0 h0 n0 Z0 hc) hZ (hw _ (List.mem_of_getElem? (i := 9) rfl)) (hw _ (List.mem_of_getElem? (i := 8) rfl)) (by decide) (by decide)) (g := (mkF m 7 #[iv u0] [(.int u0)])) rfl (by rw [hml]; rfl) (argsL := [(.int u0)]) (rest := []) (lenOf pd_0 rfl) rfl (by show 2 * 0 + _ ≤ _; exact Nat.le_of_eq rfl) (hb hby d1_7) (fun _ _ => ⟨rfl, e1, (by decide : 0 + 0 ≤ _), (by decide : 0 + 0 ≤ _)⟩)
  dsimp only [Pt.U, Pt.locs, Pt.cells, Pt.slots] at X2 l2 y2 z2 st2 hQ2
  subst y2 z2
  obtain ⟨rfl, Nq2, eq2⟩ := hQ2
  have N2 : Fr n0 L2 := by rw [l2]; exact Fr.app N0 Nq2
  obtain ⟨T3, h3, X3, e3, E3, A3, D3, -, st3⟩ := newO X2 hx hZ hown (hw _ (List.mem_of_getElem? (i := 10) rfl)) (hw _ (List.mem_of_getElem? (i := 11) rfl)) (hw _ (List.mem_of_getElem? (i := 3) rfl)) eq2 (g := (mkF m 13 #[iv u0] [])) rfl (hb hby d1_13) (by decide) (by decide)
  obtain ⟨b3, g3⟩ : ∃ z, z = h0.size := ⟨_, rfl⟩
  rw [← g3] at A3 D3 st3
  have ge_b3 : n0 ≤ b3 := Nat.le_trans Z0 (Nat.le_of_eq g3.symm)
  have F3_value : Fld Z h3 b3 "java/lang/String" "value" "[B" .null := D3 (Or.inr (hw _ (List.mem_of_getElem? (i := 24) rfl))) (ty := (.array .byte)) (by decide)
  have F3_coder : Fld Z h3 b3 "java/lang/String" "coder" "B" (.int (0 : Int32)) := D3 (Or.inr (hw _ (List.mem_of_getElem? (i := 26) rfl))) (ty := .byte) (by decide)
  have Z3 : n0 ≤ h3.size := Nat.le_trans Z0 E3.1
  have K3 : Keep h0 h3 [] := K0.ext E3
  have sz_b3 : h0.size ≤ b3 := Nat.le_trans K0.1 (Nat.le_of_eq g3.symm)
  obtain ⟨_, _, ⟨T4, L4, k4, n4⟩, -, X4, ⟨Lc4, hQ4, l4, y4, z4⟩, st4⟩ := Jvm.LawKit.callS X3 hx (y := (⟨"java/lang/StringLatin1", "toBytes", "(C)[B"⟩ : MethodName)) hown (mvT hZ (hw _ (List.mem_of_getElem? (i := 12) rfl))) (mvT hZ (hw _ (List.mem_of_getElem? (i := 13) rfl))) (mvT hZ (hw _ (List.mem_of_getElem? (i := 8) rfl))) (mvT hZ (hw _ (List.mem_of_getElem? (i := 14) rfl))) (by decide) (backOf (W := 2) (rmToB l Z a0 hw [] u0 h3 n0 Z3) hZ (hw _ (List.mem_of_getElem? (i := 14) rfl)) (hw _ (List.mem_of_getElem? (i := 8) rfl)) (by decide) (by decide)) (g := (mkF m 18 #[iv u0] [(.int u0), (.ref b3), (.ref b3)])) rfl (by rw [hml]; rfl) (argsL := [(.int u0)]) (rest := [(.ref b3), (.ref b3)]) (lenOf pd_1 rfl) rfl (by show 2 * 0 + _ ≤ _; exact Nat.le_of_eq rfl) (hb hby d1_18) (fun _ _ => ⟨rfl, e3, (by decide : 1 + 1 ≤ _), (by decide : 4 + 1 ≤ _)⟩)
  dsimp only [Pt.U, Pt.locs, Pt.cells, Pt.slots] at X4 l4 y4 z4 st4 hQ4
  subst y4 z4
  obtain ⟨by4, rfl, Nq4, Kq4, -, -⟩ := hQ4
  have N4 : Fr n0 L4 := by rw [l4]; exact Fr.app N2 Nq4
  have Z4 : n0 ≤ T4.heap.size := Nat.le_trans Z3 Kq4.1
  have K4 : Keep h0 T4.heap [] := K3.trans Kq4 all0
  have f5 := A3.keep Kq4
  have f6 := F3_value.keep Kq4 nin0
  have f7 := F3_coder.keep Kq4 nin0
  obtain ⟨_, _, ⟨T8, L8, k8, n8⟩, -, X8, ⟨Lc8, hQ8, l8, y8, z8⟩, st8⟩ := X4.specialBack hx (y := (⟨"java/lang/String", "<init>", "([BB)V"⟩ : MethodName)) rfl hown (mvT hZ (hw _ (List.mem_of_getElem? (i := 16) rfl))) (mvT hZ (hw _ (List.mem_of_getElem? (i := 17) rfl))) (mvT hZ (hw _ (List.mem_of_getElem? (i := 19) rfl))) (by decide) (backOf (W := 1) (rmStrI l Z a0 hw [] b3 by4 T4.heap n0 Z4 f5 f6 f7 ge_b3) hZ (hw _ (List.mem_of_getElem? (i := 19) rfl)) (hw _ (List.mem_of_getElem? (i := 3) rfl)) (by decide) (by decide)) (g := (mkF m 22 #[iv u0] [(.int (0 : Int32)), (.ref by4), (.ref b3), (.ref b3)])) rfl (by rw [hml]; rfl) (Steps.refl _) (a := b3) (argsL := [(.ref by4), (.int (0 : Int32))]) (rest := [(.ref b3)]) (lenOf pd_2 rfl) rfl (by show 2 * 0 + _ ≤ _; exact Nat.le_of_eq rfl) (hb hby d1_22) (fun _ _ => ⟨rfl, rfl, (by decide : 2 + 0 ≤ _), (by decide : 5 + 0 ≤ _)⟩)
  dsimp only [Pt.U, Pt.locs, Pt.cells, Pt.slots] at X8 l8 y8 z8 st8 hQ8
  subst y8 z8
  obtain ⟨rfl, Nq8, Kq8, Eq8⟩ := hQ8
  have N8 : Fr n0 L8 := by rw [l8]; exact Fr.app N4 Nq8
  have K8 : Keep h0 T8.heap [] := K4.trans Kq8 (allS (Or.inr sz_b3) all0)
  obtain ⟨fs, hr, hrun, hended, hW, hsame⟩ := X8.leave (v := some (.ref b3)) (fun h => by rw [Bd.returns] at h; cases h)
  refine ⟨_, _, S0 _ ?_, hrun, hended, _, _, rfl, ?_, ⟨_, rfl⟩, hW, hsame.mono (by decide) (by decide)⟩
  · skip
    show Steps p.tables e below (s₁.setTop (mkF m 0 #[iv u0] [])) _
    refine st1 _ ?_
    show Steps p.tables e below (T1.setTop (mkF m 3 #[iv u0] [(.int G1)])) _
    refine XS.ifNo X1.here hx rfl (hb hby d1_3) rfl ((if0 _ _).trans (feq P3).1) ?_
    show Steps p.tables e below (T1.setTop (mkF m 6 #[iv u0] [])) _
    refine XS.iloadN X1.here hx rfl (hb hby d1_6) rfl ?_
    show Steps p.tables e below (T1.setTop (mkF m 7 #[iv u0] [(.int u0)])) _
    refine st2 _ ?_
    show Steps p.tables e below (T2.setTop (mkF m 10 #[iv u0] [(.int (1 : Int32))])) _
    refine XS.ifNo X2.here hx rfl (hb hby d1_10) rfl ((if0 _ _).trans (feq (by decide : ¬ ((1 : Int32) = (0 : Int32)))).1) ?_
    show Steps p.tables e below (T2.setTop (mkF m 13 #[iv u0] [])) _
    refine st3 _ ?_
    show Steps p.tables e below (T3.setTop (mkF m 16 #[iv u0] [(.ref b3)])) _
    refine XS.dup X3.here hx rfl (hb hby d1_16) rfl rfl ?_
    show Steps p.tables e below (T3.setTop (mkF m 17 #[iv u0] [(.ref b3), (.ref b3)])) _
    refine XS.iloadN X3.here hx rfl (hb hby d1_17) rfl ?_
    show Steps p.tables e below (T3.setTop (mkF m 18 #[iv u0] [(.int u0), (.ref b3), (.ref b3)])) _
    refine st4 _ ?_
    show Steps p.tables e below (T4.setTop (mkF m 21 #[iv u0] [(.ref by4), (.ref b3), (.ref b3)])) _
    refine XS.iconst X4.here hx rfl (hb hby d1_21) ?_
    show Steps p.tables e below (T4.setTop (mkF m 22 #[iv u0] [(.int (0 : Int32)), (.ref by4), (.ref b3), (.ref b3)])) _
    refine st8.trans ?_
    show Steps p.tables e below (T8.setTop (mkF m 25 #[iv u0] [(.ref b3)])) _
    jvm_step X8.here [X8.here.top, hx, (hb hby d1_25), X8.method', Bd.returns, Value.isRef, FieldType.isReference]
    first | (intro acts; rw [hr _ acts rfl rfl rfl]) | rw [hr _ _ rfl rfl rfl]
    exact Steps.refl _
  · show QVal Z u0 G1 h0 n0 _ T8.heap _
    exact ⟨_, rfl, N8, K8, ge_b3, sz_b3, Eq8⟩
theorem d7_0 : decode jdk_31_method_10_code 0 = .ok (.aload_n 0, 1) := by decide +kernel
theorem d7_1 : decode jdk_31_method_10_code 1 = .ok (.ifnonnull 11, 3) := by decide +kernel
theorem d7_12 : decode jdk_31_method_10_code 12 = .ok (.aload_n 0, 1) := by decide +kernel
theorem d7_13 : decode jdk_31_method_10_code 13 = .ok (.areturn, 1) := by decide +kernel
theorem pn_2 : plainName "java/util/Objects" = true := by first | (simp [plainName, overriddenIn]; done) | decide +kernel
def QRnn (Z : State) (a0_ : Addr)  (h0 : Heap) (n0 : Nat) (v : Option Value) (h : Heap) (L : List Loc) : Prop := v = some (.ref a0_) ∧ Fr n0 L ∧ h = h0
theorem ef_rmRnn (m : MethodId) (a0_ : Addr) : entryFrame m #[(.ref a0_)] 1 = mkF m 0 #[rv a0_] [] := by first | (simp [entryFrame, mkF, argsToLocals, Value.category]; done) | rfl
set_option maxRecDepth 65536 in
set_option maxHeartbeats 40000000 in
theorem rmRnn (l : Launch) (Z : State) (a0 : Array Value) (hw : ∀ d ∈ tables_1, d.before a0 Z = true) (ws : List Jvm.Cond) (a0_ : Addr)  (h0 : Heap) (n0 : Nat) (Z0 : n0 ≤ h0.size) :
    MetFree l (⟨"java/util/Objects", "requireNonNull", "(Ljava/lang/Object;)Ljava/lang/Object;"⟩ : MethodName) (head1 (Jvm.Cond.code (⟨"java/util/Objects", "requireNonNull", "(Ljava/lang/Object;)Ljava/lang/Object;"⟩ : MethodName) jdk_31_method_10_code 1 (some (.object "java/lang/Object")) :: ws) ({ frames := 0, cells := 0, slots := 0, locals := 0 } : Room)) (fun a U => a = #[(.ref a0_)] ∧ Z.Warmed39 U.vm ∧ U.heap = h0) (fun _ _ _ _ _ => True) (fun _ U o U' => ∃ v L, o = .returned v ∧ QRnn Z a0_ h0 n0 v U'.heap L ∧ FrameEnd U o U' L ({ frames := 0, cells := 0, slots := 0, locals := 0 } : Room).cells ({ frames := 0, cells := 0, slots := 0, locals := 0 } : Room).slots) := by
  refine MetFree.of_bodySF (plainFor_of_name pn_2) hisR ?_
  intro p e s m args below meth c s₁ Bd hml0 hP hK
  obtain ⟨rfl, hZ, hh⟩ := hP
  have hx := Bd.exec
  have hby := Bd.bytes
  have hml : c.maxLocals = 1 := hml0
  have hown : s.vm.findClass "java/util/Objects" = some m.cls := findClass_of_methodNamed Bd.named
  have hnm := (name_of_methodNamed Bd.named Bd.method).1
  have X0 : Stand p l e ({ frames := 0, cells := 0, slots := 0, locals := 0 } : Room) s m #[(.ref a0_)] below meth c s₁ [] 0 0 := Stand.of_body Bd
  have e0 : s₁.heap = h0 := by rw [← hh, Bd.state]; rfl
  have N0 := Fr.nil n0
  have S0 : ∀ t, Steps p.tables e below (s₁.setTop (mkF m 0 #[rv a0_] [])) t → Steps p.tables e below (s₁.setTop (entryFrame m #[(.ref a0_)] 1)) t := fun t k => castTop (ef_rmRnn m a0_) k
  obtain ⟨fs, hr, hrun, hended, hW, hsame⟩ := X0.leave (v := some (.ref a0_)) (fun h => by rw [Bd.returns] at h; cases h)
  refine ⟨_, _, S0 _ ?_, hrun, hended, _, _, rfl, ?_, ⟨_, rfl⟩, hW, hsame.mono (by decide) (by decide)⟩
  · skip
    show Steps p.tables e below (s₁.setTop (mkF m 0 #[rv a0_] [])) _
    refine XS.aloadN X0.here hx rfl (hb hby d7_0) rfl rfl ?_
    show Steps p.tables e below (s₁.setTop (mkF m 1 #[rv a0_] [(.ref a0_)])) _
    refine XS.ifnonnullYes X0.here hx rfl (pc0 := 1) (pc' := 12) rfl (hb hby d7_1) rfl (by decide) (by decide) ?_
    show Steps p.tables e below (s₁.setTop (mkF m 12 #[rv a0_] [])) _
    refine XS.aloadN X0.here hx rfl (hb hby d7_12) rfl rfl ?_
    show Steps p.tables e below (s₁.setTop (mkF m 13 #[rv a0_] [(.ref a0_)])) _
    jvm_step X0.here [X0.here.top, hx, (hb hby d7_13), X0.method', Bd.returns, Value.isRef, FieldType.isReference]
    first | (intro acts; rw [hr _ acts rfl rfl rfl]) | rw [hr _ _ rfl rfl rfl]
    exact Steps.refl _
  · show QRnn Z a0_ h0 n0 _ s₁.heap _
    rw [e0]
    exact ⟨rfl, N0, rfl⟩
theorem d10_0 : decode jdk_30_method_1_code 0 = .ok (.aload_n 0, 1) := by decide +kernel
theorem d10_1 : decode jdk_30_method_1_code 1 = .ok (.invokespecial 1, 3) := by decide +kernel
theorem d10_4 : decode jdk_30_method_1_code 4 = .ok (.return_, 1) := by decide +kernel
theorem pn_3 : plainName "java/lang/Record" = true := by first | (simp [plainName, overriddenIn]; done) | decide +kernel
def QRec (Z : State) (a0_ : Addr)  (h0 : Heap) (n0 : Nat) (v : Option Value) (h : Heap) (L : List Loc) : Prop := v = none ∧ Fr n0 L ∧ h = h0
theorem ef_rmRec (m : MethodId) (a0_ : Addr) : entryFrame m #[(.ref a0_)] 1 = mkF m 0 #[rv a0_] [] := by first | (simp [entryFrame, mkF, argsToLocals, Value.category]; done) | rfl
set_option maxRecDepth 65536 in
set_option maxHeartbeats 40000000 in
theorem rmRec (l : Launch) (Z : State) (a0 : Array Value) (hw : ∀ d ∈ tables_1, d.before a0 Z = true) (ws : List Jvm.Cond) (a0_ : Addr)  (h0 : Heap) (n0 : Nat) (Z0 : n0 ≤ h0.size) :
    MetFree l (⟨"java/lang/Record", "<init>", "()V"⟩ : MethodName) (head1 (Jvm.Cond.code (⟨"java/lang/Record", "<init>", "()V"⟩ : MethodName) jdk_30_method_1_code 1 none :: ws) ({ frames := 1, cells := 0, slots := 0, locals := 12 } : Room)) (fun a U => a = #[(.ref a0_)] ∧ Z.Warmed39 U.vm ∧ U.heap = h0) (fun _ _ _ _ _ => True) (fun _ U o U' => ∃ v L, o = .returned v ∧ QRec Z a0_ h0 n0 v U'.heap L ∧ FrameEnd U o U' L ({ frames := 1, cells := 0, slots := 0, locals := 12 } : Room).cells ({ frames := 1, cells := 0, slots := 0, locals := 12 } : Room).slots) := by
  refine MetFree.of_bodySF (plainFor_of_name pn_3) hisR ?_
  intro p e s m args below meth c s₁ Bd hml0 hP hK
  obtain ⟨rfl, hZ, hh⟩ := hP
  have hx := Bd.exec
  have hby := Bd.bytes
  have hml : c.maxLocals = 1 := hml0
  have hown : s.vm.findClass "java/lang/Record" = some m.cls := findClass_of_methodNamed Bd.named
  have hnm := (name_of_methodNamed Bd.named Bd.method).1
  have X0 : Stand p l e ({ frames := 1, cells := 0, slots := 0, locals := 12 } : Room) s m #[(.ref a0_)] below meth c s₁ [] 0 0 := Stand.of_body Bd
  have e0 : s₁.heap = h0 := by rw [← hh, Bd.state]; rfl
  have N0 := Fr.nil n0
  have S0 : ∀ t, Steps p.tables e below (s₁.setTop (mkF m 0 #[rv a0_] [])) t → Steps p.tables e below (s₁.setTop (entryFrame m #[(.ref a0_)] 1)) t := fun t k => castTop (ef_rmRec m a0_) k
  obtain ⟨T1, X1, e1, st1⟩ := initO X0 hx hZ hown (hw _ (List.mem_of_getElem? (i := 63) rfl)) (hw _ (List.mem_of_getElem? (i := 21) rfl)) (hw _ (List.mem_of_getElem? (i := 22) rfl)) e0 (g := (mkF m 1 #[rv a0_] [(.ref a0_)])) rfl (by rw [hml]; rfl) rfl (hb hby d10_1) (by decide) (W := 0) (by show 2 * 0 + _ ≤ _; exact Nat.le_of_eq rfl) (by decide)
  obtain ⟨fs, hr, hrun, hended, hW, hsame⟩ := X1.leave (v := none) (fun _ => rfl)
  refine ⟨_, _, S0 _ ?_, hrun, hended, _, _, rfl, ?_, ⟨_, rfl⟩, hW, hsame.mono (by decide) (by decide)⟩
  · skip
    show Steps p.tables e below (s₁.setTop (mkF m 0 #[rv a0_] [])) _
    refine XS.aloadN X0.here hx rfl (hb hby d10_0) rfl rfl ?_
    show Steps p.tables e below (s₁.setTop (mkF m 1 #[rv a0_] [(.ref a0_)])) _
    refine st1 _ ?_
    show Steps p.tables e below (T1.setTop (mkF m 4 #[rv a0_] [])) _
    exact X1.returnOut hx Bd.returns (hb hby d10_4) hr
  · show QRec Z a0_ h0 n0 _ T1.heap _
    rw [e1]
    exact ⟨rfl, N0, rfl⟩
theorem d11_0 : decode prog_34_method_7_code 0 = .ok (.aload_n 0, 1) := by decide +kernel
theorem d11_1 : decode prog_34_method_7_code 1 = .ok (.getfield 48, 3) := by decide +kernel
theorem d11_4 : decode prog_34_method_7_code 4 = .ok (.areturn, 1) := by decide +kernel
theorem pn_4 : plainName "com/example/reroutine/reroutine/scenario/EventType" = true := by first | (simp [plainName, overriddenIn]; done) | decide +kernel
def QDet (Z : State) (a0_ : Addr) (dd : Addr) (h0 : Heap) (n0 : Nat) (v : Option Value) (h : Heap) (L : List Loc) : Prop := v = some (.ref dd) ∧ Fr n0 L ∧ h = h0
theorem ef_rmDet (m : MethodId) (a0_ : Addr) : entryFrame m #[(.ref a0_)] 1 = mkF m 0 #[rv a0_] [] := by first | (simp [entryFrame, mkF, argsToLocals, Value.category]; done) | rfl
set_option maxRecDepth 65536 in
set_option maxHeartbeats 40000000 in
theorem rmDet (l : Launch) (Z : State) (a0 : Array Value) (hw : ∀ d ∈ tables_1, d.before a0 Z = true) (ws : List Jvm.Cond) (a0_ : Addr) (dd : Addr) (h0 : Heap) (n0 : Nat) (Z0 : n0 ≤ h0.size) (F0 : Fld Z h0 a0_ "com/example/reroutine/reroutine/scenario/EventType" "detailAttribute" "Ljava/lang/String;" (.ref dd)) :
    MetFree l (⟨"com/example/reroutine/reroutine/scenario/EventType", "detailAttribute", "()Ljava/lang/String;"⟩ : MethodName) (head1 (Jvm.Cond.code (⟨"com/example/reroutine/reroutine/scenario/EventType", "detailAttribute", "()Ljava/lang/String;"⟩ : MethodName) prog_34_method_7_code 1 (some (.object "java/lang/String")) :: ws) ({ frames := 0, cells := 0, slots := 0, locals := 0 } : Room)) (fun a U => a = #[(.ref a0_)] ∧ Z.Warmed39 U.vm ∧ U.heap = h0) (fun _ _ _ _ _ => True) (fun _ U o U' => ∃ v L, o = .returned v ∧ QDet Z a0_ dd h0 n0 v U'.heap L ∧ FrameEnd U o U' L ({ frames := 0, cells := 0, slots := 0, locals := 0 } : Room).cells ({ frames := 0, cells := 0, slots := 0, locals := 0 } : Room).slots) := by
  refine MetFree.of_bodySF (plainFor_of_name pn_4) hisR ?_
  intro p e s m args below meth c s₁ Bd hml0 hP hK
  obtain ⟨rfl, hZ, hh⟩ := hP
  have hx := Bd.exec
  have hby := Bd.bytes
  have hml : c.maxLocals = 1 := hml0
  have hown : s.vm.findClass "com/example/reroutine/reroutine/scenario/EventType" = some m.cls := findClass_of_methodNamed Bd.named
  have hnm := (name_of_methodNamed Bd.named Bd.method).1
  have X0 : Stand p l e ({ frames := 0, cells := 0, slots := 0, locals := 0 } : Room) s m #[(.ref a0_)] below meth c s₁ [] 0 0 := Stand.of_body Bd
  have e0 : s₁.heap = h0 := by rw [← hh, Bd.state]; rfl
  have N0 := Fr.nil n0
  have S0 : ∀ t, Steps p.tables e below (s₁.setTop (mkF m 0 #[rv a0_] [])) t → Steps p.tables e below (s₁.setTop (entryFrame m #[(.ref a0_)] 1)) t := fun t k => castTop (ef_rmDet m a0_) k
  obtain ⟨T1, X1, e1, st1⟩ := getF X0 hx hZ hown (host := "") (Or.inl (hw _ (List.mem_of_getElem? (i := 70) rfl))) Via.refl e0 F0 (g := (mkF m 1 #[rv a0_] [(.ref a0_)])) rfl rfl (hb hby d11_1)
  obtain ⟨fs, hr, hrun, hended, hW, hsame⟩ := X1.leave (v := some (.ref dd)) (fun h => by rw [Bd.returns] at h; cases h)
  refine ⟨_, _, S0 _ ?_, hrun, hended, _, _, rfl, ?_, ⟨_, rfl⟩, hW, hsame.mono (by decide) (by decide)⟩
  · skip
    show Steps p.tables e below (s₁.setTop (mkF m 0 #[rv a0_] [])) _
    refine XS.aloadN X0.here hx rfl (hb hby d11_0) rfl rfl ?_
    show Steps p.tables e below (s₁.setTop (mkF m 1 #[rv a0_] [(.ref a0_)])) _
    refine st1 _ ?_
    show Steps p.tables e below (T1.setTop (mkF m 4 #[rv a0_] [(.ref dd)])) _
    jvm_step X1.here [X1.here.top, hx, (hb hby d11_4), X1.method', Bd.returns, Value.isRef, FieldType.isReference]
    first | (intro acts; rw [hr _ acts rfl rfl rfl]) | rw [hr _ _ rfl rfl rfl]
    exact Steps.refl _
  · show QDet Z a0_ dd h0 n0 _ T1.heap _
    rw [e1]
    exact ⟨rfl, N0, rfl⟩
theorem d9_0 : decode prog_33_method_1_code 0 = .ok (.aload_n 0, 1) := by decide +kernel
theorem d9_1 : decode prog_33_method_1_code 1 = .ok (.invokespecial 1, 3) := by decide +kernel
theorem pd_3 : parseMethodDescriptor "()V" = some ⟨[], none⟩ := by decide +kernel
theorem d9_4 : decode prog_33_method_1_code 4 = .ok (.aload_n 2, 1) := by decide +kernel
theorem d9_5 : decode prog_33_method_1_code 5 = .ok (.invokestatic 7, 3) := by decide +kernel
theorem pd_4 : parseMethodDescriptor "(Ljava/lang/Object;)Ljava/lang/Object;" = some ⟨[(.object "java/lang/Object")], some (.object "java/lang/Object")⟩ := by decide +kernel
theorem d9_8 : decode prog_33_method_1_code 8 = .ok (.pop, 1) := by decide +kernel
theorem d9_9 : decode prog_33_method_1_code 9 = .ok (.aload_n 3, 1) := by decide +kernel
theorem d9_10 : decode prog_33_method_1_code 10 = .ok (.invokestatic 7, 3) := by decide +kernel
theorem d9_13 : decode prog_33_method_1_code 13 = .ok (.pop, 1) := by decide +kernel
theorem d9_14 : decode prog_33_method_1_code 14 = .ok (.aload 4, 2) := by decide +kernel
theorem d9_16 : decode prog_33_method_1_code 16 = .ok (.invokestatic 7, 3) := by decide +kernel
theorem d9_19 : decode prog_33_method_1_code 19 = .ok (.pop, 1) := by decide +kernel
theorem d9_20 : decode prog_33_method_1_code 20 = .ok (.iload_n 1, 1) := by decide +kernel
theorem d9_21 : decode prog_33_method_1_code 21 = .ok (.ifCond .ge 17, 3) := by decide +kernel
theorem d9_38 : decode prog_33_method_1_code 38 = .ok (.aload 5, 2) := by decide +kernel
theorem d9_40 : decode prog_33_method_1_code 40 = .ok (.ifnonnull 7, 3) := by decide +kernel
theorem d9_47 : decode prog_33_method_1_code 47 = .ok (.iconst 0, 1) := by decide +kernel
theorem d9_48 : decode prog_33_method_1_code 48 = .ok (.aload_n 2, 1) := by decide +kernel
theorem d9_49 : decode prog_33_method_1_code 49 = .ok (.invokevirtual 22, 3) := by decide +kernel
theorem pd_5 : parseMethodDescriptor "()Ljava/lang/String;" = some ⟨[], some (.object "java/lang/String")⟩ := by decide +kernel
theorem d9_52 : decode prog_33_method_1_code 52 = .ok (.ifnonnull 7, 3) := by decide +kernel
theorem d9_59 : decode prog_33_method_1_code 59 = .ok (.iconst 0, 1) := by decide +kernel
theorem d9_60 : decode prog_33_method_1_code 60 = .ok (.if_icmp .eq 32, 3) := by decide +kernel
theorem d9_92 : decode prog_33_method_1_code 92 = .ok (.aload_n 0, 1) := by decide +kernel
theorem d9_93 : decode prog_33_method_1_code 93 = .ok (.iload_n 1, 1) := by decide +kernel
theorem d9_94 : decode prog_33_method_1_code 94 = .ok (.putfield 41, 3) := by decide +kernel
theorem d9_97 : decode prog_33_method_1_code 97 = .ok (.aload_n 0, 1) := by decide +kernel
theorem d9_98 : decode prog_33_method_1_code 98 = .ok (.aload_n 2, 1) := by decide +kernel
theorem d9_99 : decode prog_33_method_1_code 99 = .ok (.putfield 47, 3) := by decide +kernel
theorem d9_102 : decode prog_33_method_1_code 102 = .ok (.aload_n 0, 1) := by decide +kernel
theorem d9_103 : decode prog_33_method_1_code 103 = .ok (.aload_n 3, 1) := by decide +kernel
theorem d9_104 : decode prog_33_method_1_code 104 = .ok (.putfield 51, 3) := by decide +kernel
theorem d9_107 : decode prog_33_method_1_code 107 = .ok (.aload_n 0, 1) := by decide +kernel
theorem d9_108 : decode prog_33_method_1_code 108 = .ok (.aload 4, 2) := by decide +kernel
theorem d9_110 : decode prog_33_method_1_code 110 = .ok (.putfield 55, 3) := by decide +kernel
theorem d9_113 : decode prog_33_method_1_code 113 = .ok (.aload_n 0, 1) := by decide +kernel
theorem d9_114 : decode prog_33_method_1_code 114 = .ok (.aload 5, 2) := by decide +kernel
theorem d9_116 : decode prog_33_method_1_code 116 = .ok (.putfield 58, 3) := by decide +kernel
theorem d9_119 : decode prog_33_method_1_code 119 = .ok (.return_, 1) := by decide +kernel
theorem pn_5 : plainName "com/example/reroutine/reroutine/scenario/Event" = true := by first | (simp [plainName, overriddenIn]; done) | decide +kernel
def QEvI (Z : State) (a0_ : Addr) (u1 : Int32) (a2_ : Addr) (a3_ : Addr) (a4_ : Addr) (a5_ : Addr) (dd : Addr) (h0 : Heap) (n0 : Nat) (v : Option Value) (h : Heap) (L : List Loc) : Prop := v = none ∧ Fr n0 L ∧ Keep h0 h [a0_] ∧ Exa Z h a0_ "com/example/reroutine/reroutine/scenario/Event" ∧ Fld Z h a0_ "com/example/reroutine/reroutine/scenario/Event" "time" "I" (.int u1) ∧ Fld Z h a0_ "com/example/reroutine/reroutine/scenario/Event" "type" "Lcom/example/reroutine/reroutine/scenario/EventType;" (.ref a2_)
theorem ef_rmEvI (m : MethodId) (a0_ : Addr) (u1 : Int32) (a2_ : Addr) (a3_ : Addr) (a4_ : Addr) (a5_ : Addr) : entryFrame m #[(.ref a0_), (.int u1), (.ref a2_), (.ref a3_), (.ref a4_), (.ref a5_)] 6 = mkF m 0 #[rv a0_, iv u1, rv a2_, rv a3_, rv a4_, rv a5_] [] := by first | (simp [entryFrame, mkF, argsToLocals, Value.category]; done) | rfl
set_option maxRecDepth 65536 in
set_option maxHeartbeats 40000000 in
theorem rmEvI (l : Launch) (Z : State) (a0 : Array Value) (hw : ∀ d ∈ tables_1, d.before a0 Z = true) (ws : List Jvm.Cond) (a0_ : Addr) (u1 : Int32) (a2_ : Addr) (a3_ : Addr) (a4_ : Addr) (a5_ : Addr) (dd : Addr) (h0 : Heap) (n0 : Nat) (Z0 : n0 ≤ h0.size) (E1 : Exa Z h0 a0_ "com/example/reroutine/reroutine/scenario/Event") (Fi0 : Fld Z h0 a0_ "com/example/reroutine/reroutine/scenario/Event" "time" "I" (.int (0 : Int32))) (Fi1 : Fld Z h0 a0_ "com/example/reroutine/reroutine/scenario/Event" "type" "Lcom/example/reroutine/reroutine/scenario/EventType;" .null) (Fi2 : Fld Z h0 a0_ "com/example/reroutine/reroutine/scenario/Event" "agent" "Ljava/lang/String;" .null) (Fi3 : Fld Z h0 a0_ "com/example/reroutine/reroutine/scenario/Event" "link" "Ljava/lang/String;" .null) (Fi4 : Fld Z h0 a0_ "com/example/reroutine/reroutine/scenario/Event" "detail" "Ljava/lang/String;" .null) (g0 : n0 ≤ a0_) (E2 : Exa Z h0 a2_ "com/example/reroutine/reroutine/scenario/EventType") (F2 : Fld Z h0 a2_ "com/example/reroutine/reroutine/scenario/EventType" "detailAttribute" "Ljava/lang/String;" (.ref dd)) (hu : ¬ u1 < 0) :
    MetFree l (⟨"com/example/reroutine/reroutine/scenario/Event", "<init>", "(ILcom/example/reroutine/reroutine/scenario/EventType;Ljava/lang/String;Ljava/lang/String;Ljava/lang/String;)V"⟩ : MethodName) (head1 (Jvm.Cond.code (⟨"com/example/reroutine/reroutine/scenario/Event", "<init>", "(ILcom/example/reroutine/reroutine/scenario/EventType;Ljava/lang/String;Ljava/lang/String;Ljava/lang/String;)V"⟩ : MethodName) prog_33_method_1_code 6 none :: ws) ({ frames := 2, cells := 0, slots := 0, locals := 24 } : Room)) (fun a U => a = #[(.ref a0_), (.int u1), (.ref a2_), (.ref a3_), (.ref a4_), (.ref a5_)] ∧ Z.Warmed39 U.vm ∧ U.heap = h0) (fun _ _ _ _ _ => True) (fun _ U o U' => ∃ v L, o = .returned v ∧ QEvI Z a0_ u1 a2_ a3_ a4_ a5_ dd h0 n0 v U'.heap L ∧ FrameEnd U o U' L ({ frames := 2, cells := 0, slots := 0, locals := 24 } : Room).cells ({ frames := 2, cells := 0, slots := 0, locals := 24 } : Room).slots) := by
  refine MetFree.of_bodySF (plainFor_of_name pn_5) hisR ?_
  intro p e s m args below meth c s₁ Bd hml0 hP hK
  obtain ⟨rfl, hZ, hh⟩ := hP
  have hx := Bd.exec
  have hby := Bd.bytes
  have hml : c.maxLocals = 6 := hml0
  have hown : s.vm.findClass "com/example/reroutine/reroutine/scenario/Event" = some m.cls := findClass_of_methodNamed Bd.named
  have hnm := (name_of_methodNamed Bd.named Bd.method).1
  have X0 : Stand p l e ({ frames := 2, cells := 0, slots := 0, locals := 24 } : Room) s m #[(.ref a0_), (.int u1), (.ref a2_), (.ref a3_), (.ref a4_), (.ref a5_)] below meth c s₁ [] 0 0 := Stand.of_body Bd
  have e0 : s₁.heap = h0 := by rw [← hh, Bd.state]; rfl
  have N0 := Fr.nil n0
  have S0 : ∀ t, Steps p.tables e below (s₁.setTop (mkF m 0 #[rv a0_, iv u1, rv a2_, rv a3_, rv a4_, rv a5_] [])) t → Steps p.tables e below (s₁.setTop (entryFrame m #[(.ref a0_), (.int u1), (.ref a2_), (.ref a3_), (.ref a4_), (.ref a5_)] 6)) t := fun t k => castTop (ef_rmEvI m a0_ u1 a2_ a3_ a4_ a5_) k
  have K0 : Keep h0 h0 [a0_] := Keep.refl _ _
  obtain ⟨_, _, ⟨T1, L1, k1, n1⟩, -, X1, ⟨Lc1, hQ1, l1, y1, z1⟩, st1⟩ := X0.specialBack hx (y := (⟨"java/lang/Record", "<init>", "()V"⟩ : MethodName)) rfl hown (mvT hZ (hw _ (List.mem_of_getElem? (i := 58) rfl))) (mvT hZ (hw _ (List.mem_of_getElem? (i := 59) rfl))) (mvT hZ (hw _ (List.mem_of_getElem? (i := 62) rfl))) (by decide) (backOf (W := 0) (rmRec l Z a0 hw [] a0_ h0 n0 Z0) hZ (hw _ (List.mem_of_getElem? (i := 62) rfl)) (hw _ (List.mem_of_getElem? (i := 61) rfl)) (by decide) (by decide)) (g := (mkF m 1 #[rv a0_, iv u1, rv a2_, rv a3_, rv a4_, rv a5_] [(.ref a0_)])) rfl (by rw [hml]; rfl) (Steps.refl _) (a := a0_) (argsL := []) (rest := []) (lenOf pd_3 rfl) rfl (by show 2 * 0 + _ ≤ _; exact Nat.le_of_eq rfl) (hb hby d9_1) (fun _ _ => ⟨rfl, e0, (by decide : 0 + 0 ≤ _), (by decide : 0 + 0 ≤ _)⟩)
  dsimp only [Pt.U, Pt.locs, Pt.cells, Pt.slots] at X1 l1 y1 z1 st1 hQ1
  subst y1 z1
  obtain ⟨rfl, Nq1, eq1⟩ := hQ1
  have N1 : Fr n0 L1 := by rw [l1]; exact Fr.app N0 Nq1
  obtain ⟨_, _, ⟨T2, L2, k2, n2⟩, -, X2, ⟨Lc2, hQ2, l2, y2, z2⟩, st2⟩ := Jvm.LawKit.callS X1 hx (y := (⟨"java/util/Objects", "requireNonNull", "(Ljava/lang/Object;)Ljava/lang/Object;"⟩ : MethodName)) hown (mvT hZ (hw _ (List.mem_of_getElem? (i := 64) rfl))) (mvT hZ (hw _ (List.mem_of_getElem? (i := 40) rfl))) (mvT hZ (hw _ (List.mem_of_getElem? (i := 41) rfl))) (mvT hZ (hw _ (List.mem_of_getElem? (i := 42) rfl))) (by decide) (backOf (W := 0) (rmRnn l Z a0 hw [] a2_ h0 n0 Z0) hZ (hw _ (List.mem_of_getElem? (i := 42) rfl)) (hw _ (List.mem_of_getElem? (i := 41) rfl)) (by decide) (by decide)) (g := (mkF m 5 #[rv a0_, iv u1, rv a2_, rv a3_, rv a4_, rv a5_] [(.ref a2_)])) rfl (by rw [hml]; rfl) (argsL := [(.ref a2_)]) (rest := []) (lenOf pd_4 rfl) rfl (by show 2 * 0 + _ ≤ _; exact Nat.le_of_eq rfl) (hb hby d9_5) (fun _ _ => ⟨rfl, eq1, (by decide : 0 + 0 ≤ _), (by decide : 0 + 0 ≤ _)⟩)
  dsimp only [Pt.U, Pt.locs, Pt.cells, Pt.slots] at X2 l2 y2 z2 st2 hQ2
  subst y2 z2
  obtain ⟨rfl, Nq2, eq2⟩ := hQ2
  have N2 : Fr n0 L2 := by rw [l2]; exact Fr.app N1 Nq2
  obtain ⟨_, _, ⟨T3, L3, k3, n3⟩, -, X3, ⟨Lc3, hQ3, l3, y3, z3⟩, st3⟩ := Jvm.LawKit.callS X2 hx (y := (⟨"java/util/Objects", "requireNonNull", "(Ljava/lang/Object;)Ljava/lang/Object;"⟩ : MethodName)) hown (mvT hZ (hw _ (List.mem_of_getElem? (i := 64) rfl))) (mvT hZ (hw _ (List.mem_of_getElem? (i := 40) rfl))) (mvT hZ (hw _ (List.mem_of_getElem? (i := 41) rfl))) (mvT hZ (hw _ (List.mem_of_getElem? (i := 42) rfl))) (by decide) (backOf (W := 0) (rmRnn l Z a0 hw [] a3_ h0 n0 Z0) hZ (hw _ (List.mem_of_getElem? (i := 42) rfl)) (hw _ (List.mem_of_getElem? (i := 41) rfl)) (by decide) (by decide)) (g := (mkF m 10 #[rv a0_, iv u1, rv a2_, rv a3_, rv a4_, rv a5_] [(.ref a3_)])) rfl (by rw [hml]; rfl) (argsL := [(.ref a3_)]) (rest := []) (lenOf pd_4 rfl) rfl (by show 2 * 0 + _ ≤ _; exact Nat.le_of_eq rfl) (hb hby d9_10) (fun _ _ => ⟨rfl, eq2, (by decide : 0 + 0 ≤ _), (by decide : 0 + 0 ≤ _)⟩)
  dsimp only [Pt.U, Pt.locs, Pt.cells, Pt.slots] at X3 l3 y3 z3 st3 hQ3
  subst y3 z3
  obtain ⟨rfl, Nq3, eq3⟩ := hQ3
  have N3 : Fr n0 L3 := by rw [l3]; exact Fr.app N2 Nq3
  obtain ⟨_, _, ⟨T4, L4, k4, n4⟩, -, X4, ⟨Lc4, hQ4, l4, y4, z4⟩, st4⟩ := Jvm.LawKit.callS X3 hx (y := (⟨"java/util/Objects", "requireNonNull", "(Ljava/lang/Object;)Ljava/lang/Object;"⟩ : MethodName)) hown (mvT hZ (hw _ (List.mem_of_getElem? (i := 64) rfl))) (mvT hZ (hw _ (List.mem_of_getElem? (i := 40) rfl))) (mvT hZ (hw _ (List.mem_of_getElem? (i := 41) rfl))) (mvT hZ (hw _ (List.mem_of_getElem? (i := 42) rfl))) (by decide) (backOf (W := 0) (rmRnn l Z a0 hw [] a4_ h0 n0 Z0) hZ (hw _ (List.mem_of_getElem? (i := 42) rfl)) (hw _ (List.mem_of_getElem? (i := 41) rfl)) (by decide) (by decide)) (g := (mkF m 16 #[rv a0_, iv u1, rv a2_, rv a3_, rv a4_, rv a5_] [(.ref a4_)])) rfl (by rw [hml]; rfl) (argsL := [(.ref a4_)]) (rest := []) (lenOf pd_4 rfl) rfl (by show 2 * 0 + _ ≤ _; exact Nat.le_of_eq rfl) (hb hby d9_16) (fun _ _ => ⟨rfl, eq3, (by decide : 0 + 0 ≤ _), (by decide : 0 + 0 ≤ _)⟩)
  dsimp only [Pt.U, Pt.locs, Pt.cells, Pt.slots] at X4 l4 y4 z4 st4 hQ4
  subst y4 z4
  obtain ⟨rfl, Nq4, eq4⟩ := hQ4
  have N4 : Fr n0 L4 := by rw [l4]; exact Fr.app N3 Nq4
  obtain ⟨cq5, kq5, q5a, q5b, q5c⟩ := isOf hZ eq4 E2
  obtain ⟨_, _, ⟨T5, L5, k5, n5⟩, -, X5, ⟨Lc5, hQ5, l5, y5, z5⟩, st5⟩ := X4.virtualBack hx (y := (⟨"com/example/reroutine/reroutine/scenario/EventType", "detailAttribute", "()Ljava/lang/String;"⟩ : MethodName)) (z := (⟨"com/example/reroutine/reroutine/scenario/EventType", "detailAttribute", "()Ljava/lang/String;"⟩ : MethodName)) hown (mvT hZ (hw _ (List.mem_of_getElem? (i := 65) rfl))) (mvT hZ (hw _ (List.mem_of_getElem? (i := 66) rfl))) (notFace_of_selects (args := #[]) (mvT hZ (hw _ (List.mem_of_getElem? (i := 68) rfl)))) (mvT hZ (hw _ (List.mem_of_getElem? (i := 68) rfl))) (mvT hZ (hw _ (List.mem_of_getElem? (i := 67) rfl))) (by decide) (backOf (W := 1) (rmDet l Z a0 hw [] a2_ dd h0 n0 Z0 F2) hZ (hw _ (List.mem_of_getElem? (i := 69) rfl)) (hw _ (List.mem_of_getElem? (i := 53) rfl)) (by decide) (by decide)) q5a q5c (g := (mkF m 49 #[rv a0_, iv u1, rv a2_, rv a3_, rv a4_, rv a5_] [(.ref a2_), (.int (0 : Int32))])) rfl (by rw [hml]; rfl) (Steps.refl _) (argsL := []) (rest := [(.int (0 : Int32))]) (lenOf pd_5 rfl) rfl (by show 2 * 0 + _ ≤ _; exact Nat.le_of_eq rfl) (hb hby d9_49) (fun _ _ => ⟨rfl, eq4, (by decide : 0 + 0 ≤ _), (by decide : 0 + 0 ≤ _)⟩)
  dsimp only [Pt.U, Pt.locs, Pt.cells, Pt.slots] at X5 l5 y5 z5 st5 hQ5
  subst y5 z5
  obtain ⟨rfl, Nq5, eq5⟩ := hQ5
  have N5 : Fr n0 L5 := by rw [l5]; exact Fr.app N4 Nq5
  obtain ⟨T6, h6, X6, e6, W6, st6⟩ := putF X5 hx hZ hown (host := "") (Or.inl (hw _ (List.mem_of_getElem? (i := 72) rfl))) Via.refl eq5 Fi0 E1 (Or.inr ⟨(hw _ (List.mem_of_getElem? (i := 73) rfl)), rfl, hnm⟩) (hw _ (List.mem_of_getElem? (i := 51) rfl)) (ty := .int) (by decide) rfl rfl (g := (mkF m 94 #[rv a0_, iv u1, rv a2_, rv a3_, rv a4_, rv a5_] [(.int u1), (.ref a0_)])) rfl rfl (hb hby d9_94)
  have Fw6 := Fi0.same W6
  have f7 := Fi1.other W6 (Or.inr (slot_ne (Or.inr (hw _ (List.mem_of_getElem? (i := 75) rfl))) (Or.inr (hw _ (List.mem_of_getElem? (i := 73) rfl))) (by decide) (t := (.object "com/example/reroutine/reroutine/scenario/EventType")) (t' := .int) (by decide) (by decide)))
  have f8 := Fi2.other W6 (Or.inr (slot_ne (Or.inr (hw _ (List.mem_of_getElem? (i := 77) rfl))) (Or.inr (hw _ (List.mem_of_getElem? (i := 73) rfl))) (by decide) (t := (.object "java/lang/String")) (t' := .int) (by decide) (by decide)))
  have f9 := Fi3.other W6 (Or.inr (slot_ne (Or.inr (hw _ (List.mem_of_getElem? (i := 79) rfl))) (Or.inr (hw _ (List.mem_of_getElem? (i := 73) rfl))) (by decide) (t := (.object "java/lang/String")) (t' := .int) (by decide) (by decide)))
  have f10 := Fi4.other W6 (Or.inr (slot_ne (Or.inr (hw _ (List.mem_of_getElem? (i := 81) rfl))) (Or.inr (hw _ (List.mem_of_getElem? (i := 73) rfl))) (by decide) (t := (.object "java/lang/String")) (t' := .int) (by decide) (by decide)))
  have f11 := E1.wr W6
  have N6 := Fr.snoc X6 N5 g0
  have Z6 : n0 ≤ h6.size := Nat.le_trans Z0 (Keep.of_wr W6).1
  have K6 : Keep h0 h6 [a0_] := K0.wr W6 (Or.inl (List.mem_of_getElem? (i := 0) rfl))
  obtain ⟨T18, h18, X18, e18, W18, st18⟩ := putF X6 hx hZ hown (host := "") (Or.inl (hw _ (List.mem_of_getElem? (i := 74) rfl))) Via.refl e6 f7 f11 (Or.inr ⟨(hw _ (List.mem_of_getElem? (i := 75) rfl)), rfl, hnm⟩) (hw _ (List.mem_of_getElem? (i := 51) rfl)) (ty := (.object "com/example/reroutine/reroutine/scenario/EventType")) (by decide) rfl rfl (g := (mkF m 99 #[rv a0_, iv u1, rv a2_, rv a3_, rv a4_, rv a5_] [(.ref a2_), (.ref a0_)])) rfl rfl (hb hby d9_99)
  have Fw18 := f7.same W18
  have f19 := Fw6.other W18 (Or.inr (slot_ne (Or.inr (hw _ (List.mem_of_getElem? (i := 73) rfl))) (Or.inr (hw _ (List.mem_of_getElem? (i := 75) rfl))) (by decide) (t := .int) (t' := (.object "com/example/reroutine/reroutine/scenario/EventType")) (by decide) (by decide)))
  have f20 := f8.other W18 (Or.inr (slot_ne (Or.inr (hw _ (List.mem_of_getElem? (i := 77) rfl))) (Or.inr (hw _ (List.mem_of_getElem? (i := 75) rfl))) (by decide) (t := (.object "java/lang/String")) (t' := (.object "com/example/reroutine/reroutine/scenario/EventType")) (by decide) (by decide)))
  have f21 := f9.other W18 (Or.inr (slot_ne (Or.inr (hw _ (List.mem_of_getElem? (i := 79) rfl))) (Or.inr (hw _ (List.mem_of_getElem? (i := 75) rfl))) (by decide) (t := (.object "java/lang/String")) (t' := (.object "com/example/reroutine/reroutine/scenario/EventType")) (by decide) (by decide)))
  have f22 := f10.other W18 (Or.inr (slot_ne (Or.inr (hw _ (List.mem_of_getElem? (i := 81) rfl))) (Or.inr (hw _ (List.mem_of_getElem? (i := 75) rfl))) (by decide) (t := (.object "java/lang/String")) (t' := (.object "com/example/reroutine/reroutine/scenario/EventType")) (by decide) (by decide)))
  have f23 := f11.wr W18
  have N18 := Fr.snoc X18 N6 g0
  have Z18 : n0 ≤ h18.size := Nat.le_trans Z6 (Keep.of_wr W18).1
  have K18 : Keep h0 h18 [a0_] := K6.wr W18 (Or.inl (List.mem_of_getElem? (i := 0) rfl))
  obtain ⟨T30, h30, X30, e30, W30, st30⟩ := putF X18 hx hZ hown (host := "") (Or.inl (hw _ (List.mem_of_getElem? (i := 76) rfl))) Via.refl e18 f20 f23 (Or.inr ⟨(hw _ (List.mem_of_getElem? (i := 77) rfl)), rfl, hnm⟩) (hw _ (List.mem_of_getElem? (i := 51) rfl)) (ty := (.object "java/lang/String")) (by decide) rfl rfl (g := (mkF m 104 #[rv a0_, iv u1, rv a2_, rv a3_, rv a4_, rv a5_] [(.ref a3_), (.ref a0_)])) rfl rfl (hb hby d9_104)
  have Fw30 := f20.same W30
  have f31 := f19.other W30 (Or.inr (slot_ne (Or.inr (hw _ (List.mem_of_getElem? (i := 73) rfl))) (Or.inr (hw _ (List.mem_of_getElem? (i := 77) rfl))) (by decide) (t := .int) (t' := (.object "java/lang/String")) (by decide) (by decide)))
  have f32 := Fw18.other W30 (Or.inr (slot_ne (Or.inr (hw _ (List.mem_of_getElem? (i := 75) rfl))) (Or.inr (hw _ (List.mem_of_getElem? (i := 77) rfl))) (by decide) (t := (.object "com/example/reroutine/reroutine/scenario/EventType")) (t' := (.object "java/lang/String")) (by decide) (by decide)))
  have f33 := f21.other W30 (Or.inr (slot_ne (Or.inr (hw _ (List.mem_of_getElem? (i := 79) rfl))) (Or.inr (hw _ (List.mem_of_getElem? (i := 77) rfl))) (by decide) (t := (.object "java/lang/String")) (t' := (.object "java/lang/String")) (by decide) (by decide)))
  have f34 := f22.other W30 (Or.inr (slot_ne (Or.inr (hw _ (List.mem_of_getElem? (i := 81) rfl))) (Or.inr (hw _ (List.mem_of_getElem? (i := 77) rfl))) (by decide) (t := (.object "java/lang/String")) (t' := (.object "java/lang/String")) (by decide) (by decide)))
  have f35 := f23.wr W30
  have N30 := Fr.snoc X30 N18 g0
  have Z30 : n0 ≤ h30.size := Nat.le_trans Z18 (Keep.of_wr W30).1
  have K30 : Keep h0 h30 [a0_] := K18.wr W30 (Or.inl (List.mem_of_getElem? (i := 0) rfl))
  obtain ⟨T42, h42, X42, e42, W42, st42⟩ := putF X30 hx hZ hown (host := "") (Or.inl (hw _ (List.mem_of_getElem? (i := 78) rfl))) Via.refl e30 f33 f35 (Or.inr ⟨(hw _ (List.mem_of_getElem? (i := 79) rfl)), rfl, hnm⟩) (hw _ (List.mem_of_getElem? (i := 51) rfl)) (ty := (.object "java/lang/String")) (by decide) rfl rfl (g := (mkF m 110 #[rv a0_, iv u1, rv a2_, rv a3_, rv a4_, rv a5_] [(.ref a4_), (.ref a0_)])) rfl rfl (hb hby d9_110)
  have Fw42 := f33.same W42
  have f43 := f31.other W42 (Or.inr (slot_ne (Or.inr (hw _ (List.mem_of_getElem? (i := 73) rfl))) (Or.inr (hw _ (List.mem_of_getElem? (i := 79) rfl))) (by decide) (t := .int) (t' := (.object "java/lang/String")) (by decide) (by decide)))
  have f44 := f32.other W42 (Or.inr (slot_ne (Or.inr (hw _ (List.mem_of_getElem? (i := 75) rfl))) (Or.inr (hw _ (List.mem_of_getElem? (i := 79) rfl))) (by decide) (t := (.object "com/example/reroutine/reroutine/scenario/EventType")) (t' := (.object "java/lang/String")) (by decide) (by decide)))
  have f45 := Fw30.other W42 (Or.inr (slot_ne (Or.inr (hw _ (List.mem_of_getElem? (i := 77) rfl))) (Or.inr (hw _ (List.mem_of_getElem? (i := 79) rfl))) (by decide) (t := (.object "java/lang/String")) (t' := (.object "java/lang/String")) (by decide) (by decide)))
  have f46 := f34.other W42 (Or.inr (slot_ne (Or.inr (hw _ (List.mem_of_getElem? (i := 81) rfl))) (Or.inr (hw _ (List.mem_of_getElem? (i := 79) rfl))) (by decide) (t := (.object "java/lang/String")) (t' := (.object "java/lang/String")) (by decide) (by decide)))
  have f47 := f35.wr W42
  have N42 := Fr.snoc X42 N30 g0
  have Z42 : n0 ≤ h42.size := Nat.le_trans Z30 (Keep.of_wr W42).1
  have K42 : Keep h0 h42 [a0_] := K30.wr W42 (Or.inl (List.mem_of_getElem? (i := 0) rfl))
  obtain ⟨T54, h54, X54, e54, W54, st54⟩ := putF X42 hx hZ hown (host := "") (Or.inl (hw _ (List.mem_of_getElem? (i := 80) rfl))) Via.refl e42 f46 f47 (Or.inr ⟨(hw _ (List.mem_of_getElem? (i := 81) rfl)), rfl, hnm⟩) (hw _ (List.mem_of_getElem? (i := 51) rfl)) (ty := (.object "java/lang/String")) (by decide) rfl rfl (g := (mkF m 116 #[rv a0_, iv u1, rv a2_, rv a3_, rv a4_, rv a5_] [(.ref a5_), (.ref a0_)])) rfl rfl (hb hby d9_116)
  have Fw54 := f46.same W54
  have f55 := f43.other W54 (Or.inr (slot_ne (Or.inr (hw _ (List.mem_of_getElem? (i := 73) rfl))) (Or.inr (hw _ (List.mem_of_getElem? (i := 81) rfl))) (by decide) (t := .int) (t' := (.object "java/lang/String")) (by decide) (by decide)))
  have f56 := f44.other W54 (Or.inr (slot_ne (Or.inr (hw _ (List.mem_of_getElem? (i := 75) rfl))) (Or.inr (hw _ (List.mem_of_getElem? (i := 81) rfl))) (by decide) (t := (.object "com/example/reroutine/reroutine/scenario/EventType")) (t' := (.object "java/lang/String")) (by decide) (by decide)))
  have f57 := f45.other W54 (Or.inr (slot_ne (Or.inr (hw _ (List.mem_of_getElem? (i := 77) rfl))) (Or.inr (hw _ (List.mem_of_getElem? (i := 81) rfl))) (by decide) (t := (.object "java/lang/String")) (t' := (.object "java/lang/String")) (by decide) (by decide)))
  have f58 := Fw42.other W54 (Or.inr (slot_ne (Or.inr (hw _ (List.mem_of_getElem? (i := 79) rfl))) (Or.inr (hw _ (List.mem_of_getElem? (i := 81) rfl))) (by decide) (t := (.object "java/lang/String")) (t' := (.object "java/lang/String")) (by decide) (by decide)))
  have f59 := f47.wr W54
  have N54 := Fr.snoc X54 N42 g0
  have Z54 : n0 ≤ h54.size := Nat.le_trans Z42 (Keep.of_wr W54).1
  have K54 : Keep h0 h54 [a0_] := K42.wr W54 (Or.inl (List.mem_of_getElem? (i := 0) rfl))
  obtain ⟨fs, hr, hrun, hended, hW, hsame⟩ := X54.leave (v := none) (fun _ => rfl)
  refine ⟨_, _, S0 _ ?_, hrun, hended, _, _, rfl, ?_, ⟨_, rfl⟩, hW, hsame.mono (by decide) (by decide)⟩
  · skip
    show Steps p.tables e below (s₁.setTop (mkF m 0 #[rv a0_, iv u1, rv a2_, rv a3_, rv a4_, rv a5_] [])) _
    refine XS.aloadN X0.here hx rfl (hb hby d9_0) rfl rfl ?_
    show Steps p.tables e below (s₁.setTop (mkF m 1 #[rv a0_, iv u1, rv a2_, rv a3_, rv a4_, rv a5_] [(.ref a0_)])) _
    refine st1.trans ?_
    show Steps p.tables e below (T1.setTop (mkF m 4 #[rv a0_, iv u1, rv a2_, rv a3_, rv a4_, rv a5_] [])) _
    refine XS.aloadN X1.here hx rfl (hb hby d9_4) rfl rfl ?_
    show Steps p.tables e below (T1.setTop (mkF m 5 #[rv a0_, iv u1, rv a2_, rv a3_, rv a4_, rv a5_] [(.ref a2_)])) _
    refine st2 _ ?_
    show Steps p.tables e below (T2.setTop (mkF m 8 #[rv a0_, iv u1, rv a2_, rv a3_, rv a4_, rv a5_] [(.ref a2_)])) _
    refine XS.pop X2.here hx rfl (hb hby d9_8) rfl rfl ?_
    show Steps p.tables e below (T2.setTop (mkF m 9 #[rv a0_, iv u1, rv a2_, rv a3_, rv a4_, rv a5_] [])) _
    refine XS.aloadN X2.here hx rfl (hb hby d9_9) rfl rfl ?_
    show Steps p.tables e below (T2.setTop (mkF m 10 #[rv a0_, iv u1, rv a2_, rv a3_, rv a4_, rv a5_] [(.ref a3_)])) _
    refine st3 _ ?_
    show Steps p.tables e below (T3.setTop (mkF m 13 #[rv a0_, iv u1, rv a2_, rv a3_, rv a4_, rv a5_] [(.ref a3_)])) _
    refine XS.pop X3.here hx rfl (hb hby d9_13) rfl rfl ?_
    show Steps p.tables e below (T3.setTop (mkF m 14 #[rv a0_, iv u1, rv a2_, rv a3_, rv a4_, rv a5_] [])) _
    refine XS.aload X3.here hx rfl (hb hby d9_14) rfl rfl ?_
    show Steps p.tables e below (T3.setTop (mkF m 16 #[rv a0_, iv u1, rv a2_, rv a3_, rv a4_, rv a5_] [(.ref a4_)])) _
    refine st4 _ ?_
    show Steps p.tables e below (T4.setTop (mkF m 19 #[rv a0_, iv u1, rv a2_, rv a3_, rv a4_, rv a5_] [(.ref a4_)])) _
    refine XS.pop X4.here hx rfl (hb hby d9_19) rfl rfl ?_
    show Steps p.tables e below (T4.setTop (mkF m 20 #[rv a0_, iv u1, rv a2_, rv a3_, rv a4_, rv a5_] [])) _
    refine XS.iloadN X4.here hx rfl (hb hby d9_20) rfl ?_
    show Steps p.tables e below (T4.setTop (mkF m 21 #[rv a0_, iv u1, rv a2_, rv a3_, rv a4_, rv a5_] [(.int u1)])) _
    refine XS.ifYes X4.here hx rfl (pc0 := 21) (pc' := 38) rfl (hb hby d9_21) rfl ((if0 _ _).trans (flt hu).2.1) (by decide) (by decide) ?_
    show Steps p.tables e below (T4.setTop (mkF m 38 #[rv a0_, iv u1, rv a2_, rv a3_, rv a4_, rv a5_] [])) _
    refine XS.aload X4.here hx rfl (hb hby d9_38) rfl rfl ?_
    show Steps p.tables e below (T4.setTop (mkF m 40 #[rv a0_, iv u1, rv a2_, rv a3_, rv a4_, rv a5_] [(.ref a5_)])) _
    refine XS.ifnonnullYes X4.here hx rfl (pc0 := 40) (pc' := 47) rfl (hb hby d9_40) rfl (by decide) (by decide) ?_
    show Steps p.tables e below (T4.setTop (mkF m 47 #[rv a0_, iv u1, rv a2_, rv a3_, rv a4_, rv a5_] [])) _
    refine XS.iconst X4.here hx rfl (hb hby d9_47) ?_
    show Steps p.tables e below (T4.setTop (mkF m 48 #[rv a0_, iv u1, rv a2_, rv a3_, rv a4_, rv a5_] [(.int (0 : Int32))])) _
    refine XS.aloadN X4.here hx rfl (hb hby d9_48) rfl rfl ?_
    show Steps p.tables e below (T4.setTop (mkF m 49 #[rv a0_, iv u1, rv a2_, rv a3_, rv a4_, rv a5_] [(.ref a2_), (.int (0 : Int32))])) _
    refine st5.trans ?_
    show Steps p.tables e below (T5.setTop (mkF m 52 #[rv a0_, iv u1, rv a2_, rv a3_, rv a4_, rv a5_] [(.ref dd), (.int (0 : Int32))])) _
    refine XS.ifnonnullYes X5.here hx rfl (pc0 := 52) (pc' := 59) rfl (hb hby d9_52) rfl (by decide) (by decide) ?_
    show Steps p.tables e below (T5.setTop (mkF m 59 #[rv a0_, iv u1, rv a2_, rv a3_, rv a4_, rv a5_] [(.int (0 : Int32))])) _
    refine XS.iconst X5.here hx rfl (hb hby d9_59) ?_
    show Steps p.tables e below (T5.setTop (mkF m 60 #[rv a0_, iv u1, rv a2_, rv a3_, rv a4_, rv a5_] [(.int (0 : Int32)), (.int (0 : Int32))])) _
    refine XS.icmpYes X5.here hx rfl (pc0 := 60) (pc' := 92) rfl (hb hby d9_60) rfl (teq (by decide : (0 : Int32) = (0 : Int32))).1 (by decide) (by decide) ?_
    show Steps p.tables e below (T5.setTop (mkF m 92 #[rv a0_, iv u1, rv a2_, rv a3_, rv a4_, rv a5_] [])) _
    refine XS.aloadN X5.here hx rfl (hb hby d9_92) rfl rfl ?_
    show Steps p.tables e below (T5.setTop (mkF m 93 #[rv a0_, iv u1, rv a2_, rv a3_, rv a4_, rv a5_] [(.ref a0_)])) _
    refine XS.iloadN X5.here hx rfl (hb hby d9_93) rfl ?_
    show Steps p.tables e below (T5.setTop (mkF m 94 #[rv a0_, iv u1, rv a2_, rv a3_, rv a4_, rv a5_] [(.int u1), (.ref a0_)])) _
    refine st6 _ ?_
    show Steps p.tables e below (T6.setTop (mkF m 97 #[rv a0_, iv u1, rv a2_, rv a3_, rv a4_, rv a5_] [])) _
    refine XS.aloadN X6.here hx rfl (hb hby d9_97) rfl rfl ?_
    show Steps p.tables e below (T6.setTop (mkF m 98 #[rv a0_, iv u1, rv a2_, rv a3_, rv a4_, rv a5_] [(.ref a0_)])) _
    refine XS.aloadN X6.here hx rfl (hb hby d9_98) rfl rfl ?_
    show Steps p.tables e below (T6.setTop (mkF m 99 #[rv a0_, iv u1, rv a2_, rv a3_, rv a4_, rv a5_] [(.ref a2_), (.ref a0_)])) _
    refine st18 _ ?_
    show Steps p.tables e below (T18.setTop (mkF m 102 #[rv a0_, iv u1, rv a2_, rv a3_, rv a4_, rv a5_] [])) _
    refine XS.aloadN X18.here hx rfl (hb hby d9_102) rfl rfl ?_
    show Steps p.tables e below (T18.setTop (mkF m 103 #[rv a0_, iv u1, rv a2_, rv a3_, rv a4_, rv a5_] [(.ref a0_)])) _
    refine XS.aloadN X18.here hx rfl (hb hby d9_103) rfl rfl ?_
    show Steps p.tables e below (T18.setTop (mkF m 104 #[rv a0_, iv u1, rv a2_, rv a3_, rv a4_, rv a5_] [(.ref a3_), (.ref a0_)])) _
    refine st30 _ ?_
    show Steps p.tables e below (T30.setTop (mkF m 107 #[rv a0_, iv u1, rv a2_, rv a3_, rv a4_, rv a5_] [])) _
    refine XS.aloadN X30.here hx rfl (hb hby d9_107) rfl rfl ?_
    show Steps p.tables e below (T30.setTop (mkF m 108 #[rv a0_, iv u1, rv a2_, rv a3_, rv a4_, rv a5_] [(.ref a0_)])) _
    refine XS.aload X30.here hx rfl (hb hby d9_108) rfl rfl ?_
    show Steps p.tables e below (T30.setTop (mkF m 110 #[rv a0_, iv u1, rv a2_, rv a3_, rv a4_, rv a5_] [(.ref a4_), (.ref a0_)])) _
    refine st42 _ ?_
    show Steps p.tables e below (T42.setTop (mkF m 113 #[rv a0_, iv u1, rv a2_, rv a3_, rv a4_, rv a5_] [])) _
    refine XS.aloadN X42.here hx rfl (hb hby d9_113) rfl rfl ?_
    show Steps p.tables e below (T42.setTop (mkF m 114 #[rv a0_, iv u1, rv a2_, rv a3_, rv a4_, rv a5_] [(.ref a0_)])) _
    refine XS.aload X42.here hx rfl (hb hby d9_114) rfl rfl ?_
    show Steps p.tables e below (T42.setTop (mkF m 116 #[rv a0_, iv u1, rv a2_, rv a3_, rv a4_, rv a5_] [(.ref a5_), (.ref a0_)])) _
    refine st54 _ ?_
    show Steps p.tables e below (T54.setTop (mkF m 119 #[rv a0_, iv u1, rv a2_, rv a3_, rv a4_, rv a5_] [])) _
    exact X54.returnOut hx Bd.returns (hb hby d9_119) hr
  · show QEvI Z a0_ u1 a2_ a3_ a4_ a5_ dd h0 n0 _ T54.heap _
    rw [e54]
    exact ⟨rfl, N54, K54, f59, f55, f56⟩
theorem d8_0 : decode prog_33_method_2_code 0 = .ok (.new 42, 3) := by decide +kernel
theorem d8_3 : decode prog_33_method_2_code 3 = .ok (.dup, 1) := by decide +kernel
theorem d8_4 : decode prog_33_method_2_code 4 = .ok (.iload_n 0, 1) := by decide +kernel
theorem d8_5 : decode prog_33_method_2_code 5 = .ok (.getstatic 61, 3) := by decide +kernel
theorem d8_8 : decode prog_33_method_2_code 8 = .ok (.aload_n 1, 1) := by decide +kernel
theorem d8_9 : decode prog_33_method_2_code 9 = .ok (.aload_n 2, 1) := by decide +kernel
theorem d8_10 : decode prog_33_method_2_code 10 = .ok (.aload_n 3, 1) := by decide +kernel
theorem d8_11 : decode prog_33_method_2_code 11 = .ok (.invokespecial 64, 3) := by decide +kernel
theorem pd_6 : parseMethodDescriptor "(ILcom/example/reroutine/reroutine/scenario/EventType;Ljava/lang/String;Ljava/lang/String;Ljava/lang/String;)V" = some ⟨[.int, (.object "com/example/reroutine/reroutine/scenario/EventType"), (.object "java/lang/String"), (.object "java/lang/String"), (.object "java/lang/String")], none⟩ := by decide +kernel
theorem d8_14 : decode prog_33_method_2_code 14 = .ok (.areturn, 1) := by decide +kernel
def QEv0 (Z : State) (u0 : Int32) (a1_ : Addr) (a2_ : Addr) (a3_ : Addr) (t0 t1 t2 t3 d0 d1 d2 d3 oa : Addr) (oc : Cell) (h0 : Heap) (n0 : Nat) (v : Option Value) (h : Heap) (L : List Loc) : Prop := ∃ b : Addr, v = some (.ref b) ∧ Fr n0 L ∧ Keep h0 h [] ∧ n0 ≤ b ∧ h0.size ≤ b ∧ Exa Z h b "com/example/reroutine/reroutine/scenario/Event" ∧ Fld Z h b "com/example/reroutine/reroutine/scenario/Event" "time" "I" (.int u0) ∧ Fld Z h b "com/example/reroutine/reroutine/scenario/Event" "type" "Lcom/example/reroutine/reroutine/scenario/EventType;" (.ref t0)
theorem ef_rmEv0 (m : MethodId) (u0 : Int32) (a1_ : Addr) (a2_ : Addr) (a3_ : Addr) : entryFrame m #[(.int u0), (.ref a1_), (.ref a2_), (.ref a3_)] 4 = mkF m 0 #[iv u0, rv a1_, rv a2_, rv a3_] [] := by first | (simp [entryFrame, mkF, argsToLocals, Value.category]; done) | rfl
set_option maxRecDepth 65536 in
set_option maxHeartbeats 40000000 in
theorem rmEv0 (l : Launch) (Z : State) (a0 : Array Value) (hw : ∀ d ∈ tables_1, d.before a0 Z = true) (ws : List Jvm.Cond) (u0 : Int32) (a1_ : Addr) (a2_ : Addr) (a3_ : Addr) (t0 t1 t2 t3 d0 d1 d2 d3 oa : Addr) (oc : Cell) (h0 : Heap) (n0 : Nat) (Z0 : n0 ≤ h0.size) (hO : Old Z n0 h0) (hst : own_St Z t0 t1 t2 t3 d0 d1 d2 d3 oa oc) (hu : ¬ u0 < 0) :
    MetFree l (⟨"com/example/reroutine/reroutine/scenario/Event", "actEnd", "(ILjava/lang/String;Ljava/lang/String;Ljava/lang/String;)Lcom/example/reroutine/reroutine/scenario/Event;"⟩ : MethodName) (head1 (Jvm.Cond.code (⟨"com/example/reroutine/reroutine/scenario/Event", "actEnd", "(ILjava/lang/String;Ljava/lang/String;Ljava/lang/String;)Lcom/example/reroutine/reroutine/scenario/Event;"⟩ : MethodName) prog_33_method_2_code 4 (some (.object "com/example/reroutine/reroutine/scenario/Event")) :: ws) ({ frames := 3, cells := 1, slots := 5, locals := 42 } : Room)) (fun a U => a = #[(.int u0), (.ref a1_), (.ref a2_), (.ref a3_)] ∧ Z.Warmed39 U.vm ∧ U.heap = h0) (fun _ _ _ _ _ => True) (fun _ U o U' => ∃ v L, o = .returned v ∧ QEv0 Z u0 a1_ a2_ a3_ t0 t1 t2 t3 d0 d1 d2 d3 oa oc h0 n0 v U'.heap L ∧ FrameEnd U o U' L ({ frames := 3, cells := 1, slots := 5, locals := 42 } : Room).cells ({ frames := 3, cells := 1, slots := 5, locals := 42 } : Room).slots) := by
  refine MetFree.of_bodySF (plainFor_of_name pn_5) hisR ?_
  intro p e s m args below meth c s₁ Bd hml0 hP hK
  obtain ⟨rfl, hZ, hh⟩ := hP
  have hx := Bd.exec
  have hby := Bd.bytes
  have hml : c.maxLocals = 4 := hml0
  have hown : s.vm.findClass "com/example/reroutine/reroutine/scenario/Event" = some m.cls := findClass_of_methodNamed Bd.named
  have hnm := (name_of_methodNamed Bd.named Bd.method).1
  have X0 : Stand p l e ({ frames := 3, cells := 1, slots := 5, locals := 42 } : Room) s m #[(.int u0), (.ref a1_), (.ref a2_), (.ref a3_)] below meth c s₁ [] 0 0 := Stand.of_body Bd
  have e0 : s₁.heap = h0 := by rw [← hh, Bd.state]; rfl
  have N0 := Fr.nil n0
  have S0 : ∀ t, Steps p.tables e below (s₁.setTop (mkF m 0 #[iv u0, rv a1_, rv a2_, rv a3_] [])) t → Steps p.tables e below (s₁.setTop (entryFrame m #[(.int u0), (.ref a1_), (.ref a2_), (.ref a3_)] 4)) t := fun t k => castTop (ef_rmEv0 m u0 a1_ a2_ a3_) k
  obtain ⟨⟨hs0, hx0, hd0⟩, ⟨hs1, hx1, hd1⟩, ⟨hs2, hx2, hd2⟩, ⟨hs3, hx3, hd3⟩, hso, hao, hsz, hq0, hq1, hq2, hq3⟩ := id hst
  have K0 : Keep h0 h0 [] := Keep.refl _ _
  obtain ⟨T1, h1, X1, e1, E1, A1, D1, -, st1⟩ := newO X0 hx hZ hown (hw _ (List.mem_of_getElem? (i := 50) rfl)) (hw _ (List.mem_of_getElem? (i := 51) rfl)) (hw _ (List.mem_of_getElem? (i := 48) rfl)) e0 (g := (mkF m 0 #[iv u0, rv a1_, rv a2_, rv a3_] [])) rfl (hb hby d8_0) (by decide) (by decide)
  obtain ⟨b1, g1⟩ : ∃ z, z = h0.size := ⟨_, rfl⟩
  rw [← g1] at A1 D1 st1
  have ge_b1 : n0 ≤ b1 := Nat.le_trans Z0 (Nat.le_of_eq g1.symm)
  have Od2 := hO.ext E1
  have F1_time : Fld Z h1 b1 "com/example/reroutine/reroutine/scenario/Event" "time" "I" (.int (0 : Int32)) := D1 (Or.inr (hw _ (List.mem_of_getElem? (i := 73) rfl))) (ty := .int) (by decide)
  have F1_type : Fld Z h1 b1 "com/example/reroutine/reroutine/scenario/Event" "type" "Lcom/example/reroutine/reroutine/scenario/EventType;" .null := D1 (Or.inr (hw _ (List.mem_of_getElem? (i := 75) rfl))) (ty := (.object "com/example/reroutine/reroutine/scenario/EventType")) (by decide)
  have F1_agent : Fld Z h1 b1 "com/example/reroutine/reroutine/scenario/Event" "agent" "Ljava/lang/String;" .null := D1 (Or.inr (hw _ (List.mem_of_getElem? (i := 77) rfl))) (ty := (.object "java/lang/String")) (by decide)
  have F1_link : Fld Z h1 b1 "com/example/reroutine/reroutine/scenario/Event" "link" "Ljava/lang/String;" .null := D1 (Or.inr (hw _ (List.mem_of_getElem? (i := 79) rfl))) (ty := (.object "java/lang/String")) (by decide)
  have F1_detail : Fld Z h1 b1 "com/example/reroutine/reroutine/scenario/Event" "detail" "Ljava/lang/String;" .null := D1 (Or.inr (hw _ (List.mem_of_getElem? (i := 81) rfl))) (ty := (.object "java/lang/String")) (by decide)
  have Z1 : n0 ≤ h1.size := Nat.le_trans Z0 E1.1
  have K1 : Keep h0 h1 [] := K0.ext E1
  have sz_b1 : h0.size ≤ b1 := Nat.le_trans K0.1 (Nat.le_of_eq g1.symm)
  obtain ⟨T3, X3, e3, st3⟩ := getS2 X1 hx hZ hown (host := "") (Or.inl (hw _ (List.mem_of_getElem? (i := 52) rfl))) Via.refl e1 (hs0.ext Od2.2) (g := (mkF m 5 #[iv u0, rv a1_, rv a2_, rv a3_] [(.int u0), (.ref b1), (.ref b1)])) rfl (hb hby d8_5)
  obtain ⟨_, _, ⟨T4, L4, k4, n4⟩, -, X4, ⟨Lc4, hQ4, l4, y4, z4⟩, st4⟩ := X3.specialBack hx (y := (⟨"com/example/reroutine/reroutine/scenario/Event", "<init>", "(ILcom/example/reroutine/reroutine/scenario/EventType;Ljava/lang/String;Ljava/lang/String;Ljava/lang/String;)V"⟩ : MethodName)) rfl hown (mvT hZ (hw _ (List.mem_of_getElem? (i := 55) rfl))) (mvT hZ (hw _ (List.mem_of_getElem? (i := 56) rfl))) (mvT hZ (hw _ (List.mem_of_getElem? (i := 57) rfl))) (by decide) (backOf (W := 1) (rmEvI l Z a0 hw [] b1 u0 t0 a1_ a2_ a3_ d0 h1 n0 Z1 A1 F1_time F1_type F1_agent F1_link F1_detail ge_b1 (hx0.ext Od2.2) (hd0.ext Od2.2) hu) hZ (hw _ (List.mem_of_getElem? (i := 57) rfl)) (hw _ (List.mem_of_getElem? (i := 48) rfl)) (by decide) (by decide)) (g := (mkF m 11 #[iv u0, rv a1_, rv a2_, rv a3_] [(.ref a3_), (.ref a2_), (.ref a1_), (.ref t0), (.int u0), (.ref b1), (.ref b1)])) rfl (by rw [hml]; rfl) (Steps.refl _) (a := b1) (argsL := [(.int u0), (.ref t0), (.ref a1_), (.ref a2_), (.ref a3_)]) (rest := [(.ref b1)]) (lenOf pd_6 rfl) rfl (by show 2 * 0 + _ ≤ _; exact Nat.le_of_eq rfl) (hb hby d8_11) (fun _ _ => ⟨rfl, e3, (by decide : 1 + 0 ≤ _), (by decide : 5 + 0 ≤ _)⟩)
  dsimp only [Pt.U, Pt.locs, Pt.cells, Pt.slots] at X4 l4 y4 z4 st4 hQ4
  subst y4 z4
  obtain ⟨rfl, Nq4, Kq4, Eq4, Fm4, Ft4⟩ := hQ4
  have N4 : Fr n0 L4 := by rw [l4]; exact Fr.app N0 Nq4
  have Z4 : n0 ≤ T4.heap.size := Nat.le_trans Z1 Kq4.1
  have K4 : Keep h0 T4.heap [] := K1.trans Kq4 (allS (Or.inr sz_b1) all0)
  have Od5 := Od2.keep Kq4 (allS ge_b1 all0)
  have f6 := A1.keep Kq4
  obtain ⟨fs, hr, hrun, hended, hW, hsame⟩ := X4.leave (v := some (.ref b1)) (fun h => by rw [Bd.returns] at h; cases h)
  refine ⟨_, _, S0 _ ?_, hrun, hended, _, _, rfl, ?_, ⟨_, rfl⟩, hW, hsame.mono (by decide) (by decide)⟩
  · skip
    show Steps p.tables e below (s₁.setTop (mkF m 0 #[iv u0, rv a1_, rv a2_, rv a3_] [])) _
    refine st1 _ ?_
    show Steps p.tables e below (T1.setTop (mkF m 3 #[iv u0, rv a1_, rv a2_, rv a3_] [(.ref b1)])) _
    refine XS.dup X1.here hx rfl (hb hby d8_3) rfl rfl ?_
    show Steps p.tables e below (T1.setTop (mkF m 4 #[iv u0, rv a1_, rv a2_, rv a3_] [(.ref b1), (.ref b1)])) _
    refine XS.iloadN X1.here hx rfl (hb hby d8_4) rfl ?_
    show Steps p.tables e below (T1.setTop (mkF m 5 #[iv u0, rv a1_, rv a2_, rv a3_] [(.int u0), (.ref b1), (.ref b1)])) _
    refine st3 _ ?_
    show Steps p.tables e below (T3.setTop (mkF m 8 #[iv u0, rv a1_, rv a2_, rv a3_] [(.ref t0), (.int u0), (.ref b1), (.ref b1)])) _
    refine XS.aloadN X3.here hx rfl (hb hby d8_8) rfl rfl ?_
    show Steps p.tables e below (T3.setTop (mkF m 9 #[iv u0, rv a1_, rv a2_, rv a3_] [(.ref a1_), (.ref t0), (.int u0), (.ref b1), (.ref b1)])) _
    refine XS.aloadN X3.here hx rfl (hb hby d8_9) rfl rfl ?_
    show Steps p.tables e below (T3.setTop (mkF m 10 #[iv u0, rv a1_, rv a2_, rv a3_] [(.ref a2_), (.ref a1_), (.ref t0), (.int u0), (.ref b1), (.ref b1)])) _
    refine XS.aloadN X3.here hx rfl (hb hby d8_10) rfl rfl ?_
    show Steps p.tables e below (T3.setTop (mkF m 11 #[iv u0, rv a1_, rv a2_, rv a3_] [(.ref a3_), (.ref a2_), (.ref a1_), (.ref t0), (.int u0), (.ref b1), (.ref b1)])) _
    refine st4.trans ?_
    show Steps p.tables e below (T4.setTop (mkF m 14 #[iv u0, rv a1_, rv a2_, rv a3_] [(.ref b1)])) _
    jvm_step X4.here [X4.here.top, hx, (hb hby d8_14), X4.method', Bd.returns, Value.isRef, FieldType.isReference]
    first | (intro acts; rw [hr _ acts rfl rfl rfl]) | rw [hr _ _ rfl rfl rfl]
    exact Steps.refl _
  · show QEv0 Z u0 a1_ a2_ a3_ t0 t1 t2 t3 d0 d1 d2 d3 oa oc h0 n0 _ T4.heap _
    exact ⟨_, rfl, N4, K4, ge_b1, sz_b1, Eq4, Fm4, Ft4⟩
theorem d12_0 : decode prog_33_method_3_code 0 = .ok (.new 42, 3) := by decide +kernel
theorem d12_3 : decode prog_33_method_3_code 3 = .ok (.dup, 1) := by decide +kernel
theorem d12_4 : decode prog_33_method_3_code 4 = .ok (.iload_n 0, 1) := by decide +kernel
theorem d12_5 : decode prog_33_method_3_code 5 = .ok (.getstatic 67, 3) := by decide +kernel
theorem d12_8 : decode prog_33_method_3_code 8 = .ok (.aload_n 1, 1) := by decide +kernel
theorem d12_9 : decode prog_33_method_3_code 9 = .ok (.aload_n 2, 1) := by decide +kernel
theorem d12_10 : decode prog_33_method_3_code 10 = .ok (.aload_n 3, 1) := by decide +kernel
theorem d12_11 : decode prog_33_method_3_code 11 = .ok (.invokespecial 64, 3) := by decide +kernel
theorem d12_14 : decode prog_33_method_3_code 14 = .ok (.areturn, 1) := by decide +kernel
def QEv1 (Z : State) (u0 : Int32) (a1_ : Addr) (a2_ : Addr) (a3_ : Addr) (t0 t1 t2 t3 d0 d1 d2 d3 oa : Addr) (oc : Cell) (h0 : Heap) (n0 : Nat) (v : Option Value) (h : Heap) (L : List Loc) : Prop := ∃ b : Addr, v = some (.ref b) ∧ Fr n0 L ∧ Keep h0 h [] ∧ n0 ≤ b ∧ h0.size ≤ b ∧ Exa Z h b "com/example/reroutine/reroutine/scenario/Event" ∧ Fld Z h b "com/example/reroutine/reroutine/scenario/Event" "time" "I" (.int u0) ∧ Fld Z h b "com/example/reroutine/reroutine/scenario/Event" "type" "Lcom/example/reroutine/reroutine/scenario/EventType;" (.ref t1)
theorem ef_rmEv1 (m : MethodId) (u0 : Int32) (a1_ : Addr) (a2_ : Addr) (a3_ : Addr) : entryFrame m #[(.int u0), (.ref a1_), (.ref a2_), (.ref a3_)] 4 = mkF m 0 #[iv u0, rv a1_, rv a2_, rv a3_] [] := by first | (simp [entryFrame, mkF, argsToLocals, Value.category]; done) | rfl
set_option maxRecDepth 65536 in
set_option maxHeartbeats 40000000 in
theorem rmEv1 (l : Launch) (Z : State) (a0 : Array Value) (hw : ∀ d ∈ tables_1, d.before a0 Z = true) (ws : List Jvm.Cond) (u0 : Int32) (a1_ : Addr) (a2_ : Addr) (a3_ : Addr) (t0 t1 t2 t3 d0 d1 d2 d3 oa : Addr) (oc : Cell) (h0 : Heap) (n0 : Nat) (Z0 : n0 ≤ h0.size) (hO : Old Z n0 h0) (hst : own_St Z t0 t1 t2 t3 d0 d1 d2 d3 oa oc) (hu : ¬ u0 < 0) :
    MetFree l (⟨"com/example/reroutine/reroutine/scenario/Event", "departure", "(ILjava/lang/String;Ljava/lang/String;Ljava/lang/String;)Lcom/example/reroutine/reroutine/scenario/Event;"⟩ : MethodName) (head1 (Jvm.Cond.code (⟨"com/example/reroutine/reroutine/scenario/Event", "departure", "(ILjava/lang/String;Ljava/lang/String;Ljava/lang/String;)Lcom/example/reroutine/reroutine/scenario/Event;"⟩ : MethodName) prog_33_method_3_code 4 (some (.object "com/example/reroutine/reroutine/scenario/Event")) :: ws) ({ frames := 3, cells := 1, slots := 5, locals := 42 } : Room)) (fun a U => a = #[(.int u0), (.ref a1_), (.ref a2_), (.ref a3_)] ∧ Z.Warmed39 U.vm ∧ U.heap = h0) (fun _ _ _ _ _ => True) (fun _ U o U' => ∃ v L, o = .returned v ∧ QEv1 Z u0 a1_ a2_ a3_ t0 t1 t2 t3 d0 d1 d2 d3 oa oc h0 n0 v U'.heap L ∧ FrameEnd U o U' L ({ frames := 3, cells := 1, slots := 5, locals := 42 } : Room).cells ({ frames := 3, cells := 1, slots := 5, locals := 42 } : Room).slots) := by
  refine MetFree.of_bodySF (plainFor_of_name pn_5) hisR ?_
  intro p e s m args below meth c s₁ Bd hml0 hP hK
  obtain ⟨rfl, hZ, hh⟩ := hP
  have hx := Bd.exec
  have hby := Bd.bytes
  have hml : c.maxLocals = 4 := hml0
  have hown : s.vm.findClass "com/example/reroutine/reroutine/scenario/Event" = some m.cls := findClass_of_methodNamed Bd.named
  have hnm := (name_of_methodNamed Bd.named Bd.method).1
  have X0 : Stand p l e ({ frames := 3, cells := 1, slots := 5, locals := 42 } : Room) s m #[(.int u0), (.ref a1_), (.ref a2_), (.ref a3_)] below meth c s₁ [] 0 0 := Stand.of_body Bd
  have e0 : s₁.heap = h0 := by rw [← hh, Bd.state]; rfl
  have N0 := Fr.nil n0
  have S0 : ∀ t, Steps p.tables e below (s₁.setTop (mkF m 0 #[iv u0, rv a1_, rv a2_, rv a3_] [])) t → Steps p.tables e below (s₁.setTop (entryFrame m #[(.int u0), (.ref a1_), (.ref a2_), (.ref a3_)] 4)) t := fun t k => castTop (ef_rmEv1 m u0 a1_ a2_ a3_) k
  obtain ⟨⟨hs0, hx0, hd0⟩, ⟨hs1, hx1, hd1⟩, ⟨hs2, hx2, hd2⟩, ⟨hs3, hx3, hd3⟩, hso, hao, hsz, hq0, hq1, hq2, hq3⟩ := id hst
  have K0 : Keep h0 h0 [] := Keep.refl _ _
  obtain ⟨T1, h1, X1, e1, E1, A1, D1, -, st1⟩ := newO X0 hx hZ hown (hw _ (List.mem_of_getElem? (i := 50) rfl)) (hw _ (List.mem_of_getElem? (i := 51) rfl)) (hw _ (List.mem_of_getElem? (i := 48) rfl)) e0 (g := (mkF m 0 #[iv u0, rv a1_, rv a2_, rv a3_] [])) rfl (hb hby d12_0) (by decide) (by decide)
  obtain ⟨b1, g1⟩ : ∃ z, z = h0.size := ⟨_, rfl⟩
  rw [← g1] at A1 D1 st1
  have ge_b1 : n0 ≤ b1 := Nat.le_trans Z0 (Nat.le_of_eq g1.symm)
  have Od2 := hO.ext E1
  have F1_time : Fld Z h1 b1 "com/example/reroutine/reroutine/scenario/Event" "time" "I" (.int (0 : Int32)) := D1 (Or.inr (hw _ (List.mem_of_getElem? (i := 73) rfl))) (ty := .int) (by decide)
  have F1_type : Fld Z h1 b1 "com/example/reroutine/reroutine/scenario/Event" "type" "Lcom/example/reroutine/reroutine/scenario/EventType;" .null := D1 (Or.inr (hw _ (List.mem_of_getElem? (i := 75) rfl))) (ty := (.object "com/example/reroutine/reroutine/scenario/EventType")) (by decide)
  have F1_agent : Fld Z h1 b1 "com/example/reroutine/reroutine/scenario/Event" "agent" "Ljava/lang/String;" .null := D1 (Or.inr (hw _ (List.mem_of_getElem? (i := 77) rfl))) (ty := (.object "java/lang/String")) (by decide)
  have F1_link : Fld Z h1 b1 "com/example/reroutine/reroutine/scenario/Event" "link" "Ljava/lang/String;" .null := D1 (Or.inr (hw _ (List.mem_of_getElem? (i := 79) rfl))) (ty := (.object "java/lang/String")) (by decide)
  have F1_detail : Fld Z h1 b1 "com/example/reroutine/reroutine/scenario/Event" "detail" "Ljava/lang/String;" .null := D1 (Or.inr (hw _ (List.mem_of_getElem? (i := 81) rfl))) (ty := (.object "java/lang/String")) (by decide)
  have Z1 : n0 ≤ h1.size := Nat.le_trans Z0 E1.1
  have K1 : Keep h0 h1 [] := K0.ext E1
  have sz_b1 : h0.size ≤ b1 := Nat.le_trans K0.1 (Nat.le_of_eq g1.symm)
  obtain ⟨T3, X3, e3, st3⟩ := getS2 X1 hx hZ hown (host := "") (Or.inl (hw _ (List.mem_of_getElem? (i := 85) rfl))) Via.refl e1 (hs1.ext Od2.2) (g := (mkF m 5 #[iv u0, rv a1_, rv a2_, rv a3_] [(.int u0), (.ref b1), (.ref b1)])) rfl (hb hby d12_5)
  obtain ⟨_, _, ⟨T4, L4, k4, n4⟩, -, X4, ⟨Lc4, hQ4, l4, y4, z4⟩, st4⟩ := X3.specialBack hx (y := (⟨"com/example/reroutine/reroutine/scenario/Event", "<init>", "(ILcom/example/reroutine/reroutine/scenario/EventType;Ljava/lang/String;Ljava/lang/String;Ljava/lang/String;)V"⟩ : MethodName)) rfl hown (mvT hZ (hw _ (List.mem_of_getElem? (i := 55) rfl))) (mvT hZ (hw _ (List.mem_of_getElem? (i := 56) rfl))) (mvT hZ (hw _ (List.mem_of_getElem? (i := 57) rfl))) (by decide) (backOf (W := 1) (rmEvI l Z a0 hw [] b1 u0 t1 a1_ a2_ a3_ d1 h1 n0 Z1 A1 F1_time F1_type F1_agent F1_link F1_detail ge_b1 (hx1.ext Od2.2) (hd1.ext Od2.2) hu) hZ (hw _ (List.mem_of_getElem? (i := 57) rfl)) (hw _ (List.mem_of_getElem? (i := 48) rfl)) (by decide) (by decide)) (g := (mkF m 11 #[iv u0, rv a1_, rv a2_, rv a3_] [(.ref a3_), (.ref a2_), (.ref a1_), (.ref t1), (.int u0), (.ref b1), (.ref b1)])) rfl (by rw [hml]; rfl) (Steps.refl _) (a := b1) (argsL := [(.int u0), (.ref t1), (.ref a1_), (.ref a2_), (.ref a3_)]) (rest := [(.ref b1)]) (lenOf pd_6 rfl) rfl (by show 2 * 0 + _ ≤ _; exact Nat.le_of_eq rfl) (hb hby d12_11) (fun _ _ => ⟨rfl, e3, (by decide : 1 + 0 ≤ _), (by decide : 5 + 0 ≤ _)⟩)
  dsimp only [Pt.U, Pt.locs, Pt.cells, Pt.slots] at X4 l4 y4 z4 st4 hQ4
  subst y4 z4
  obtain ⟨rfl, Nq4, Kq4, Eq4, Fm4, Ft4⟩ := hQ4
  have N4 : Fr n0 L4 := by rw [l4]; exact Fr.app N0 Nq4
  have Z4 : n0 ≤ T4.heap.size := Nat.le_trans Z1 Kq4.1
  have K4 : Keep h0 T4.heap [] := K1.trans Kq4 (allS (Or.inr sz_b1) all0)
  have Od5 := Od2.keep Kq4 (allS ge_b1 all0)
  have f6 := A1.keep Kq4
  obtain ⟨fs, hr, hrun, hended, hW, hsame⟩ := X4.leave (v := some (.ref b1)) (fun h => by rw [Bd.returns] at h; cases h)
  refine ⟨_, _, S0 _ ?_, hrun, hended, _, _, rfl, ?_, ⟨_, rfl⟩, hW, hsame.mono (by decide) (by decide)⟩
  · skip
    show Steps p.tables e below (s₁.setTop (mkF m 0 #[iv u0, rv a1_, rv a2_, rv a3_] [])) _
    refine st1 _ ?_
    show Steps p.tables e below (T1.setTop (mkF m 3 #[iv u0, rv a1_, rv a2_, rv a3_] [(.ref b1)])) _
    refine XS.dup X1.here hx rfl (hb hby d12_3) rfl rfl ?_
    show Steps p.tables e below (T1.setTop (mkF m 4 #[iv u0, rv a1_, rv a2_, rv a3_] [(.ref b1), (.ref b1)])) _
    refine XS.iloadN X1.here hx rfl (hb hby d12_4) rfl ?_
    show Steps p.tables e below (T1.setTop (mkF m 5 #[iv u0, rv a1_, rv a2_, rv a3_] [(.int u0), (.ref b1), (.ref b1)])) _
    refine st3 _ ?_
    show Steps p.tables e below (T3.setTop (mkF m 8 #[iv u0, rv a1_, rv a2_, rv a3_] [(.ref t1), (.int u0), (.ref b1), (.ref b1)])) _
    refine XS.aloadN X3.here hx rfl (hb hby d12_8) rfl rfl ?_
    show Steps p.tables e below (T3.setTop (mkF m 9 #[iv u0, rv a1_, rv a2_, rv a3_] [(.ref a1_), (.ref t1), (.int u0), (.ref b1), (.ref b1)])) _
    refine XS.aloadN X3.here hx rfl (hb hby d12_9) rfl rfl ?_
    show Steps p.tables e below (T3.setTop (mkF m 10 #[iv u0, rv a1_, rv a2_, rv a3_] [(.ref a2_), (.ref a1_), (.ref t1), (.int u0), (.ref b1), (.ref b1)])) _
    refine XS.aloadN X3.here hx rfl (hb hby d12_10) rfl rfl ?_
    show Steps p.tables e below (T3.setTop (mkF m 11 #[iv u0, rv a1_, rv a2_, rv a3_] [(.ref a3_), (.ref a2_), (.ref a1_), (.ref t1), (.int u0), (.ref b1), (.ref b1)])) _
    refine st4.trans ?_
    show Steps p.tables e below (T4.setTop (mkF m 14 #[iv u0, rv a1_, rv a2_, rv a3_] [(.ref b1)])) _
    jvm_step X4.here [X4.here.top, hx, (hb hby d12_14), X4.method', Bd.returns, Value.isRef, FieldType.isReference]
    first | (intro acts; rw [hr _ acts rfl rfl rfl]) | rw [hr _ _ rfl rfl rfl]
    exact Steps.refl _
  · show QEv1 Z u0 a1_ a2_ a3_ t0 t1 t2 t3 d0 d1 d2 d3 oa oc h0 n0 _ T4.heap _
    exact ⟨_, rfl, N4, K4, ge_b1, sz_b1, Eq4, Fm4, Ft4⟩
theorem d13_0 : decode prog_33_method_6_code 0 = .ok (.new 42, 3) := by decide +kernel
theorem d13_3 : decode prog_33_method_6_code 3 = .ok (.dup, 1) := by decide +kernel
theorem d13_4 : decode prog_33_method_6_code 4 = .ok (.iload_n 0, 1) := by decide +kernel
theorem d13_5 : decode prog_33_method_6_code 5 = .ok (.getstatic 76, 3) := by decide +kernel
theorem d13_8 : decode prog_33_method_6_code 8 = .ok (.aload_n 1, 1) := by decide +kernel
theorem d13_9 : decode prog_33_method_6_code 9 = .ok (.aload_n 2, 1) := by decide +kernel
theorem d13_10 : decode prog_33_method_6_code 10 = .ok (.aload_n 3, 1) := by decide +kernel
theorem d13_11 : decode prog_33_method_6_code 11 = .ok (.invokespecial 64, 3) := by decide +kernel
theorem d13_14 : decode prog_33_method_6_code 14 = .ok (.areturn, 1) := by decide +kernel
def QEv2 (Z : State) (u0 : Int32) (a1_ : Addr) (a2_ : Addr) (a3_ : Addr) (t0 t1 t2 t3 d0 d1 d2 d3 oa : Addr) (oc : Cell) (h0 : Heap) (n0 : Nat) (v : Option Value) (h : Heap) (L : List Loc) : Prop := ∃ b : Addr, v = some (.ref b) ∧ Fr n0 L ∧ Keep h0 h [] ∧ n0 ≤ b ∧ h0.size ≤ b ∧ Exa Z h b "com/example/reroutine/reroutine/scenario/Event" ∧ Fld Z h b "com/example/reroutine/reroutine/scenario/Event" "time" "I" (.int u0) ∧ Fld Z h b "com/example/reroutine/reroutine/scenario/Event" "type" "Lcom/example/reroutine/reroutine/scenario/EventType;" (.ref t2)
theorem ef_rmEv2 (m : MethodId) (u0 : Int32) (a1_ : Addr) (a2_ : Addr) (a3_ : Addr) : entryFrame m #[(.int u0), (.ref a1_), (.ref a2_), (.ref a3_)] 4 = mkF m 0 #[iv u0, rv a1_, rv a2_, rv a3_] [] := by first | (simp [entryFrame, mkF, argsToLocals, Value.category]; done) | rfl
set_option maxRecDepth 65536 in
set_option maxHeartbeats 40000000 in
theorem rmEv2 (l : Launch) (Z : State) (a0 : Array Value) (hw : ∀ d ∈ tables_1, d.before a0 Z = true) (ws : List Jvm.Cond) (u0 : Int32) (a1_ : Addr) (a2_ : Addr) (a3_ : Addr) (t0 t1 t2 t3 d0 d1 d2 d3 oa : Addr) (oc : Cell) (h0 : Heap) (n0 : Nat) (Z0 : n0 ≤ h0.size) (hO : Old Z n0 h0) (hst : own_St Z t0 t1 t2 t3 d0 d1 d2 d3 oa oc) (hu : ¬ u0 < 0) :
    MetFree l (⟨"com/example/reroutine/reroutine/scenario/Event", "arrival", "(ILjava/lang/String;Ljava/lang/String;Ljava/lang/String;)Lcom/example/reroutine/reroutine/scenario/Event;"⟩ : MethodName) (head1 (Jvm.Cond.code (⟨"com/example/reroutine/reroutine/scenario/Event", "arrival", "(ILjava/lang/String;Ljava/lang/String;Ljava/lang/String;)Lcom/example/reroutine/reroutine/scenario/Event;"⟩ : MethodName) prog_33_method_6_code 4 (some (.object "com/example/reroutine/reroutine/scenario/Event")) :: ws) ({ frames := 3, cells := 1, slots := 5, locals := 42 } : Room)) (fun a U => a = #[(.int u0), (.ref a1_), (.ref a2_), (.ref a3_)] ∧ Z.Warmed39 U.vm ∧ U.heap = h0) (fun _ _ _ _ _ => True) (fun _ U o U' => ∃ v L, o = .returned v ∧ QEv2 Z u0 a1_ a2_ a3_ t0 t1 t2 t3 d0 d1 d2 d3 oa oc h0 n0 v U'.heap L ∧ FrameEnd U o U' L ({ frames := 3, cells := 1, slots := 5, locals := 42 } : Room).cells ({ frames := 3, cells := 1, slots := 5, locals := 42 } : Room).slots) := by
  refine MetFree.of_bodySF (plainFor_of_name pn_5) hisR ?_
  intro p e s m args below meth c s₁ Bd hml0 hP hK
  obtain ⟨rfl, hZ, hh⟩ := hP
  have hx := Bd.exec
  have hby := Bd.bytes
  have hml : c.maxLocals = 4 := hml0
  have hown : s.vm.findClass "com/example/reroutine/reroutine/scenario/Event" = some m.cls := findClass_of_methodNamed Bd.named
  have hnm := (name_of_methodNamed Bd.named Bd.method).1
  have X0 : Stand p l e ({ frames := 3, cells := 1, slots := 5, locals := 42 } : Room) s m #[(.int u0), (.ref a1_), (.ref a2_), (.ref a3_)] below meth c s₁ [] 0 0 := Stand.of_body Bd
  have e0 : s₁.heap = h0 := by rw [← hh, Bd.state]; rfl
  have N0 := Fr.nil n0
  have S0 : ∀ t, Steps p.tables e below (s₁.setTop (mkF m 0 #[iv u0, rv a1_, rv a2_, rv a3_] [])) t → Steps p.tables e below (s₁.setTop (entryFrame m #[(.int u0), (.ref a1_), (.ref a2_), (.ref a3_)] 4)) t := fun t k => castTop (ef_rmEv2 m u0 a1_ a2_ a3_) k
  obtain ⟨⟨hs0, hx0, hd0⟩, ⟨hs1, hx1, hd1⟩, ⟨hs2, hx2, hd2⟩, ⟨hs3, hx3, hd3⟩, hso, hao, hsz, hq0, hq1, hq2, hq3⟩ := id hst
  have K0 : Keep h0 h0 [] := Keep.refl _ _
  obtain ⟨T1, h1, X1, e1, E1, A1, D1, -, st1⟩ := newO X0 hx hZ hown (hw _ (List.mem_of_getElem? (i := 50) rfl)) (hw _ (List.mem_of_getElem? (i := 51) rfl)) (hw _ (List.mem_of_getElem? (i := 48) rfl)) e0 (g := (mkF m 0 #[iv u0, rv a1_, rv a2_, rv a3_] [])) rfl (hb hby d13_0) (by decide) (by decide)
  obtain ⟨b1, g1⟩ : ∃ z, z = h0.size := ⟨_, rfl⟩
  rw [← g1] at A1 D1 st1
  have ge_b1 : n0 ≤ b1 := Nat.le_trans Z0 (Nat.le_of_eq g1.symm)
  have Od2 := hO.ext E1
  have F1_time : Fld Z h1 b1 "com/example/reroutine/reroutine/scenario/Event" "time" "I" (.int (0 : Int32)) := D1 (Or.inr (hw _ (List.mem_of_getElem? (i := 73) rfl))) (ty := .int) (by decide)
  have F1_type : Fld Z h1 b1 "com/example/reroutine/reroutine/scenario/Event" "type" "Lcom/example/reroutine/reroutine/scenario/EventType;" .null := D1 (Or.inr (hw _ (List.mem_of_getElem? (i := 75) rfl))) (ty := (.object "com/example/reroutine/reroutine/scenario/EventType")) (by decide)
  have F1_agent : Fld Z h1 b1 "com/example/reroutine/reroutine/scenario/Event" "agent" "Ljava/lang/String;" .null := D1 (Or.inr (hw _ (List.mem_of_getElem? (i := 77) rfl))) (ty := (.object "java/lang/String")) (by decide)
  have F1_link : Fld Z h1 b1 "com/example/reroutine/reroutine/scenario/Event" "link" "Ljava/lang/String;" .null := D1 (Or.inr (hw _ (List.mem_of_getElem? (i := 79) rfl))) (ty := (.object "java/lang/String")) (by decide)
  have F1_detail : Fld Z h1 b1 "com/example/reroutine/reroutine/scenario/Event" "detail" "Ljava/lang/String;" .null := D1 (Or.inr (hw _ (List.mem_of_getElem? (i := 81) rfl))) (ty := (.object "java/lang/String")) (by decide)
  have Z1 : n0 ≤ h1.size := Nat.le_trans Z0 E1.1
  have K1 : Keep h0 h1 [] := K0.ext E1
  have sz_b1 : h0.size ≤ b1 := Nat.le_trans K0.1 (Nat.le_of_eq g1.symm)
  obtain ⟨T3, X3, e3, st3⟩ := getS2 X1 hx hZ hown (host := "") (Or.inl (hw _ (List.mem_of_getElem? (i := 90) rfl))) Via.refl e1 (hs2.ext Od2.2) (g := (mkF m 5 #[iv u0, rv a1_, rv a2_, rv a3_] [(.int u0), (.ref b1), (.ref b1)])) rfl (hb hby d13_5)
  obtain ⟨_, _, ⟨T4, L4, k4, n4⟩, -, X4, ⟨Lc4, hQ4, l4, y4, z4⟩, st4⟩ := X3.specialBack hx (y := (⟨"com/example/reroutine/reroutine/scenario/Event", "<init>", "(ILcom/example/reroutine/reroutine/scenario/EventType;Ljava/lang/String;Ljava/lang/String;Ljava/lang/String;)V"⟩ : MethodName)) rfl hown (mvT hZ (hw _ (List.mem_of_getElem? (i := 55) rfl))) (mvT hZ (hw _ (List.mem_of_getElem? (i := 56) rfl))) (mvT hZ (hw _ (List.mem_of_getElem? (i := 57) rfl))) (by decide) (backOf (W := 1) (rmEvI l Z a0 hw [] b1 u0 t2 a1_ a2_ a3_ d2 h1 n0 Z1 A1 F1_time F1_type F1_agent F1_link F1_detail ge_b1 (hx2.ext Od2.2) (hd2.ext Od2.2) hu) hZ (hw _ (List.mem_of_getElem? (i := 57) rfl)) (hw _ (List.mem_of_getElem? (i := 48) rfl)) (by decide) (by decide)) (g := (mkF m 11 #[iv u0, rv a1_, rv a2_, rv a3_] [(.ref a3_), (.ref a2_), (.ref a1_), (.ref t2), (.int u0), (.ref b1), (.ref b1)])) rfl (by rw [hml]; rfl) (Steps.refl _) (a := b1) (argsL := [(.int u0), (.ref t2), (.ref a1_), (.ref a2_), (.ref a3_)]) (rest := [(.ref b1)]) (lenOf pd_6 rfl) rfl (by show 2 * 0 + _ ≤ _; exact Nat.le_of_eq rfl) (hb hby d13_11) (fun _ _ => ⟨rfl, e3, (by decide : 1 + 0 ≤ _), (by decide : 5 + 0 ≤ _)⟩)
  dsimp only [Pt.U, Pt.locs, Pt.cells, Pt.slots] at X4 l4 y4 z4 st4 hQ4
  subst y4 z4
  obtain ⟨rfl, Nq4, Kq4, Eq4, Fm4, Ft4⟩ := hQ4
  have N4 : Fr n0 L4 := by rw [l4]; exact Fr.app N0 Nq4
  have Z4 : n0 ≤ T4.heap.size := Nat.le_trans Z1 Kq4.1
  have K4 : Keep h0 T4.heap [] := K1.trans Kq4 (allS (Or.inr sz_b1) all0)
  have Od5 := Od2.keep Kq4 (allS ge_b1 all0)
  have f6 := A1.keep Kq4
  obtain ⟨fs, hr, hrun, hended, hW, hsame⟩ := X4.leave (v := some (.ref b1)) (fun h => by rw [Bd.returns] at h; cases h)
  refine ⟨_, _, S0 _ ?_, hrun, hended, _, _, rfl, ?_, ⟨_, rfl⟩, hW, hsame.mono (by decide) (by decide)⟩
  · skip
    show Steps p.tables e below (s₁.setTop (mkF m 0 #[iv u0, rv a1_, rv a2_, rv a3_] [])) _
    refine st1 _ ?_
    show Steps p.tables e below (T1.setTop (mkF m 3 #[iv u0, rv a1_, rv a2_, rv a3_] [(.ref b1)])) _
    refine XS.dup X1.here hx rfl (hb hby d13_3) rfl rfl ?_
    show Steps p.tables e below (T1.setTop (mkF m 4 #[iv u0, rv a1_, rv a2_, rv a3_] [(.ref b1), (.ref b1)])) _
    refine XS.iloadN X1.here hx rfl (hb hby d13_4) rfl ?_
    show Steps p.tables e below (T1.setTop (mkF m 5 #[iv u0, rv a1_, rv a2_, rv a3_] [(.int u0), (.ref b1), (.ref b1)])) _
    refine st3 _ ?_
    show Steps p.tables e below (T3.setTop (mkF m 8 #[iv u0, rv a1_, rv a2_, rv a3_] [(.ref t2), (.int u0), (.ref b1), (.ref b1)])) _
    refine XS.aloadN X3.here hx rfl (hb hby d13_8) rfl rfl ?_
    show Steps p.tables e below (T3.setTop (mkF m 9 #[iv u0, rv a1_, rv a2_, rv a3_] [(.ref a1_), (.ref t2), (.int u0), (.ref b1), (.ref b1)])) _
    refine XS.aloadN X3.here hx rfl (hb hby d13_9) rfl rfl ?_
    show Steps p.tables e below (T3.setTop (mkF m 10 #[iv u0, rv a1_, rv a2_, rv a3_] [(.ref a2_), (.ref a1_), (.ref t2), (.int u0), (.ref b1), (.ref b1)])) _
    refine XS.aloadN X3.here hx rfl (hb hby d13_10) rfl rfl ?_
    show Steps p.tables e below (T3.setTop (mkF m 11 #[iv u0, rv a1_, rv a2_, rv a3_] [(.ref a3_), (.ref a2_), (.ref a1_), (.ref t2), (.int u0), (.ref b1), (.ref b1)])) _
    refine st4.trans ?_
    show Steps p.tables e below (T4.setTop (mkF m 14 #[iv u0, rv a1_, rv a2_, rv a3_] [(.ref b1)])) _
    jvm_step X4.here [X4.here.top, hx, (hb hby d13_14), X4.method', Bd.returns, Value.isRef, FieldType.isReference]
    first | (intro acts; rw [hr _ acts rfl rfl rfl]) | rw [hr _ _ rfl rfl rfl]
    exact Steps.refl _
  · show QEv2 Z u0 a1_ a2_ a3_ t0 t1 t2 t3 d0 d1 d2 d3 oa oc h0 n0 _ T4.heap _
    exact ⟨_, rfl, N4, K4, ge_b1, sz_b1, Eq4, Fm4, Ft4⟩
theorem d14_0 : decode prog_33_method_7_code 0 = .ok (.new 42, 3) := by decide +kernel
theorem d14_3 : decode prog_33_method_7_code 3 = .ok (.dup, 1) := by decide +kernel
theorem d14_4 : decode prog_33_method_7_code 4 = .ok (.iload_n 0, 1) := by decide +kernel
theorem d14_5 : decode prog_33_method_7_code 5 = .ok (.getstatic 79, 3) := by decide +kernel
theorem d14_8 : decode prog_33_method_7_code 8 = .ok (.aload_n 1, 1) := by decide +kernel
theorem d14_9 : decode prog_33_method_7_code 9 = .ok (.aload_n 2, 1) := by decide +kernel
theorem d14_10 : decode prog_33_method_7_code 10 = .ok (.aload_n 3, 1) := by decide +kernel
theorem d14_11 : decode prog_33_method_7_code 11 = .ok (.invokespecial 64, 3) := by decide +kernel
theorem d14_14 : decode prog_33_method_7_code 14 = .ok (.areturn, 1) := by decide +kernel
def QEv3 (Z : State) (u0 : Int32) (a1_ : Addr) (a2_ : Addr) (a3_ : Addr) (t0 t1 t2 t3 d0 d1 d2 d3 oa : Addr) (oc : Cell) (h0 : Heap) (n0 : Nat) (v : Option Value) (h : Heap) (L : List Loc) : Prop := ∃ b : Addr, v = some (.ref b) ∧ Fr n0 L ∧ Keep h0 h [] ∧ n0 ≤ b ∧ h0.size ≤ b ∧ Exa Z h b "com/example/reroutine/reroutine/scenario/Event" ∧ Fld Z h b "com/example/reroutine/reroutine/scenario/Event" "time" "I" (.int u0) ∧ Fld Z h b "com/example/reroutine/reroutine/scenario/Event" "type" "Lcom/example/reroutine/reroutine/scenario/EventType;" (.ref t3)
theorem ef_rmEv3 (m : MethodId) (u0 : Int32) (a1_ : Addr) (a2_ : Addr) (a3_ : Addr) : entryFrame m #[(.int u0), (.ref a1_), (.ref a2_), (.ref a3_)] 4 = mkF m 0 #[iv u0, rv a1_, rv a2_, rv a3_] [] := by first | (simp [entryFrame, mkF, argsToLocals, Value.category]; done) | rfl
set_option maxRecDepth 65536 in
set_option maxHeartbeats 40000000 in
theorem rmEv3 (l : Launch) (Z : State) (a0 : Array Value) (hw : ∀ d ∈ tables_1, d.before a0 Z = true) (ws : List Jvm.Cond) (u0 : Int32) (a1_ : Addr) (a2_ : Addr) (a3_ : Addr) (t0 t1 t2 t3 d0 d1 d2 d3 oa : Addr) (oc : Cell) (h0 : Heap) (n0 : Nat) (Z0 : n0 ≤ h0.size) (hO : Old Z n0 h0) (hst : own_St Z t0 t1 t2 t3 d0 d1 d2 d3 oa oc) (hu : ¬ u0 < 0) :
    MetFree l (⟨"com/example/reroutine/reroutine/scenario/Event", "actStart", "(ILjava/lang/String;Ljava/lang/String;Ljava/lang/String;)Lcom/example/reroutine/reroutine/scenario/Event;"⟩ : MethodName) (head1 (Jvm.Cond.code (⟨"com/example/reroutine/reroutine/scenario/Event", "actStart", "(ILjava/lang/String;Ljava/lang/String;Ljava/lang/String;)Lcom/example/reroutine/reroutine/scenario/Event;"⟩ : MethodName) prog_33_method_7_code 4 (some (.object "com/example/reroutine/reroutine/scenario/Event")) :: ws) ({ frames := 3, cells := 1, slots := 5, locals := 42 } : Room)) (fun a U => a = #[(.int u0), (.ref a1_), (.ref a2_), (.ref a3_)] ∧ Z.Warmed39 U.vm ∧ U.heap = h0) (fun _ _ _ _ _ => True) (fun _ U o U' => ∃ v L, o = .returned v ∧ QEv3 Z u0 a1_ a2_ a3_ t0 t1 t2 t3 d0 d1 d2 d3 oa oc h0 n0 v U'.heap L ∧ FrameEnd U o U' L ({ frames := 3, cells := 1, slots := 5, locals := 42 } : Room).cells ({ frames := 3, cells := 1, slots := 5, locals := 42 } : Room).slots) := by
  refine MetFree.of_bodySF (plainFor_of_name pn_5) hisR ?_
  intro p e s m args below meth c s₁ Bd hml0 hP hK
  obtain ⟨rfl, hZ, hh⟩ := hP
  have hx := Bd.exec
  have hby := Bd.bytes
  have hml : c.maxLocals = 4 := hml0
  have hown : s.vm.findClass "com/example/reroutine/reroutine/scenario/Event" = some m.cls := findClass_of_methodNamed Bd.named
  have hnm := (name_of_methodNamed Bd.named Bd.method).1
  have X0 : Stand p l e ({ frames := 3, cells := 1, slots := 5, locals := 42 } : Room) s m #[(.int u0), (.ref a1_), (.ref a2_), (.ref a3_)] below meth c s₁ [] 0 0 := Stand.of_body Bd
  have e0 : s₁.heap = h0 := by rw [← hh, Bd.state]; rfl
  have N0 := Fr.nil n0
  have S0 : ∀ t, Steps p.tables e below (s₁.setTop (mkF m 0 #[iv u0, rv a1_, rv a2_, rv a3_] [])) t → Steps p.tables e below (s₁.setTop (entryFrame m #[(.int u0), (.ref a1_), (.ref a2_), (.ref a3_)] 4)) t := fun t k => castTop (ef_rmEv3 m u0 a1_ a2_ a3_) k
  obtain ⟨⟨hs0, hx0, hd0⟩, ⟨hs1, hx1, hd1⟩, ⟨hs2, hx2, hd2⟩, ⟨hs3, hx3, hd3⟩, hso, hao, hsz, hq0, hq1, hq2, hq3⟩ := id hst
  have K0 : Keep h0 h0 [] := Keep.refl _ _
  obtain ⟨T1, h1, X1, e1, E1, A1, D1, -, st1⟩ := newO X0 hx hZ hown (hw _ (List.mem_of_getElem? (i := 50) rfl)) (hw _ (List.mem_of_getElem? (i := 51) rfl)) (hw _ (List.mem_of_getElem? (i := 48) rfl)) e0 (g := (mkF m 0 #[iv u0, rv a1_, rv a2_, rv a3_] [])) rfl (hb hby d14_0) (by decide) (by decide)
  obtain ⟨b1, g1⟩ : ∃ z, z = h0.size := ⟨_, rfl⟩
  rw [← g1] at A1 D1 st1
  have ge_b1 : n0 ≤ b1 := Nat.le_trans Z0 (Nat.le_of_eq g1.symm)
  have Od2 := hO.ext E1
  have F1_time : Fld Z h1 b1 "com/example/reroutine/reroutine/scenario/Event" "time" "I" (.int (0 : Int32)) := D1 (Or.inr (hw _ (List.mem_of_getElem? (i := 73) rfl))) (ty := .int) (by decide)
  have F1_type : Fld Z h1 b1 "com/example/reroutine/reroutine/scenario/Event" "type" "Lcom/example/reroutine/reroutine/scenario/EventType;" .null := D1 (Or.inr (hw _ (List.mem_of_getElem? (i := 75) rfl))) (ty := (.object "com/example/reroutine/reroutine/scenario/EventType")) (by decide)
  have F1_agent : Fld Z h1 b1 "com/example/reroutine/reroutine/scenario/Event" "agent" "Ljava/lang/String;" .null := D1 (Or.inr (hw _ (List.mem_of_getElem? (i := 77) rfl))) (ty := (.object "java/lang/String")) (by decide)
  have F1_link : Fld Z h1 b1 "com/example/reroutine/reroutine/scenario/Event" "link" "Ljava/lang/String;" .null := D1 (Or.inr (hw _ (List.mem_of_getElem? (i := 79) rfl))) (ty := (.object "java/lang/String")) (by decide)
  have F1_detail : Fld Z h1 b1 "com/example/reroutine/reroutine/scenario/Event" "detail" "Ljava/lang/String;" .null := D1 (Or.inr (hw _ (List.mem_of_getElem? (i := 81) rfl))) (ty := (.object "java/lang/String")) (by decide)
  have Z1 : n0 ≤ h1.size := Nat.le_trans Z0 E1.1
  have K1 : Keep h0 h1 [] := K0.ext E1
  have sz_b1 : h0.size ≤ b1 := Nat.le_trans K0.1 (Nat.le_of_eq g1.symm)
  obtain ⟨T3, X3, e3, st3⟩ := getS2 X1 hx hZ hown (host := "") (Or.inl (hw _ (List.mem_of_getElem? (i := 95) rfl))) Via.refl e1 (hs3.ext Od2.2) (g := (mkF m 5 #[iv u0, rv a1_, rv a2_, rv a3_] [(.int u0), (.ref b1), (.ref b1)])) rfl (hb hby d14_5)
  obtain ⟨_, _, ⟨T4, L4, k4, n4⟩, -, X4, ⟨Lc4, hQ4, l4, y4, z4⟩, st4⟩ := X3.specialBack hx (y := (⟨"com/example/reroutine/reroutine/scenario/Event", "<init>", "(ILcom/example/reroutine/reroutine/scenario/EventType;Ljava/lang/String;Ljava/lang/String;Ljava/lang/String;)V"⟩ : MethodName)) rfl hown (mvT hZ (hw _ (List.mem_of_getElem? (i := 55) rfl))) (mvT hZ (hw _ (List.mem_of_getElem? (i := 56) rfl))) (mvT hZ (hw _ (List.mem_of_getElem? (i := 57) rfl))) (by decide) (backOf (W := 1) (rmEvI l Z a0 hw [] b1 u0 t3 a1_ a2_ a3_ d3 h1 n0 Z1 A1 F1_time F1_type F1_agent F1_link F1_detail ge_b1 (hx3.ext Od2.2) (hd3.ext Od2.2) hu) hZ (hw _ (List.mem_of_getElem? (i := 57) rfl)) (hw _ (List.mem_of_getElem? (i := 48) rfl)) (by decide) (by decide)) (g := (mkF m 11 #[iv u0, rv a1_, rv a2_, rv a3_] [(.ref a3_), (.ref a2_), (.ref a1_), (.ref t3), (.int u0), (.ref b1), (.ref b1)])) rfl (by rw [hml]; rfl) (Steps.refl _) (a := b1) (argsL := [(.int u0), (.ref t3), (.ref a1_), (.ref a2_), (.ref a3_)]) (rest := [(.ref b1)]) (lenOf pd_6 rfl) rfl (by show 2 * 0 + _ ≤ _; exact Nat.le_of_eq rfl) (hb hby d14_11) (fun _ _ => ⟨rfl, e3, (by decide : 1 + 0 ≤ _), (by decide : 5 + 0 ≤ _)⟩)
  dsimp only [Pt.U, Pt.locs, Pt.cells, Pt.slots] at X4 l4 y4 z4 st4 hQ4
  subst y4 z4
  obtain ⟨rfl, Nq4, Kq4, Eq4, Fm4, Ft4⟩ := hQ4
  have N4 : Fr n0 L4 := by rw [l4]; exact Fr.app N0 Nq4
  have Z4 : n0 ≤ T4.heap.size := Nat.le_trans Z1 Kq4.1
  have K4 : Keep h0 T4.heap [] := K1.trans Kq4 (allS (Or.inr sz_b1) all0)
  have Od5 := Od2.keep Kq4 (allS ge_b1 all0)
  have f6 := A1.keep Kq4
  obtain ⟨fs, hr, hrun, hended, hW, hsame⟩ := X4.leave (v := some (.ref b1)) (fun h => by rw [Bd.returns] at h; cases h)
  refine ⟨_, _, S0 _ ?_, hrun, hended, _, _, rfl, ?_, ⟨_, rfl⟩, hW, hsame.mono (by decide) (by decide)⟩
  · skip
    show Steps p.tables e below (s₁.setTop (mkF m 0 #[iv u0, rv a1_, rv a2_, rv a3_] [])) _
    refine st1 _ ?_
    show Steps p.tables e below (T1.setTop (mkF m 3 #[iv u0, rv a1_, rv a2_, rv a3_] [(.ref b1)])) _
    refine XS.dup X1.here hx rfl (hb hby d14_3) rfl rfl ?_
    show Steps p.tables e below (T1.setTop (mkF m 4 #[iv u0, rv a1_, rv a2_, rv a3_] [(.ref b1), (.ref b1)])) _
    refine XS.iloadN X1.here hx rfl (hb hby d14_4) rfl ?_
    show Steps p.tables e below (T1.setTop (mkF m 5 #[iv u0, rv a1_, rv a2_, rv a3_] [(.int u0), (.ref b1), (.ref b1)])) _
    refine st3 _ ?_
    show Steps p.tables e below (T3.setTop (mkF m 8 #[iv u0, rv a1_, rv a2_, rv a3_] [(.ref t3), (.int u0), (.ref b1), (.ref b1)])) _
    refine XS.aloadN X3.here hx rfl (hb hby d14_8) rfl rfl ?_
    show Steps p.tables e below (T3.setTop (mkF m 9 #[iv u0, rv a1_, rv a2_, rv a3_] [(.ref a1_), (.ref t3), (.int u0), (.ref b1), (.ref b1)])) _
    refine XS.aloadN X3.here hx rfl (hb hby d14_9) rfl rfl ?_
    show Steps p.tables e below (T3.setTop (mkF m 10 #[iv u0, rv a1_, rv a2_, rv a3_] [(.ref a2_), (.ref a1_), (.ref t3), (.int u0), (.ref b1), (.ref b1)])) _
    refine XS.aloadN X3.here hx rfl (hb hby d14_10) rfl rfl ?_
    show Steps p.tables e below (T3.setTop (mkF m 11 #[iv u0, rv a1_, rv a2_, rv a3_] [(.ref a3_), (.ref a2_), (.ref a1_), (.ref t3), (.int u0), (.ref b1), (.ref b1)])) _
    refine st4.trans ?_
    show Steps p.tables e below (T4.setTop (mkF m 14 #[iv u0, rv a1_, rv a2_, rv a3_] [(.ref b1)])) _
    jvm_step X4.here [X4.here.top, hx, (hb hby d14_14), X4.method', Bd.returns, Value.isRef, FieldType.isReference]
    first | (intro acts; rw [hr _ acts rfl rfl rfl]) | rw [hr _ _ rfl rfl rfl]
    exact Steps.refl _
  · show QEv3 Z u0 a1_ a2_ a3_ t0 t1 t2 t3 d0 d1 d2 d3 oa oc h0 n0 _ T4.heap _
    exact ⟨_, rfl, N4, K4, ge_b1, sz_b1, Eq4, Fm4, Ft4⟩
theorem d17_0 : decode prog_33_method_12_code 0 = .ok (.aload_n 0, 1) := by decide +kernel
theorem d17_1 : decode prog_33_method_12_code 1 = .ok (.getfield 47, 3) := by decide +kernel
theorem d17_4 : decode prog_33_method_12_code 4 = .ok (.areturn, 1) := by decide +kernel
def QGtype (Z : State) (a0_ : Addr) (tt : Addr) (h0 : Heap) (n0 : Nat) (v : Option Value) (h : Heap) (L : List Loc) : Prop := v = some (.ref tt) ∧ Fr n0 L ∧ h = h0
theorem ef_rmGtype (m : MethodId) (a0_ : Addr) : entryFrame m #[(.ref a0_)] 1 = mkF m 0 #[rv a0_] [] := by first | (simp [entryFrame, mkF, argsToLocals, Value.category]; done) | rfl
set_option maxRecDepth 65536 in
set_option maxHeartbeats 40000000 in
theorem rmGtype (l : Launch) (Z : State) (a0 : Array Value) (hw : ∀ d ∈ tables_1, d.before a0 Z = true) (ws : List Jvm.Cond) (a0_ : Addr) (tt : Addr) (h0 : Heap) (n0 : Nat) (Z0 : n0 ≤ h0.size) (F0 : Fld Z h0 a0_ "com/example/reroutine/reroutine/scenario/Event" "type" "Lcom/example/reroutine/reroutine/scenario/EventType;" (.ref tt)) :
    MetFree l (⟨"com/example/reroutine/reroutine/scenario/Event", "type", "()Lcom/example/reroutine/reroutine/scenario/EventType;"⟩ : MethodName) (head1 (Jvm.Cond.code (⟨"com/example/reroutine/reroutine/scenario/Event", "type", "()Lcom/example/reroutine/reroutine/scenario/EventType;"⟩ : MethodName) prog_33_method_12_code 1 (some (.object "com/example/reroutine/reroutine/scenario/EventType")) :: ws) ({ frames := 0, cells := 0, slots := 0, locals := 0 } : Room)) (fun a U => a = #[(.ref a0_)] ∧ Z.Warmed39 U.vm ∧ U.heap = h0) (fun _ _ _ _ _ => True) (fun _ U o U' => ∃ v L, o = .returned v ∧ QGtype Z a0_ tt h0 n0 v U'.heap L ∧ FrameEnd U o U' L ({ frames := 0, cells := 0, slots := 0, locals := 0 } : Room).cells ({ frames := 0, cells := 0, slots := 0, locals := 0 } : Room).slots) := by
  refine MetFree.of_bodySF (plainFor_of_name pn_5) hisR ?_
  intro p e s m args below meth c s₁ Bd hml0 hP hK
  obtain ⟨rfl, hZ, hh⟩ := hP
  have hx := Bd.exec
  have hby := Bd.bytes
  have hml : c.maxLocals = 1 := hml0
  have hown : s.vm.findClass "com/example/reroutine/reroutine/scenario/Event" = some m.cls := findClass_of_methodNamed Bd.named
  have hnm := (name_of_methodNamed Bd.named Bd.method).1
  have X0 : Stand p l e ({ frames := 0, cells := 0, slots := 0, locals := 0 } : Room) s m #[(.ref a0_)] below meth c s₁ [] 0 0 := Stand.of_body Bd
  have e0 : s₁.heap = h0 := by rw [← hh, Bd.state]; rfl
  have N0 := Fr.nil n0
  have S0 : ∀ t, Steps p.tables e below (s₁.setTop (mkF m 0 #[rv a0_] [])) t → Steps p.tables e below (s₁.setTop (entryFrame m #[(.ref a0_)] 1)) t := fun t k => castTop (ef_rmGtype m a0_) k
  obtain ⟨T1, X1, e1, st1⟩ := getF X0 hx hZ hown (host := "") (Or.inl (hw _ (List.mem_of_getElem? (i := 74) rfl))) Via.refl e0 F0 (g := (mkF m 1 #[rv a0_] [(.ref a0_)])) rfl rfl (hb hby d17_1)
  obtain ⟨fs, hr, hrun, hended, hW, hsame⟩ := X1.leave (v := some (.ref tt)) (fun h => by rw [Bd.returns] at h; cases h)
  refine ⟨_, _, S0 _ ?_, hrun, hended, _, _, rfl, ?_, ⟨_, rfl⟩, hW, hsame.mono (by decide) (by decide)⟩
  · skip
    show Steps p.tables e below (s₁.setTop (mkF m 0 #[rv a0_] [])) _
    refine XS.aloadN X0.here hx rfl (hb hby d17_0) rfl rfl ?_
    show Steps p.tables e below (s₁.setTop (mkF m 1 #[rv a0_] [(.ref a0_)])) _
    refine st1 _ ?_
    show Steps p.tables e below (T1.setTop (mkF m 4 #[rv a0_] [(.ref tt)])) _
    jvm_step X1.here [X1.here.top, hx, (hb hby d17_4), X1.method', Bd.returns, Value.isRef, FieldType.isReference]
    first | (intro acts; rw [hr _ acts rfl rfl rfl]) | rw [hr _ _ rfl rfl rfl]
    exact Steps.refl _
  · show QGtype Z a0_ tt h0 n0 _ T1.heap _
    rw [e1]
    exact ⟨rfl, N0, rfl⟩
theorem d18_0 : decode prog_33_method_11_code 0 = .ok (.aload_n 0, 1) := by decide +kernel
theorem d18_1 : decode prog_33_method_11_code 1 = .ok (.getfield 41, 3) := by decide +kernel
theorem d18_4 : decode prog_33_method_11_code 4 = .ok (.ireturn, 1) := by decide +kernel
def QGtime (Z : State) (a0_ : Addr) (tm : Int32) (h0 : Heap) (n0 : Nat) (v : Option Value) (h : Heap) (L : List Loc) : Prop := v = some (.int tm) ∧ Fr n0 L ∧ h = h0
theorem ef_rmGtime (m : MethodId) (a0_ : Addr) : entryFrame m #[(.ref a0_)] 1 = mkF m 0 #[rv a0_] [] := by first | (simp [entryFrame, mkF, argsToLocals, Value.category]; done) | rfl
set_option maxRecDepth 65536 in
set_option maxHeartbeats 40000000 in
theorem rmGtime (l : Launch) (Z : State) (a0 : Array Value) (hw : ∀ d ∈ tables_1, d.before a0 Z = true) (ws : List Jvm.Cond) (a0_ : Addr) (tm : Int32) (h0 : Heap) (n0 : Nat) (Z0 : n0 ≤ h0.size) (F0 : Fld Z h0 a0_ "com/example/reroutine/reroutine/scenario/Event" "time" "I" (.int tm)) :
    MetFree l (⟨"com/example/reroutine/reroutine/scenario/Event", "time", "()I"⟩ : MethodName) (head1 (Jvm.Cond.code (⟨"com/example/reroutine/reroutine/scenario/Event", "time", "()I"⟩ : MethodName) prog_33_method_11_code 1 (some .int) :: ws) ({ frames := 0, cells := 0, slots := 0, locals := 0 } : Room)) (fun a U => a = #[(.ref a0_)] ∧ Z.Warmed39 U.vm ∧ U.heap = h0) (fun _ _ _ _ _ => True) (fun _ U o U' => ∃ v L, o = .returned v ∧ QGtime Z a0_ tm h0 n0 v U'.heap L ∧ FrameEnd U o U' L ({ frames := 0, cells := 0, slots := 0, locals := 0 } : Room).cells ({ frames := 0, cells := 0, slots := 0, locals := 0 } : Room).slots) := by
  refine MetFree.of_bodySF (plainFor_of_name pn_5) hisR ?_
  intro p e s m args below meth c s₁ Bd hml0 hP hK
  obtain ⟨rfl, hZ, hh⟩ := hP
  have hx := Bd.exec
  have hby := Bd.bytes
  have hml : c.maxLocals = 1 := hml0
  have hown : s.vm.findClass "com/example/reroutine/reroutine/scenario/Event" = some m.cls := findClass_of_methodNamed Bd.named
  have hnm := (name_of_methodNamed Bd.named Bd.method).1
  have X0 : Stand p l e ({ frames := 0, cells := 0, slots := 0, locals := 0 } : Room) s m #[(.ref a0_)] below meth c s₁ [] 0 0 := Stand.of_body Bd
  have e0 : s₁.heap = h0 := by rw [← hh, Bd.state]; rfl
  have N0 := Fr.nil n0
  have S0 : ∀ t, Steps p.tables e below (s₁.setTop (mkF m 0 #[rv a0_] [])) t → Steps p.tables e below (s₁.setTop (entryFrame m #[(.ref a0_)] 1)) t := fun t k => castTop (ef_rmGtime m a0_) k
  obtain ⟨T1, X1, e1, st1⟩ := getF X0 hx hZ hown (host := "") (Or.inl (hw _ (List.mem_of_getElem? (i := 72) rfl))) Via.refl e0 F0 (g := (mkF m 1 #[rv a0_] [(.ref a0_)])) rfl rfl (hb hby d18_1)
  obtain ⟨fs, hr, hrun, hended, hW, hsame⟩ := X1.leave (v := some (.int tm)) (fun h => by rw [Bd.returns] at h; cases h)
  refine ⟨_, _, S0 _ ?_, hrun, hended, _, _, rfl, ?_, ⟨_, rfl⟩, hW, hsame.mono (by decide) (by decide)⟩
  · skip
    show Steps p.tables e below (s₁.setTop (mkF m 0 #[rv a0_] [])) _
    refine XS.aloadN X0.here hx rfl (hb hby d18_0) rfl rfl ?_
    show Steps p.tables e below (s₁.setTop (mkF m 1 #[rv a0_] [(.ref a0_)])) _
    refine st1 _ ?_
    show Steps p.tables e below (T1.setTop (mkF m 4 #[rv a0_] [(.int tm)])) _
    exact retI X1 hx Bd.returns (hb hby d18_4) hr
  · show QGtime Z a0_ tm h0 n0 _ T1.heap _
    rw [e1]
    exact ⟨rfl, N0, rfl⟩
theorem d6_0 : decode prog_12_method_1_code 0 = .ok (.aload_n 0, 1) := by decide +kernel
theorem d6_1 : decode prog_12_method_1_code 1 = .ok (.invokespecial 1, 3) := by decide +kernel
theorem d6_4 : decode prog_12_method_1_code 4 = .ok (.aload_n 0, 1) := by decide +kernel
theorem d6_5 : decode prog_12_method_1_code 5 = .ok (.getstatic 7, 3) := by decide +kernel
theorem d6_8 : decode prog_12_method_1_code 8 = .ok (.arraylength, 1) := by decide +kernel
theorem d6_9 : decode prog_12_method_1_code 9 = .ok (.newarray .int, 2) := by decide +kernel
theorem d6_11 : decode prog_12_method_1_code 11 = .ok (.putfield 13, 3) := by decide +kernel
theorem d6_14 : decode prog_12_method_1_code 14 = .ok (.aload_n 0, 1) := by decide +kernel
theorem d6_15 : decode prog_12_method_1_code 15 = .ok (.aload_n 1, 1) := by decide +kernel
theorem d6_16 : decode prog_12_method_1_code 16 = .ok (.invokestatic 17, 3) := by decide +kernel
theorem d6_19 : decode prog_12_method_1_code 19 = .ok (.checkcast 23, 3) := by decide +kernel
theorem d6_22 : decode prog_12_method_1_code 22 = .ok (.putfield 25, 3) := by decide +kernel
theorem d6_25 : decode prog_12_method_1_code 25 = .ok (.return_, 1) := by decide +kernel
theorem pn_6 : plainName "com/example/reroutine/reroutine/replanning/ExecutedDay" = true := by first | (simp [plainName, overriddenIn]; done) | decide +kernel
def QDayI (Z : State) (a0_ : Addr) (a1_ : Addr) (t0 t1 t2 t3 d0 d1 d2 d3 oa : Addr) (oc : Cell) (h0 : Heap) (n0 : Nat) (v : Option Value) (h : Heap) (L : List Loc) : Prop := v = none ∧ Fr n0 L ∧ Keep h0 h [a0_] ∧ own_ED Z h n0 a0_ (0 : Int32) (4 : Int32)
theorem ef_rmDayI (m : MethodId) (a0_ : Addr) (a1_ : Addr) : entryFrame m #[(.ref a0_), (.ref a1_)] 2 = mkF m 0 #[rv a0_, rv a1_] [] := by first | (simp [entryFrame, mkF, argsToLocals, Value.category]; done) | rfl
set_option maxRecDepth 65536 in
set_option maxHeartbeats 40000000 in
theorem rmDayI (l : Launch) (Z : State) (a0 : Array Value) (hw : ∀ d ∈ tables_1, d.before a0 Z = true) (ws : List Jvm.Cond) (a0_ : Addr) (a1_ : Addr) (t0 t1 t2 t3 d0 d1 d2 d3 oa : Addr) (oc : Cell) (h0 : Heap) (n0 : Nat) (Z0 : n0 ≤ h0.size) (hO : Old Z n0 h0) (hst : own_St Z t0 t1 t2 t3 d0 d1 d2 d3 oa oc) (E1 : Exa Z h0 a0_ "com/example/reroutine/reroutine/replanning/ExecutedDay") (F1 : Fld Z h0 a0_ "com/example/reroutine/reroutine/replanning/ExecutedDay" "times" "[I" .null) (F2 : Fld Z h0 a0_ "com/example/reroutine/reroutine/replanning/ExecutedDay" "person" "Ljava/lang/String;" .null) (F3 : Fld Z h0 a0_ "com/example/reroutine/reroutine/replanning/ExecutedDay" "size" "I" (.int (0 : Int32))) (g0 : n0 ≤ a0_) (E2 : Exa Z h0 a1_ "java/lang/String") :
    MetFree l (⟨"com/example/reroutine/reroutine/replanning/ExecutedDay", "<init>", "(Ljava/lang/String;)V"⟩ : MethodName) (head1 (Jvm.Cond.code (⟨"com/example/reroutine/reroutine/replanning/ExecutedDay", "<init>", "(Ljava/lang/String;)V"⟩ : MethodName) prog_12_method_1_code 2 none :: ws) ({ frames := 1, cells := 1, slots := 4, locals := 13 } : Room)) (fun a U => a = #[(.ref a0_), (.ref a1_)] ∧ Z.Warmed39 U.vm ∧ U.heap = h0) (fun _ _ _ _ _ => True) (fun _ U o U' => ∃ v L, o = .returned v ∧ QDayI Z a0_ a1_ t0 t1 t2 t3 d0 d1 d2 d3 oa oc h0 n0 v U'.heap L ∧ FrameEnd U o U' L ({ frames := 1, cells := 1, slots := 4, locals := 13 } : Room).cells ({ frames := 1, cells := 1, slots := 4, locals := 13 } : Room).slots) := by
  refine MetFree.of_bodySF (plainFor_of_name pn_6) hisR ?_
  intro p e s m args below meth c s₁ Bd hml0 hP hK
  obtain ⟨rfl, hZ, hh⟩ := hP
  have hx := Bd.exec
  have hby := Bd.bytes
  have hml : c.maxLocals = 2 := hml0
  have hown : s.vm.findClass "com/example/reroutine/reroutine/replanning/ExecutedDay" = some m.cls := findClass_of_methodNamed Bd.named
  have hnm := (name_of_methodNamed Bd.named Bd.method).1
  have X0 : Stand p l e ({ frames := 1, cells := 1, slots := 4, locals := 13 } : Room) s m #[(.ref a0_), (.ref a1_)] below meth c s₁ [] 0 0 := Stand.of_body Bd
  have e0 : s₁.heap = h0 := by rw [← hh, Bd.state]; rfl
  have N0 := Fr.nil n0
  have S0 : ∀ t, Steps p.tables e below (s₁.setTop (mkF m 0 #[rv a0_, rv a1_] [])) t → Steps p.tables e below (s₁.setTop (entryFrame m #[(.ref a0_), (.ref a1_)] 2)) t := fun t k => castTop (ef_rmDayI m a0_ a1_) k
  obtain ⟨⟨hs0, hx0, hd0⟩, ⟨hs1, hx1, hd1⟩, ⟨hs2, hx2, hd2⟩, ⟨hs3, hx3, hd3⟩, hso, hao, hsz, hq0, hq1, hq2, hq3⟩ := id hst
  have K0 : Keep h0 h0 [a0_] := Keep.refl _ _
  obtain ⟨T1, X1, e1, st1⟩ := initO X0 hx hZ hown (hw _ (List.mem_of_getElem? (i := 33) rfl)) (hw _ (List.mem_of_getElem? (i := 21) rfl)) (hw _ (List.mem_of_getElem? (i := 22) rfl)) e0 (g := (mkF m 1 #[rv a0_, rv a1_] [(.ref a0_)])) rfl (by rw [hml]; rfl) rfl (hb hby d6_1) (by decide) (W := 0) (by show 2 * 0 + _ ≤ _; exact Nat.le_of_eq rfl) (by decide)
  obtain ⟨T2, X2, e2, st2⟩ := getS2 X1 hx hZ hown (host := "") (Or.inl (hw _ (List.mem_of_getElem? (i := 34) rfl))) Via.refl e1 (hso.ext hO.2) (g := (mkF m 5 #[rv a0_, rv a1_] [(.ref a0_)])) rfl (hb hby d6_5)
  obtain ⟨T3, h3, k3, X3, e3, E3, A3, st3⟩ := newP X2 hx hZ (hw _ (List.mem_of_getElem? (i := 36) rfl)) e2 (g := (mkF m 9 #[rv a0_, rv a1_] [(.int (4 : Int32)), (.ref a0_)])) rfl (hb hby d6_9) rfl (by decide) (cap := 4) (by decide) (by decide) (by decide) (by decide)
  obtain ⟨b3, g3⟩ : ∃ z, z = h0.size := ⟨_, rfl⟩
  rw [← g3] at A3 st3
  have ge_b3 : n0 ≤ b3 := Nat.le_trans Z0 (Nat.le_of_eq g3.symm)
  have ne_a0__b3 : a0_ ≠ b3 := Nat.ne_of_lt (Nat.lt_of_lt_of_le (E1).lt (Nat.le_of_eq g3.symm))
  have ne_a1__b3 : a1_ ≠ b3 := Nat.ne_of_lt (Nat.lt_of_lt_of_le (E2).lt (Nat.le_of_eq g3.symm))
  have Od4 := hO.ext E3
  have f5 := E1.ext E3
  have f6 := F1.ext E3
  have f7 := F2.ext E3
  have f8 := F3.ext E3
  have f9 := E2.ext E3
  have V3 : Arv Z h3 b3 k3 .int (4 : Int32) [(.int (0 : Int32)), (.int (0 : Int32)), (.int (0 : Int32)), (.int (0 : Int32))] (.int (0 : Int32)) := (Arv.new A3 (by decide)).pad (pad_rep [] (.int (0 : Int32)) 4)
  have Z3 : n0 ≤ h3.size := Nat.le_trans Z0 E3.1
  have K3 : Keep h0 h3 [a0_] := K0.ext E3
  have sz_b3 : h0.size ≤ b3 := Nat.le_trans K0.1 (Nat.le_of_eq g3.symm)
  obtain ⟨T10, h10, X10, e10, W10, st10⟩ := putF X3 hx hZ hown (host := "") (Or.inl (hw _ (List.mem_of_getElem? (i := 37) rfl))) Via.refl e3 f6 f5 (Or.inl (hw _ (List.mem_of_getElem? (i := 38) rfl))) (hw _ (List.mem_of_getElem? (i := 28) rfl)) (ty := (.array .int)) (by decide) rfl rfl (g := (mkF m 11 #[rv a0_, rv a1_] [(.ref b3), (.ref a0_)])) rfl rfl (hb hby d6_11)
  have Fw10 := f6.same W10
  have f11 := f7.other W10 (Or.inr (slot_ne (Or.inr (hw _ (List.mem_of_getElem? (i := 45) rfl))) (Or.inl (hw _ (List.mem_of_getElem? (i := 38) rfl))) (by decide) (t := (.object "java/lang/String")) (t' := (.array .int)) (by decide) (by decide)))
  have f12 := f8.other W10 (Or.inr (slot_ne (Or.inl (hw _ (List.mem_of_getElem? (i := 103) rfl))) (Or.inl (hw _ (List.mem_of_getElem? (i := 38) rfl))) (by decide) (t := .int) (t' := (.array .int)) (by decide) (by decide)))
  have f13 := f5.wr W10
  have Od14 := Od4.wr W10 g0
  have f19 := f9.wr W10
  have f20 := V3.other W10 (Ne.symm ne_a0__b3)
  have N10 := Fr.snoc X10 N0 g0
  have Z10 : n0 ≤ h10.size := Nat.le_trans Z3 (Keep.of_wr W10).1
  have K10 : Keep h0 h10 [a0_] := K3.wr W10 (Or.inl (List.mem_of_getElem? (i := 0) rfl))
  obtain ⟨_, _, ⟨T21, L21, k21, n21⟩, -, X21, ⟨Lc21, hQ21, l21, y21, z21⟩, st21⟩ := Jvm.LawKit.callS X10 hx (y := (⟨"java/util/Objects", "requireNonNull", "(Ljava/lang/Object;)Ljava/lang/Object;"⟩ : MethodName)) hown (mvT hZ (hw _ (List.mem_of_getElem? (i := 39) rfl))) (mvT hZ (hw _ (List.mem_of_getElem? (i := 40) rfl))) (mvT hZ (hw _ (List.mem_of_getElem? (i := 41) rfl))) (mvT hZ (hw _ (List.mem_of_getElem? (i := 42) rfl))) (by decide) (backOf (W := 1) (rmRnn l Z a0 hw [] a1_ h10 n0 Z10) hZ (hw _ (List.mem_of_getElem? (i := 42) rfl)) (hw _ (List.mem_of_getElem? (i := 41) rfl)) (by decide) (by decide)) (g := (mkF m 16 #[rv a0_, rv a1_] [(.ref a1_), (.ref a0_)])) rfl (by rw [hml]; rfl) (argsL := [(.ref a1_)]) (rest := [(.ref a0_)]) (lenOf pd_4 rfl) rfl (by show 2 * 0 + _ ≤ _; exact Nat.le_of_eq rfl) (hb hby d6_16) (fun _ _ => ⟨rfl, e10, (by decide : 1 + 0 ≤ _), (by decide : 4 + 0 ≤ _)⟩)
  dsimp only [Pt.U, Pt.locs, Pt.cells, Pt.slots] at X21 l21 y21 z21 st21 hQ21
  subst y21 z21
  obtain ⟨rfl, Nq21, eq21⟩ := hQ21
  have N21 : Fr n0 L21 := by rw [l21]; exact Fr.app N10 Nq21
  obtain ⟨T22, X22, e22, st22⟩ := castY X21 hx hZ hown (hw _ (List.mem_of_getElem? (i := 43) rfl)) eq21 (Ins.self f19) (g := (mkF m 19 #[rv a0_, rv a1_] [(.ref a1_), (.ref a0_)])) rfl rfl (hb hby d6_19)
  obtain ⟨T23, h23, X23, e23, W23, st23⟩ := putF X22 hx hZ hown (host := "") (Or.inl (hw _ (List.mem_of_getElem? (i := 44) rfl))) Via.refl e22 f11 f13 (Or.inr ⟨(hw _ (List.mem_of_getElem? (i := 45) rfl)), rfl, hnm⟩) (hw _ (List.mem_of_getElem? (i := 28) rfl)) (ty := (.object "java/lang/String")) (by decide) rfl rfl (g := (mkF m 22 #[rv a0_, rv a1_] [(.ref a1_), (.ref a0_)])) rfl rfl (hb hby d6_22)
  have Fw23 := f11.same W23
  have f24 := Fw10.other W23 (Or.inr (slot_ne (Or.inl (hw _ (List.mem_of_getElem? (i := 38) rfl))) (Or.inr (hw _ (List.mem_of_getElem? (i := 45) rfl))) (by decide) (t := (.array .int)) (t' := (.object "java/lang/String")) (by decide) (by decide)))
  have f25 := f12.other W23 (Or.inr (slot_ne (Or.inl (hw _ (List.mem_of_getElem? (i := 103) rfl))) (Or.inr (hw _ (List.mem_of_getElem? (i := 45) rfl))) (by decide) (t := .int) (t' := (.object "java/lang/String")) (by decide) (by decide)))
  have f26 := f13.wr W23
  have Od27 := Od14.wr W23 g0
  have f32 := f19.wr W23
  have f33 := f20.other W23 (Ne.symm ne_a0__b3)
  have N23 := Fr.snoc X23 N21 g0
  have Z23 : n0 ≤ h23.size := Nat.le_trans Z10 (Keep.of_wr W23).1
  have K23 : Keep h0 h23 [a0_] := K10.wr W23 (Or.inl (List.mem_of_getElem? (i := 0) rfl))
  obtain ⟨fs, hr, hrun, hended, hW, hsame⟩ := X23.leave (v := none) (fun _ => rfl)
  refine ⟨_, _, S0 _ ?_, hrun, hended, _, _, rfl, ?_, ⟨_, rfl⟩, hW, hsame.mono (by decide) (by decide)⟩
  · skip
    show Steps p.tables e below (s₁.setTop (mkF m 0 #[rv a0_, rv a1_] [])) _
    refine XS.aloadN X0.here hx rfl (hb hby d6_0) rfl rfl ?_
    show Steps p.tables e below (s₁.setTop (mkF m 1 #[rv a0_, rv a1_] [(.ref a0_)])) _
    refine st1 _ ?_
    show Steps p.tables e below (T1.setTop (mkF m 4 #[rv a0_, rv a1_] [])) _
    refine XS.aloadN X1.here hx rfl (hb hby d6_4) rfl rfl ?_
    show Steps p.tables e below (T1.setTop (mkF m 5 #[rv a0_, rv a1_] [(.ref a0_)])) _
    refine st2 _ ?_
    show Steps p.tables e below (T2.setTop (mkF m 8 #[rv a0_, rv a1_] [(.ref oa), (.ref a0_)])) _
    refine X2.arraylength hx (by rw [e2]; exact (hao.ext hO.2).1) (State.isArrayOf_alike hZ.alike hao.2.1) (g := (mkF m 8 #[rv a0_, rv a1_] [(.ref oa), (.ref a0_)])) rfl rfl (hb hby d6_8) _ ?_
    rw [len_of hsz (by decide)]
    show Steps p.tables e below (T2.setTop (mkF m 9 #[rv a0_, rv a1_] [(.int (4 : Int32)), (.ref a0_)])) _
    refine st3 _ ?_
    show Steps p.tables e below (T3.setTop (mkF m 11 #[rv a0_, rv a1_] [(.ref b3), (.ref a0_)])) _
    refine st10 _ ?_
    show Steps p.tables e below (T10.setTop (mkF m 14 #[rv a0_, rv a1_] [])) _
    refine XS.aloadN X10.here hx rfl (hb hby d6_14) rfl rfl ?_
    show Steps p.tables e below (T10.setTop (mkF m 15 #[rv a0_, rv a1_] [(.ref a0_)])) _
    refine XS.aloadN X10.here hx rfl (hb hby d6_15) rfl rfl ?_
    show Steps p.tables e below (T10.setTop (mkF m 16 #[rv a0_, rv a1_] [(.ref a1_), (.ref a0_)])) _
    refine st21 _ ?_
    show Steps p.tables e below (T21.setTop (mkF m 19 #[rv a0_, rv a1_] [(.ref a1_), (.ref a0_)])) _
    refine st22 _ ?_
    show Steps p.tables e below (T22.setTop (mkF m 22 #[rv a0_, rv a1_] [(.ref a1_), (.ref a0_)])) _
    refine st23 _ ?_
    show Steps p.tables e below (T23.setTop (mkF m 25 #[rv a0_, rv a1_] [])) _
    exact X23.returnOut hx Bd.returns (hb hby d6_25) hr
  · show QDayI Z a0_ a1_ t0 t1 t2 t3 d0 d1 d2 d3 oa oc h0 n0 _ T23.heap _
    rw [e23]
    exact ⟨rfl, N23, K23, ⟨f26, f25, b3, _, _, ge_b3, ne_a0__b3, f24, f33, by decide⟩⟩
theorem d20_0 : decode jdk_29_method_69_code 0 = .ok (.iload_n 0, 1) := by decide +kernel
theorem d20_1 : decode jdk_29_method_69_code 1 = .ok (.iload_n 1, 1) := by decide +kernel
theorem d20_2 : decode jdk_29_method_69_code 2 = .ok (.if_icmp .gt 7, 3) := by decide +kernel
theorem d20_5 : decode jdk_29_method_69_code 5 = .ok (.iload_n 0, 1) := by decide +kernel
theorem d20_6 : decode jdk_29_method_69_code 6 = .ok (.goto 4, 3) := by decide +kernel
theorem d20_10 : decode jdk_29_method_69_code 10 = .ok (.ireturn, 1) := by decide +kernel
def QMin (Z : State)   (h0 : Heap) (n0 : Nat) (v : Option Value) (h : Heap) (L : List Loc) : Prop := v = some (.int (4 : Int32)) ∧ Fr n0 L ∧ h = h0
theorem ef_rmMin (m : MethodId)  : entryFrame m #[(.int (4 : Int32)), (.int (8 : Int32))] 2 = mkF m 0 #[iv (4 : Int32), iv (8 : Int32)] [] := by first | (simp [entryFrame, mkF, argsToLocals, Value.category]; done) | rfl
set_option maxRecDepth 65536 in
set_option maxHeartbeats 40000000 in
theorem rmMin (l : Launch) (Z : State) (a0 : Array Value) (hw : ∀ d ∈ tables_1, d.before a0 Z = true) (ws : List Jvm.Cond)   (h0 : Heap) (n0 : Nat) (Z0 : n0 ≤ h0.size) :
    MetFree l (⟨"java/lang/Math", "min", "(II)I"⟩ : MethodName) (head1 (Jvm.Cond.code (⟨"java/lang/Math", "min", "(II)I"⟩ : MethodName) jdk_29_method_69_code 2 (some .int) :: ws) ({ frames := 0, cells := 0, slots := 0, locals := 0 } : Room)) (fun a U => a = #[(.int (4 : Int32)), (.int (8 : Int32))] ∧ Z.Warmed39 U.vm ∧ U.heap = h0) (fun _ _ _ _ _ => True) (fun _ U o U' => ∃ v L, o = .returned v ∧ QMin Z h0 n0 v U'.heap L ∧ FrameEnd U o U' L ({ frames := 0, cells := 0, slots := 0, locals := 0 } : Room).cells ({ frames := 0, cells := 0, slots := 0, locals := 0 } : Room).slots) := by
  refine MetFree.of_bodySF (Jvm.Free.JP.mathPlain rfl (by decide +kernel)) hisR ?_
  intro p e s m args below meth c s₁ Bd hml0 hP hK
  obtain ⟨rfl, hZ, hh⟩ := hP
  have hx := Bd.exec
  have hby := Bd.bytes
  have hml : c.maxLocals = 2 := hml0
  have hown : s.vm.findClass "java/lang/Math" = some m.cls := findClass_of_methodNamed Bd.named
  have hnm := (name_of_methodNamed Bd.named Bd.method).1
  have X0 : Stand p l e ({ frames := 0, cells := 0, slots := 0, locals := 0 } : Room) s m #[(.int (4 : Int32)), (.int (8 : Int32))] below meth c s₁ [] 0 0 := Stand.of_body Bd
  have e0 : s₁.heap = h0 := by rw [← hh, Bd.state]; rfl
  have N0 := Fr.nil n0
  have S0 : ∀ t, Steps p.tables e below (s₁.setTop (mkF m 0 #[iv (4 : Int32), iv (8 : Int32)] [])) t → Steps p.tables e below (s₁.setTop (entryFrame m #[(.int (4 : Int32)), (.int (8 : Int32))] 2)) t := fun t k => castTop (ef_rmMin m ) k
  obtain ⟨fs, hr, hrun, hended, hW, hsame⟩ := X0.leave (v := some (.int (4 : Int32))) (fun h => by rw [Bd.returns] at h; cases h)
  refine ⟨_, _, S0 _ ?_, hrun, hended, _, _, rfl, ?_, ⟨_, rfl⟩, hW, hsame.mono (by decide) (by decide)⟩
  · skip
    show Steps p.tables e below (s₁.setTop (mkF m 0 #[iv (4 : Int32), iv (8 : Int32)] [])) _
    refine XS.iloadN X0.here hx rfl (hb hby d20_0) rfl ?_
    show Steps p.tables e below (s₁.setTop (mkF m 1 #[iv (4 : Int32), iv (8 : Int32)] [(.int (4 : Int32))])) _
    refine XS.iloadN X0.here hx rfl (hb hby d20_1) rfl ?_
    show Steps p.tables e below (s₁.setTop (mkF m 2 #[iv (4 : Int32), iv (8 : Int32)] [(.int (8 : Int32)), (.int (4 : Int32))])) _
    refine XS.icmpNo X0.here hx rfl (hb hby d20_2) rfl (flt (by decide : ¬ ((8 : Int32) < (4 : Int32)))).2.2.1 ?_
    show Steps p.tables e below (s₁.setTop (mkF m 5 #[iv (4 : Int32), iv (8 : Int32)] [])) _
    refine XS.iloadN X0.here hx rfl (hb hby d20_5) rfl ?_
    show Steps p.tables e below (s₁.setTop (mkF m 6 #[iv (4 : Int32), iv (8 : Int32)] [(.int (4 : Int32))])) _
    refine XS.goto X0.here hx rfl (pc0 := 6) (pc' := 10) rfl (hb hby d20_6) (by decide) (by decide) ?_
    show Steps p.tables e below (s₁.setTop (mkF m 10 #[iv (4 : Int32), iv (8 : Int32)] [(.int (4 : Int32))])) _
    exact retI X0 hx Bd.returns (hb hby d20_10) hr
  · show QMin Z h0 n0 _ s₁.heap _
    rw [e0]
    exact ⟨rfl, N0, rfl⟩
theorem d19_0 : decode jdk_65_method_123_code 0 = .ok (.iload_n 1, 1) := by decide +kernel
theorem d19_1 : decode jdk_65_method_123_code 1 = .ok (.aload_n 0, 1) := by decide +kernel
theorem d19_2 : decode jdk_65_method_123_code 2 = .ok (.arraylength, 1) := by decide +kernel
theorem d19_3 : decode jdk_65_method_123_code 3 = .ok (.if_icmp .ne 11, 3) := by decide +kernel
theorem d19_14 : decode jdk_65_method_123_code 14 = .ok (.iload_n 1, 1) := by decide +kernel
theorem d19_15 : decode jdk_65_method_123_code 15 = .ok (.newarray .int, 2) := by decide +kernel
theorem d19_17 : decode jdk_65_method_123_code 17 = .ok (.astore_n 2, 1) := by decide +kernel
theorem d19_18 : decode jdk_65_method_123_code 18 = .ok (.aload_n 0, 1) := by decide +kernel
theorem d19_19 : decode jdk_65_method_123_code 19 = .ok (.iconst 0, 1) := by decide +kernel
theorem d19_20 : decode jdk_65_method_123_code 20 = .ok (.aload_n 2, 1) := by decide +kernel
theorem d19_21 : decode jdk_65_method_123_code 21 = .ok (.iconst 0, 1) := by decide +kernel
theorem d19_22 : decode jdk_65_method_123_code 22 = .ok (.aload_n 0, 1) := by decide +kernel
theorem d19_23 : decode jdk_65_method_123_code 23 = .ok (.arraylength, 1) := by decide +kernel
theorem d19_24 : decode jdk_65_method_123_code 24 = .ok (.iload_n 1, 1) := by decide +kernel
theorem d19_25 : decode jdk_65_method_123_code 25 = .ok (.invokestatic 304, 3) := by decide +kernel
theorem pd_7 : parseMethodDescriptor "(II)I" = some ⟨[.int, .int], some .int⟩ := by decide +kernel
theorem d19_28 : decode jdk_65_method_123_code 28 = .ok (.invokestatic 150, 3) := by decide +kernel
theorem d19_31 : decode jdk_65_method_123_code 31 = .ok (.aload_n 2, 1) := by decide +kernel
theorem d19_32 : decode jdk_65_method_123_code 32 = .ok (.areturn, 1) := by decide +kernel
theorem pn_7 : plainName "java/util/Arrays" = true := by first | (simp [plainName, overriddenIn]; done) | decide +kernel
def QCopy (Z : State) (a0_ : Addr) (kk : ClassId) (vs : List Value) (h0 : Heap) (n0 : Nat) (v : Option Value) (h : Heap) (L : List Loc) : Prop := ∃ (b : Addr) (kb : ClassId) (ws : List Value), v = some (.ref b) ∧ Fr n0 L ∧ Keep h0 h [] ∧ n0 ≤ b ∧ h0.size ≤ b ∧ Arv Z h b kb .int (8 : Int32) ws (.int (0 : Int32)) ∧ ws.length = 8
theorem ef_rmCopy (m : MethodId) (a0_ : Addr) : entryFrame m #[(.ref a0_), (.int (8 : Int32))] 3 = mkF m 0 #[rv a0_, iv (8 : Int32), .unset] [] := by first | (simp [entryFrame, mkF, argsToLocals, Value.category]; done) | rfl
set_option maxRecDepth 65536 in
set_option maxHeartbeats 40000000 in
theorem rmCopy (l : Launch) (Z : State) (a0 : Array Value) (hw : ∀ d ∈ tables_1, d.before a0 Z = true) (ws : List Jvm.Cond) (a0_ : Addr) (kk : ClassId) (vs : List Value) (h0 : Heap) (n0 : Nat) (Z0 : n0 ≤ h0.size) (V0 : Arv Z h0 a0_ kk .int (4 : Int32) vs (.int (0 : Int32))) :
    MetFree l (⟨"java/util/Arrays", "copyOf", "([II)[I"⟩ : MethodName) (head1 (Jvm.Cond.code (⟨"java/util/Arrays", "copyOf", "([II)[I"⟩ : MethodName) jdk_65_method_123_code 3 (some (.array .int)) :: ws) ({ frames := 1, cells := 1, slots := 8, locals := 40 } : Room)) (fun a U => a = #[(.ref a0_), (.int (8 : Int32))] ∧ Z.Warmed39 U.vm ∧ U.heap = h0) (fun _ _ _ _ _ => True) (fun _ U o U' => ∃ v L, o = .returned v ∧ QCopy Z a0_ kk vs h0 n0 v U'.heap L ∧ FrameEnd U o U' L ({ frames := 1, cells := 1, slots := 8, locals := 40 } : Room).cells ({ frames := 1, cells := 1, slots := 8, locals := 40 } : Room).slots) := by
  refine MetFree.of_bodySF (plainFor_of_name pn_7) hisR ?_
  intro p e s m args below meth c s₁ Bd hml0 hP hK
  obtain ⟨rfl, hZ, hh⟩ := hP
  have hx := Bd.exec
  have hby := Bd.bytes
  have hml : c.maxLocals = 3 := hml0
  have hown : s.vm.findClass "java/util/Arrays" = some m.cls := findClass_of_methodNamed Bd.named
  have hnm := (name_of_methodNamed Bd.named Bd.method).1
  have X0 : Stand p l e ({ frames := 1, cells := 1, slots := 8, locals := 40 } : Room) s m #[(.ref a0_), (.int (8 : Int32))] below meth c s₁ [] 0 0 := Stand.of_body Bd
  have e0 : s₁.heap = h0 := by rw [← hh, Bd.state]; rfl
  have N0 := Fr.nil n0
  have S0 : ∀ t, Steps p.tables e below (s₁.setTop (mkF m 0 #[rv a0_, iv (8 : Int32), .unset] [])) t → Steps p.tables e below (s₁.setTop (entryFrame m #[(.ref a0_), (.int (8 : Int32))] 3)) t := fun t k => castTop (ef_rmCopy m a0_) k
  have K0 : Keep h0 h0 [] := Keep.refl _ _
  obtain ⟨cl1, Ar1, qa1, Sa1, Na1, Ha1, Ga1⟩ := id V0
  obtain ⟨T2, h2, k2, X2, e2, E2, A2, st2⟩ := newP X0 hx hZ (hw _ (List.mem_of_getElem? (i := 36) rfl)) e0 (g := (mkF m 15 #[rv a0_, iv (8 : Int32), .unset] [(.int (8 : Int32))])) rfl (hb hby d19_15) rfl (by decide) (cap := 8) (by decide) (by decide) (by decide) (by decide)
  obtain ⟨b2, g2⟩ : ∃ z, z = h0.size := ⟨_, rfl⟩
  rw [← g2] at A2 st2
  have ge_b2 : n0 ≤ b2 := Nat.le_trans Z0 (Nat.le_of_eq g2.symm)
  have ne_a0__b2 : a0_ ≠ b2 := Nat.ne_of_lt (Nat.lt_of_lt_of_le (V0).lt (Nat.le_of_eq g2.symm))
  have f3 := V0.ext E2
  have V2 : Arv Z h2 b2 k2 .int (8 : Int32) [(.int (0 : Int32)), (.int (0 : Int32)), (.int (0 : Int32)), (.int (0 : Int32)), (.int (0 : Int32)), (.int (0 : Int32)), (.int (0 : Int32)), (.int (0 : Int32))] (.int (0 : Int32)) := (Arv.new A2 (by decide)).pad (pad_rep [] (.int (0 : Int32)) 8)
  have Z2 : n0 ≤ h2.size := Nat.le_trans Z0 E2.1
  have K2 : Keep h0 h2 [] := K0.ext E2
  have sz_b2 : h0.size ≤ b2 := Nat.le_trans K0.1 (Nat.le_of_eq g2.symm)
  obtain ⟨cl4, Ar4, qa4, Sa4, Na4, Ha4, Ga4⟩ := id f3
  obtain ⟨_, _, ⟨T5, L5, k5, n5⟩, -, X5, ⟨Lc5, hQ5, l5, y5, z5⟩, st5⟩ := Jvm.LawKit.callS X2 hx (y := (⟨"java/lang/Math", "min", "(II)I"⟩ : MethodName)) hown (mvT hZ (hw _ (List.mem_of_getElem? (i := 123) rfl))) (mvT hZ (hw _ (List.mem_of_getElem? (i := 124) rfl))) (mvT hZ (hw _ (List.mem_of_getElem? (i := 125) rfl))) (mvT hZ (hw _ (List.mem_of_getElem? (i := 126) rfl))) (by decide) (backOf (W := 4) (rmMin l Z a0 hw [] h2 n0 Z2) hZ (hw _ (List.mem_of_getElem? (i := 126) rfl)) (hw _ (List.mem_of_getElem? (i := 125) rfl)) (by decide) (by decide)) (g := (mkF m 25 #[rv a0_, iv (8 : Int32), rv b2] [(.int (8 : Int32)), (.int (4 : Int32)), (.int (0 : Int32)), (.ref b2), (.int (0 : Int32)), (.ref a0_)])) rfl (by rw [hml]; rfl) (argsL := [(.int (4 : Int32)), (.int (8 : Int32))]) (rest := [(.int (0 : Int32)), (.ref b2), (.int (0 : Int32)), (.ref a0_)]) (lenOf pd_7 rfl) rfl (by show 2 * 0 + _ ≤ _; exact Nat.le_of_eq rfl) (hb hby d19_25) (fun _ _ => ⟨rfl, e2, (by decide : 1 + 0 ≤ _), (by decide : 8 + 0 ≤ _)⟩)
  dsimp only [Pt.U, Pt.locs, Pt.cells, Pt.slots] at X5 l5 y5 z5 st5 hQ5
  subst y5 z5
  obtain ⟨rfl, Nq5, eq5⟩ := hQ5
  have N5 : Fr n0 L5 := by rw [l5]; exact Fr.app N0 Nq5
  obtain ⟨T6, h6, Lx6, X6, e6, N6, Kx6, V6, st6⟩ := cpA X5 hx hZ hown (hw _ (List.mem_of_getElem? (i := 127) rfl)) (hw _ (List.mem_of_getElem? (i := 130) rfl)) (hw _ (List.mem_of_getElem? (i := 128) rfl)) (hw _ (List.mem_of_getElem? (i := 129) rfl)) eq5 f3 V2 (Or.inl ⟨rfl, rfl⟩) (by decide) (by decide) (by decide) (by decide) (by decide) rfl (by decide) N5 ge_b2 (g := (mkF m 28 #[rv a0_, iv (8 : Int32), rv b2] [(.int (4 : Int32)), (.int (0 : Int32)), (.ref b2), (.int (0 : Int32)), (.ref a0_)])) rfl (by rw [hml]; rfl) rfl (hb hby d19_28) (by decide) (W := 0) (by show 2 * 0 + _ ≤ _; exact Nat.le_of_eq rfl) (by decide)
  have K6 : Keep h0 h6 [] := K2.trans Kx6 (allS (Or.inr sz_b2) all0)
  obtain ⟨fs, hr, hrun, hended, hW, hsame⟩ := X6.leave (v := some (.ref b2)) (fun h => by rw [Bd.returns] at h; cases h)
  refine ⟨_, _, S0 _ ?_, hrun, hended, _, _, rfl, ?_, ⟨_, rfl⟩, hW, hsame.mono (by decide) (by decide)⟩
  · skip
    show Steps p.tables e below (s₁.setTop (mkF m 0 #[rv a0_, iv (8 : Int32), .unset] [])) _
    refine XS.iloadN X0.here hx rfl (hb hby d19_0) rfl ?_
    show Steps p.tables e below (s₁.setTop (mkF m 1 #[rv a0_, iv (8 : Int32), .unset] [(.int (8 : Int32))])) _
    refine XS.aloadN X0.here hx rfl (hb hby d19_1) rfl rfl ?_
    show Steps p.tables e below (s₁.setTop (mkF m 2 #[rv a0_, iv (8 : Int32), .unset] [(.ref a0_), (.int (8 : Int32))])) _
    refine X0.arraylength hx (by rw [e0]; exact Ar1.1) (State.isArrayOf_alike hZ.alike Ar1.2.1) (g := (mkF m 2 #[rv a0_, iv (8 : Int32), .unset] [(.ref a0_), (.int (8 : Int32))])) rfl rfl (hb hby d19_2) _ ?_
    rw [len_of Sa1 Na1]
    show Steps p.tables e below (s₁.setTop (mkF m 3 #[rv a0_, iv (8 : Int32), .unset] [(.int (4 : Int32)), (.int (8 : Int32))])) _
    refine XS.icmpYes X0.here hx rfl (pc0 := 3) (pc' := 14) rfl (hb hby d19_3) rfl (feq (by decide : ¬ ((8 : Int32) = (4 : Int32)))).2 (by decide) (by decide) ?_
    show Steps p.tables e below (s₁.setTop (mkF m 14 #[rv a0_, iv (8 : Int32), .unset] [])) _
    refine XS.iloadN X0.here hx rfl (hb hby d19_14) rfl ?_
    show Steps p.tables e below (s₁.setTop (mkF m 15 #[rv a0_, iv (8 : Int32), .unset] [(.int (8 : Int32))])) _
    refine st2 _ ?_
    show Steps p.tables e below (T2.setTop (mkF m 17 #[rv a0_, iv (8 : Int32), .unset] [(.ref b2)])) _
    refine XS.astoreN X2.here hx rfl (hb hby d19_17) rfl rfl (l' := #[rv a0_, iv (8 : Int32), rv b2]) rfl ?_
    show Steps p.tables e below (T2.setTop (mkF m 18 #[rv a0_, iv (8 : Int32), rv b2] [])) _
    refine XS.aloadN X2.here hx rfl (hb hby d19_18) rfl rfl ?_
    show Steps p.tables e below (T2.setTop (mkF m 19 #[rv a0_, iv (8 : Int32), rv b2] [(.ref a0_)])) _
    refine XS.iconst X2.here hx rfl (hb hby d19_19) ?_
    show Steps p.tables e below (T2.setTop (mkF m 20 #[rv a0_, iv (8 : Int32), rv b2] [(.int (0 : Int32)), (.ref a0_)])) _
    refine XS.aloadN X2.here hx rfl (hb hby d19_20) rfl rfl ?_
    show Steps p.tables e below (T2.setTop (mkF m 21 #[rv a0_, iv (8 : Int32), rv b2] [(.ref b2), (.int (0 : Int32)), (.ref a0_)])) _
    refine XS.iconst X2.here hx rfl (hb hby d19_21) ?_
    show Steps p.tables e below (T2.setTop (mkF m 22 #[rv a0_, iv (8 : Int32), rv b2] [(.int (0 : Int32)), (.ref b2), (.int (0 : Int32)), (.ref a0_)])) _
    refine XS.aloadN X2.here hx rfl (hb hby d19_22) rfl rfl ?_
    show Steps p.tables e below (T2.setTop (mkF m 23 #[rv a0_, iv (8 : Int32), rv b2] [(.ref a0_), (.int (0 : Int32)), (.ref b2), (.int (0 : Int32)), (.ref a0_)])) _
    refine X2.arraylength hx (by rw [e2]; exact Ar4.1) (State.isArrayOf_alike hZ.alike Ar4.2.1) (g := (mkF m 23 #[rv a0_, iv (8 : Int32), rv b2] [(.ref a0_), (.int (0 : Int32)), (.ref b2), (.int (0 : Int32)), (.ref a0_)])) rfl rfl (hb hby d19_23) _ ?_
    rw [len_of Sa4 Na4]
    show Steps p.tables e below (T2.setTop (mkF m 24 #[rv a0_, iv (8 : Int32), rv b2] [(.int (4 : Int32)), (.int (0 : Int32)), (.ref b2), (.int (0 : Int32)), (.ref a0_)])) _
    refine XS.iloadN X2.here hx rfl (hb hby d19_24) rfl ?_
    show Steps p.tables e below (T2.setTop (mkF m 25 #[rv a0_, iv (8 : Int32), rv b2] [(.int (8 : Int32)), (.int (4 : Int32)), (.int (0 : Int32)), (.ref b2), (.int (0 : Int32)), (.ref a0_)])) _
    refine st5 _ ?_
    show Steps p.tables e below (T5.setTop (mkF m 28 #[rv a0_, iv (8 : Int32), rv b2] [(.int (4 : Int32)), (.int (0 : Int32)), (.ref b2), (.int (0 : Int32)), (.ref a0_)])) _
    refine st6 _ ?_
    show Steps p.tables e below (T6.setTop (mkF m 31 #[rv a0_, iv (8 : Int32), rv b2] [])) _
    refine XS.aloadN X6.here hx rfl (hb hby d19_31) rfl rfl ?_
    show Steps p.tables e below (T6.setTop (mkF m 32 #[rv a0_, iv (8 : Int32), rv b2] [(.ref b2)])) _
    jvm_step X6.here [X6.here.top, hx, (hb hby d19_32), X6.method', Bd.returns, Value.isRef, FieldType.isReference]
    first | (intro acts; rw [hr _ acts rfl rfl rfl]) | rw [hr _ _ rfl rfl rfl]
    exact Steps.refl _
  · show QCopy Z a0_ kk vs h0 n0 _ T6.heap _
    rw [e6]
    exact ⟨b2, _, _, rfl, N6, K6, ge_b2, sz_b2, V6, by simp⟩
theorem d16_0 : decode prog_12_method_2_code 0 = .ok (.getstatic 7, 3) := by decide +kernel
theorem d16_3 : decode prog_12_method_2_code 3 = .ok (.aload_n 0, 1) := by decide +kernel
theorem d16_4 : decode prog_12_method_2_code 4 = .ok (.getfield 29, 3) := by decide +kernel
theorem d16_7 : decode prog_12_method_2_code 7 = .ok (.getstatic 7, 3) := by decide +kernel
theorem d16_10 : decode prog_12_method_2_code 10 = .ok (.arraylength, 1) := by decide +kernel
theorem d16_11 : decode prog_12_method_2_code 11 = .ok (.irem, 1) := by decide +kernel
theorem d16_12 : decode prog_12_method_2_code 12 = .ok (.aaload, 1) := by decide +kernel
theorem d16_13 : decode prog_12_method_2_code 13 = .ok (.astore_n 2, 1) := by decide +kernel
theorem d16_14 : decode prog_12_method_2_code 14 = .ok (.aload_n 1, 1) := by decide +kernel
theorem d16_15 : decode prog_12_method_2_code 15 = .ok (.invokevirtual 33, 3) := by decide +kernel
theorem pd_8 : parseMethodDescriptor "()Lcom/example/reroutine/reroutine/scenario/EventType;" = some ⟨[], some (.object "com/example/reroutine/reroutine/scenario/EventType")⟩ := by decide +kernel
theorem d16_18 : decode prog_12_method_2_code 18 = .ok (.aload_n 2, 1) := by decide +kernel
theorem d16_19 : decode prog_12_method_2_code 19 = .ok (.if_acmp .eq 38, 3) := by decide +kernel
theorem d16_57 : decode prog_12_method_2_code 57 = .ok (.aload_n 0, 1) := by decide +kernel
theorem d16_58 : decode prog_12_method_2_code 58 = .ok (.getfield 29, 3) := by decide +kernel
theorem d16_61 : decode prog_12_method_2_code 61 = .ok (.aload_n 0, 1) := by decide +kernel
theorem d16_62 : decode prog_12_method_2_code 62 = .ok (.getfield 13, 3) := by decide +kernel
theorem d16_65 : decode prog_12_method_2_code 65 = .ok (.arraylength, 1) := by decide +kernel
theorem d16_66 : decode prog_12_method_2_code 66 = .ok (.if_icmp .ne 20, 3) := by decide +kernel
theorem d16_86 : decode prog_12_method_2_code 86 = .ok (.aload_n 0, 1) := by decide +kernel
theorem d16_87 : decode prog_12_method_2_code 87 = .ok (.getfield 13, 3) := by decide +kernel
theorem d16_90 : decode prog_12_method_2_code 90 = .ok (.aload_n 0, 1) := by decide +kernel
theorem d16_91 : decode prog_12_method_2_code 91 = .ok (.dup, 1) := by decide +kernel
theorem d16_92 : decode prog_12_method_2_code 92 = .ok (.getfield 29, 3) := by decide +kernel
theorem d16_95 : decode prog_12_method_2_code 95 = .ok (.dup_x1, 1) := by decide +kernel
theorem d16_96 : decode prog_12_method_2_code 96 = .ok (.iconst 1, 1) := by decide +kernel
theorem d16_97 : decode prog_12_method_2_code 97 = .ok (.iadd, 1) := by decide +kernel
theorem d16_98 : decode prog_12_method_2_code 98 = .ok (.putfield 29, 3) := by decide +kernel
theorem d16_101 : decode prog_12_method_2_code 101 = .ok (.aload_n 1, 1) := by decide +kernel
theorem d16_102 : decode prog_12_method_2_code 102 = .ok (.invokevirtual 47, 3) := by decide +kernel
theorem pd_9 : parseMethodDescriptor "()I" = some ⟨[], some .int⟩ := by decide +kernel
theorem d16_105 : decode prog_12_method_2_code 105 = .ok (.iastore, 1) := by decide +kernel
theorem d16_106 : decode prog_12_method_2_code 106 = .ok (.return_, 1) := by decide +kernel
def QAdd0 (Z : State) (a0_ : Addr) (a1_ : Addr) (t0 t1 t2 t3 d0 d1 d2 d3 oa : Addr) (oc : Cell) (tm : Int32) (h0 : Heap) (n0 : Nat) (v : Option Value) (h : Heap) (L : List Loc) : Prop := v = none ∧ Fr n0 L ∧ (∃ (ar : Addr) (cl : Cell) (ty : FieldType), Keep h0 h [a0_, ar] ∧ n0 ≤ ar ∧ Arr Z h0 ar cl ty) ∧ own_ED Z h n0 a0_ (1 : Int32) (4 : Int32)
theorem ef_rmAdd0 (m : MethodId) (a0_ : Addr) (a1_ : Addr) : entryFrame m #[(.ref a0_), (.ref a1_)] 3 = mkF m 0 #[rv a0_, rv a1_, .unset] [] := by first | (simp [entryFrame, mkF, argsToLocals, Value.category]; done) | rfl
set_option maxRecDepth 65536 in
set_option maxHeartbeats 40000000 in
theorem rmAdd0 (l : Launch) (Z : State) (a0 : Array Value) (hw : ∀ d ∈ tables_1, d.before a0 Z = true) (ws : List Jvm.Cond) (a0_ : Addr) (a1_ : Addr) (t0 t1 t2 t3 d0 d1 d2 d3 oa : Addr) (oc : Cell) (tm : Int32) (h0 : Heap) (n0 : Nat) (Z0 : n0 ≤ h0.size) (hO : Old Z n0 h0) (hst : own_St Z t0 t1 t2 t3 d0 d1 d2 d3 oa oc) (B0 : own_ED Z h0 n0 a0_ (0 : Int32) (4 : Int32)) (g0 : n0 ≤ a0_) (nev : a0_ ≠ a1_) (E1 : Exa Z h0 a1_ "com/example/reroutine/reroutine/scenario/Event") (Fm : Fld Z h0 a1_ "com/example/reroutine/reroutine/scenario/Event" "time" "I" (.int tm)) (Ft : Fld Z h0 a1_ "com/example/reroutine/reroutine/scenario/Event" "type" "Lcom/example/reroutine/reroutine/scenario/EventType;" (.ref t0)) :
    MetFree l (⟨"com/example/reroutine/reroutine/replanning/ExecutedDay", "add", "(Lcom/example/reroutine/reroutine/scenario/Event;)V"⟩ : MethodName) (head1 (Jvm.Cond.code (⟨"com/example/reroutine/reroutine/replanning/ExecutedDay", "add", "(Lcom/example/reroutine/reroutine/scenario/Event;)V"⟩ : MethodName) prog_12_method_2_code 3 none :: ws) ({ frames := 1, cells := 0, slots := 0, locals := 16 } : Room)) (fun a U => a = #[(.ref a0_), (.ref a1_)] ∧ Z.Warmed39 U.vm ∧ U.heap = h0) (fun _ _ _ _ _ => True) (fun _ U o U' => ∃ v L, o = .returned v ∧ QAdd0 Z a0_ a1_ t0 t1 t2 t3 d0 d1 d2 d3 oa oc tm h0 n0 v U'.heap L ∧ FrameEnd U o U' L ({ frames := 1, cells := 0, slots := 0, locals := 16 } : Room).cells ({ frames := 1, cells := 0, slots := 0, locals := 16 } : Room).slots) := by
  refine MetFree.of_bodySF (plainFor_of_name pn_6) hisR ?_
  intro p e s m args below meth c s₁ Bd hml0 hP hK
  obtain ⟨rfl, hZ, hh⟩ := hP
  have hx := Bd.exec
  have hby := Bd.bytes
  have hml : c.maxLocals = 3 := hml0
  have hown : s.vm.findClass "com/example/reroutine/reroutine/replanning/ExecutedDay" = some m.cls := findClass_of_methodNamed Bd.named
  have hnm := (name_of_methodNamed Bd.named Bd.method).1
  have X0 : Stand p l e ({ frames := 1, cells := 0, slots := 0, locals := 16 } : Room) s m #[(.ref a0_), (.ref a1_)] below meth c s₁ [] 0 0 := Stand.of_body Bd
  have e0 : s₁.heap = h0 := by rw [← hh, Bd.state]; rfl
  have N0 := Fr.nil n0
  have S0 : ∀ t, Steps p.tables e below (s₁.setTop (mkF m 0 #[rv a0_, rv a1_, .unset] [])) t → Steps p.tables e below (s₁.setTop (entryFrame m #[(.ref a0_), (.ref a1_)] 3)) t := fun t k => castTop (ef_rmAdd0 m a0_ a1_) k
  obtain ⟨⟨hs0, hx0, hd0⟩, ⟨hs1, hx1, hd1⟩, ⟨hs2, hx2, hd2⟩, ⟨hs3, hx3, hd3⟩, hso, hao, hsz, hq0, hq1, hq2, hq3⟩ := id hst
  obtain ⟨oE, oS, ar, kk, vs, gar, nea, oF, V0, hlen⟩ := id B0
  obtain ⟨clA, ArA, -⟩ := id V0
  have K0 : Keep h0 h0 [a0_, ar] := Keep.refl _ _
  obtain ⟨T1, X1, e1, st1⟩ := getS2 X0 hx hZ hown (host := "") (Or.inl (hw _ (List.mem_of_getElem? (i := 34) rfl))) Via.refl e0 (hso.ext hO.2) (g := (mkF m 0 #[rv a0_, rv a1_, .unset] [])) rfl (hb hby d16_0)
  obtain ⟨T2, X2, e2, st2⟩ := getF X1 hx hZ hown (host := "") (Or.inl (hw _ (List.mem_of_getElem? (i := 102) rfl))) Via.refl e1 oS (g := (mkF m 4 #[rv a0_, rv a1_, .unset] [(.ref a0_), (.ref oa)])) rfl rfl (hb hby d16_4)
  obtain ⟨T3, X3, e3, st3⟩ := getS2 X2 hx hZ hown (host := "") (Or.inl (hw _ (List.mem_of_getElem? (i := 34) rfl))) Via.refl e2 (hso.ext hO.2) (g := (mkF m 7 #[rv a0_, rv a1_, .unset] [(.int (0 : Int32)), (.ref oa)])) rfl (hb hby d16_7)
  obtain ⟨cq4, kq4, q4a, q4b, q4c⟩ := isOf hZ e3 E1
  obtain ⟨_, _, ⟨T4, L4, k4, n4⟩, -, X4, ⟨Lc4, hQ4, l4, y4, z4⟩, st4⟩ := X3.virtualBack hx (y := (⟨"com/example/reroutine/reroutine/scenario/Event", "type", "()Lcom/example/reroutine/reroutine/scenario/EventType;"⟩ : MethodName)) (z := (⟨"com/example/reroutine/reroutine/scenario/Event", "type", "()Lcom/example/reroutine/reroutine/scenario/EventType;"⟩ : MethodName)) hown (mvT hZ (hw _ (List.mem_of_getElem? (i := 109) rfl))) (mvT hZ (hw _ (List.mem_of_getElem? (i := 110) rfl))) (notFace_of_selects (args := #[]) (mvT hZ (hw _ (List.mem_of_getElem? (i := 112) rfl)))) (mvT hZ (hw _ (List.mem_of_getElem? (i := 112) rfl))) (mvT hZ (hw _ (List.mem_of_getElem? (i := 111) rfl))) (by decide) (backOf (W := 0) (rmGtype l Z a0 hw [] a1_ t0 h0 n0 Z0 Ft) hZ (hw _ (List.mem_of_getElem? (i := 113) rfl)) (hw _ (List.mem_of_getElem? (i := 48) rfl)) (by decide) (by decide)) q4a q4c (g := (mkF m 15 #[rv a0_, rv a1_, rv t0] [(.ref a1_)])) rfl (by rw [hml]; rfl) (Steps.refl _) (argsL := []) (rest := []) (lenOf pd_8 rfl) rfl (by show 2 * 0 + _ ≤ _; exact Nat.le_of_eq rfl) (hb hby d16_15) (fun _ _ => ⟨rfl, e3, (by decide : 0 + 0 ≤ _), (by decide : 0 + 0 ≤ _)⟩)
  dsimp only [Pt.U, Pt.locs, Pt.cells, Pt.slots] at X4 l4 y4 z4 st4 hQ4
  subst y4 z4
  obtain ⟨rfl, Nq4, eq4⟩ := hQ4
  have N4 : Fr n0 L4 := by rw [l4]; exact Fr.app N0 Nq4
  obtain ⟨T5, X5, e5, st5⟩ := getF X4 hx hZ hown (host := "") (Or.inl (hw _ (List.mem_of_getElem? (i := 102) rfl))) Via.refl eq4 oS (g := (mkF m 58 #[rv a0_, rv a1_, rv t0] [(.ref a0_)])) rfl rfl (hb hby d16_58)
  obtain ⟨T6, X6, e6, st6⟩ := getF X5 hx hZ hown (host := "") (Or.inl (hw _ (List.mem_of_getElem? (i := 37) rfl))) Via.refl e5 oF (g := (mkF m 62 #[rv a0_, rv a1_, rv t0] [(.ref a0_), (.int (0 : Int32))])) rfl rfl (hb hby d16_62)
  obtain ⟨cl7, Ar7, qa7, Sa7, Na7, Ha7, Ga7⟩ := id V0
  obtain ⟨T8, X8, e8, st8⟩ := getF X6 hx hZ hown (host := "") (Or.inl (hw _ (List.mem_of_getElem? (i := 37) rfl))) Via.refl e6 oF (g := (mkF m 87 #[rv a0_, rv a1_, rv t0] [(.ref a0_)])) rfl rfl (hb hby d16_87)
  obtain ⟨T9, X9, e9, st9⟩ := getF X8 hx hZ hown (host := "") (Or.inl (hw _ (List.mem_of_getElem? (i := 102) rfl))) Via.refl e8 oS (g := (mkF m 92 #[rv a0_, rv a1_, rv t0] [(.ref a0_), (.ref a0_), (.ref ar)])) rfl rfl (hb hby d16_92)
  obtain ⟨T10, h10, X10, e10, W10, st10⟩ := putF X9 hx hZ hown (host := "") (Or.inl (hw _ (List.mem_of_getElem? (i := 102) rfl))) Via.refl e9 oS oE (Or.inl (hw _ (List.mem_of_getElem? (i := 103) rfl))) (hw _ (List.mem_of_getElem? (i := 28) rfl)) (ty := .int) (by decide) rfl rfl (g := (mkF m 98 #[rv a0_, rv a1_, rv t0] [(.int (1 : Int32)), (.ref a0_), (.int (0 : Int32)), (.ref ar)])) rfl rfl (hb hby d16_98)
  have Fw10 := oS.same W10
  have f11 := oF.other W10 (Or.inr (slot_ne (Or.inl (hw _ (List.mem_of_getElem? (i := 38) rfl))) (Or.inl (hw _ (List.mem_of_getElem? (i := 103) rfl))) (by decide) (t := (.array .int)) (t' := .int) (by decide) (by decide)))
  have f12 := oE.wr W10
  have Od13 := hO.wr W10 g0
  have f17 := V0.other W10 (Ne.symm nea)
  have f18 := E1.wr W10
  have f19 := Fm.other W10 (Or.inl (Ne.symm nev))
  have f20 := Ft.other W10 (Or.inl (Ne.symm nev))
  have N10 := Fr.snoc X10 N4 g0
  have Z10 : n0 ≤ h10.size := Nat.le_trans Z0 (Keep.of_wr W10).1
  have K10 : Keep h0 h10 [a0_, ar] := K0.wr W10 (Or.inl (List.mem_of_getElem? (i := 0) rfl))
  obtain ⟨cq21, kq21, q21a, q21b, q21c⟩ := isOf hZ e10 f18
  obtain ⟨_, _, ⟨T21, L21, k21, n21⟩, -, X21, ⟨Lc21, hQ21, l21, y21, z21⟩, st21⟩ := X10.virtualBack hx (y := (⟨"com/example/reroutine/reroutine/scenario/Event", "time", "()I"⟩ : MethodName)) (z := (⟨"com/example/reroutine/reroutine/scenario/Event", "time", "()I"⟩ : MethodName)) hown (mvT hZ (hw _ (List.mem_of_getElem? (i := 114) rfl))) (mvT hZ (hw _ (List.mem_of_getElem? (i := 115) rfl))) (notFace_of_selects (args := #[]) (mvT hZ (hw _ (List.mem_of_getElem? (i := 117) rfl)))) (mvT hZ (hw _ (List.mem_of_getElem? (i := 117) rfl))) (mvT hZ (hw _ (List.mem_of_getElem? (i := 116) rfl))) (by decide) (backOf (W := 2) (rmGtime l Z a0 hw [] a1_ tm h10 n0 Z10 f19) hZ (hw _ (List.mem_of_getElem? (i := 118) rfl)) (hw _ (List.mem_of_getElem? (i := 48) rfl)) (by decide) (by decide)) q21a q21c (g := (mkF m 102 #[rv a0_, rv a1_, rv t0] [(.ref a1_), (.int (0 : Int32)), (.ref ar)])) rfl (by rw [hml]; rfl) (Steps.refl _) (argsL := []) (rest := [(.int (0 : Int32)), (.ref ar)]) (lenOf pd_9 rfl) rfl (by show 2 * 0 + _ ≤ _; exact Nat.le_of_eq rfl) (hb hby d16_102) (fun _ _ => ⟨rfl, e10, (by decide : 0 + 0 ≤ _), (by decide : 0 + 0 ≤ _)⟩)
  dsimp only [Pt.U, Pt.locs, Pt.cells, Pt.slots] at X21 l21 y21 z21 st21 hQ21
  subst y21 z21
  obtain ⟨rfl, Nq21, eq21⟩ := hQ21
  have N21 : Fr n0 L21 := by rw [l21]; exact Fr.app N10 Nq21
  obtain ⟨cl22, Ar22, qa22, Sa22, Na22, Ha22, Ga22⟩ := id f17
  have hin22 : ¬ ((0 : Int32) < 0 ∨ cl22.slots.size ≤ ((0 : Int32)).toNatClampNeg) := inb_of Sa22 ⟨by decide, by decide⟩
  obtain ⟨T23, h23, X23, e23, W23, st23⟩ := stI X21 hx hZ eq21 Ar22 (j := (0 : Int32)) hin22 (g := (mkF m 105 #[rv a0_, rv a1_, rv t0] [(.int tm), (.int (0 : Int32)), (.ref ar)])) rfl rfl (hb hby d16_105)
  have V23 := Arv.set Ar22 qa22 Sa22 Na22 Ha22 Ga22 rfl W23 0 rfl (by rw [hlen]; decide)
  have N23 := Fr.snoc X23 N21 gar
  have Z23 : n0 ≤ h23.size := Nat.le_trans Z10 (Keep.of_wr W23).1
  have Od24 := Od13.wr W23 gar
  have f25 := f12.wr W23
  have f26 := Fw10.other W23 (Or.inl nea)
  have f27 := f11.other W23 (Or.inl nea)
  have K23 : Keep h0 h23 [a0_, ar] := K10.wr W23 (Or.inl (List.mem_of_getElem? (i := 1) rfl))
  obtain ⟨fs, hr, hrun, hended, hW, hsame⟩ := X23.leave (v := none) (fun _ => rfl)
  refine ⟨_, _, S0 _ ?_, hrun, hended, _, _, rfl, ?_, ⟨_, rfl⟩, hW, hsame.mono (by decide) (by decide)⟩
  · skip
    show Steps p.tables e below (s₁.setTop (mkF m 0 #[rv a0_, rv a1_, .unset] [])) _
    refine st1 _ ?_
    show Steps p.tables e below (T1.setTop (mkF m 3 #[rv a0_, rv a1_, .unset] [(.ref oa)])) _
    refine XS.aloadN X1.here hx rfl (hb hby d16_3) rfl rfl ?_
    show Steps p.tables e below (T1.setTop (mkF m 4 #[rv a0_, rv a1_, .unset] [(.ref a0_), (.ref oa)])) _
    refine st2 _ ?_
    show Steps p.tables e below (T2.setTop (mkF m 7 #[rv a0_, rv a1_, .unset] [(.int (0 : Int32)), (.ref oa)])) _
    refine st3 _ ?_
    show Steps p.tables e below (T3.setTop (mkF m 10 #[rv a0_, rv a1_, .unset] [(.ref oa), (.int (0 : Int32)), (.ref oa)])) _
    refine X3.arraylength hx (by rw [e3]; exact (hao.ext hO.2).1) (State.isArrayOf_alike hZ.alike hao.2.1) (g := (mkF m 10 #[rv a0_, rv a1_, .unset] [(.ref oa), (.int (0 : Int32)), (.ref oa)])) rfl rfl (hb hby d16_10) _ ?_
    rw [len_of hsz (by decide)]
    show Steps p.tables e below (T3.setTop (mkF m 11 #[rv a0_, rv a1_, .unset] [(.int (4 : Int32)), (.int (0 : Int32)), (.ref oa)])) _
    refine iremM X3 hx rfl (hb hby d16_11) rfl (by decide) ?_
    show Steps p.tables e below (T3.setTop (mkF m 12 #[rv a0_, rv a1_, .unset] [(.int (0 : Int32)), (.ref oa)])) _
    refine X3.aaload hx (j := (0 : Int32)) (v := (.ref t0)) (by rw [e3]; exact (hao.ext hO.2).1) (State.isArrayOf_alike hZ.alike hao.2.1) rfl hao.2.2 (inb_of hsz ⟨by decide, by decide⟩) hq0 (g := (mkF m 12 #[rv a0_, rv a1_, .unset] [(.int (0 : Int32)), (.ref oa)])) rfl rfl (hb hby d16_12) _ ?_
    show Steps p.tables e below (T3.setTop (mkF m 13 #[rv a0_, rv a1_, .unset] [(.ref t0)])) _
    refine XS.astoreN X3.here hx rfl (hb hby d16_13) rfl rfl (l' := #[rv a0_, rv a1_, rv t0]) rfl ?_
    show Steps p.tables e below (T3.setTop (mkF m 14 #[rv a0_, rv a1_, rv t0] [])) _
    refine XS.aloadN X3.here hx rfl (hb hby d16_14) rfl rfl ?_
    show Steps p.tables e below (T3.setTop (mkF m 15 #[rv a0_, rv a1_, rv t0] [(.ref a1_)])) _
    refine st4.trans ?_
    show Steps p.tables e below (T4.setTop (mkF m 18 #[rv a0_, rv a1_, rv t0] [(.ref t0)])) _
    refine XS.aloadN X4.here hx rfl (hb hby d16_18) rfl rfl ?_
    show Steps p.tables e below (T4.setTop (mkF m 19 #[rv a0_, rv a1_, rv t0] [(.ref t0), (.ref t0)])) _
    refine Jvm.RoadKit.acmp (g := (mkF m 19 #[rv a0_, rv a1_, rv t0] [(.ref t0), (.ref t0)])) X4 hx rfl rfl rfl (pc0 := 19) (pc' := 57) (same := true) rfl (hb hby d16_19) rfl (decide_eq_true rfl) (by decide) (by decide) ?_
    show Steps p.tables e below (T4.setTop (mkF m 57 #[rv a0_, rv a1_, rv t0] [])) _
    refine XS.aloadN X4.here hx rfl (hb hby d16_57) rfl rfl ?_
    show Steps p.tables e below (T4.setTop (mkF m 58 #[rv a0_, rv a1_, rv t0] [(.ref a0_)])) _
    refine st5 _ ?_
    show Steps p.tables e below (T5.setTop (mkF m 61 #[rv a0_, rv a1_, rv t0] [(.int (0 : Int32))])) _
    refine XS.aloadN X5.here hx rfl (hb hby d16_61) rfl rfl ?_
    show Steps p.tables e below (T5.setTop (mkF m 62 #[rv a0_, rv a1_, rv t0] [(.ref a0_), (.int (0 : Int32))])) _
    refine st6 _ ?_
    show Steps p.tables e below (T6.setTop (mkF m 65 #[rv a0_, rv a1_, rv t0] [(.ref ar), (.int (0 : Int32))])) _
    refine X6.arraylength hx (by rw [e6]; exact Ar7.1) (State.isArrayOf_alike hZ.alike Ar7.2.1) (g := (mkF m 65 #[rv a0_, rv a1_, rv t0] [(.ref ar), (.int (0 : Int32))])) rfl rfl (hb hby d16_65) _ ?_
    rw [len_of Sa7 Na7]
    show Steps p.tables e below (T6.setTop (mkF m 66 #[rv a0_, rv a1_, rv t0] [(.int (4 : Int32)), (.int (0 : Int32))])) _
    refine XS.icmpYes X6.here hx rfl (pc0 := 66) (pc' := 86) rfl (hb hby d16_66) rfl (feq (by decide : ¬ ((0 : Int32) = (4 : Int32)))).2 (by decide) (by decide) ?_
    show Steps p.tables e below (T6.setTop (mkF m 86 #[rv a0_, rv a1_, rv t0] [])) _
    refine XS.aloadN X6.here hx rfl (hb hby d16_86) rfl rfl ?_
    show Steps p.tables e below (T6.setTop (mkF m 87 #[rv a0_, rv a1_, rv t0] [(.ref a0_)])) _
    refine st8 _ ?_
    show Steps p.tables e below (T8.setTop (mkF m 90 #[rv a0_, rv a1_, rv t0] [(.ref ar)])) _
    refine XS.aloadN X8.here hx rfl (hb hby d16_90) rfl rfl ?_
    show Steps p.tables e below (T8.setTop (mkF m 91 #[rv a0_, rv a1_, rv t0] [(.ref a0_), (.ref ar)])) _
    refine XS.dup X8.here hx rfl (hb hby d16_91) rfl rfl ?_
    show Steps p.tables e below (T8.setTop (mkF m 92 #[rv a0_, rv a1_, rv t0] [(.ref a0_), (.ref a0_), (.ref ar)])) _
    refine st9 _ ?_
    show Steps p.tables e below (T9.setTop (mkF m 95 #[rv a0_, rv a1_, rv t0] [(.int (0 : Int32)), (.ref a0_), (.ref ar)])) _
    refine XS.dupX1 X9.here hx rfl (hb hby d16_95) rfl rfl rfl ?_
    show Steps p.tables e below (T9.setTop (mkF m 96 #[rv a0_, rv a1_, rv t0] [(.int (0 : Int32)), (.ref a0_), (.int (0 : Int32)), (.ref ar)])) _
    refine XS.iconst X9.here hx rfl (hb hby d16_96) ?_
    show Steps p.tables e below (T9.setTop (mkF m 97 #[rv a0_, rv a1_, rv t0] [(.int (1 : Int32)), (.int (0 : Int32)), (.ref a0_), (.int (0 : Int32)), (.ref ar)])) _
    refine XS.iadd X9.here hx rfl (hb hby d16_97) rfl ?_
    show Steps p.tables e below (T9.setTop (mkF m 98 #[rv a0_, rv a1_, rv t0] [(.int (1 : Int32)), (.ref a0_), (.int (0 : Int32)), (.ref ar)])) _
    refine st10 _ ?_
    show Steps p.tables e below (T10.setTop (mkF m 101 #[rv a0_, rv a1_, rv t0] [(.int (0 : Int32)), (.ref ar)])) _
    refine XS.aloadN X10.here hx rfl (hb hby d16_101) rfl rfl ?_
    show Steps p.tables e below (T10.setTop (mkF m 102 #[rv a0_, rv a1_, rv t0] [(.ref a1_), (.int (0 : Int32)), (.ref ar)])) _
    refine st21.trans ?_
    show Steps p.tables e below (T21.setTop (mkF m 105 #[rv a0_, rv a1_, rv t0] [(.int tm), (.int (0 : Int32)), (.ref ar)])) _
    refine st23 _ ?_
    show Steps p.tables e below (T23.setTop (mkF m 106 #[rv a0_, rv a1_, rv t0] [])) _
    exact X23.returnOut hx Bd.returns (hb hby d16_106) hr
  · show QAdd0 Z a0_ a1_ t0 t1 t2 t3 d0 d1 d2 d3 oa oc tm h0 n0 _ T23.heap _
    rw [e23]
    exact ⟨rfl, N23, ⟨_, _, _, K23, gar, ArA⟩, ⟨f25, f26, ar, _, _, gar, nea, f27, V23, by rw [List.length_set, hlen]; try rfl⟩⟩
def QAdd1 (Z : State) (a0_ : Addr) (a1_ : Addr) (t0 t1 t2 t3 d0 d1 d2 d3 oa : Addr) (oc : Cell) (tm : Int32) (h0 : Heap) (n0 : Nat) (v : Option Value) (h : Heap) (L : List Loc) : Prop := v = none ∧ Fr n0 L ∧ (∃ (ar : Addr) (cl : Cell) (ty : FieldType), Keep h0 h [a0_, ar] ∧ n0 ≤ ar ∧ Arr Z h0 ar cl ty) ∧ own_ED Z h n0 a0_ (2 : Int32) (4 : Int32)
theorem ef_rmAdd1 (m : MethodId) (a0_ : Addr) (a1_ : Addr) : entryFrame m #[(.ref a0_), (.ref a1_)] 3 = mkF m 0 #[rv a0_, rv a1_, .unset] [] := by first | (simp [entryFrame, mkF, argsToLocals, Value.category]; done) | rfl
set_option maxRecDepth 65536 in
set_option maxHeartbeats 40000000 in
theorem rmAdd1 (l : Launch) (Z : State) (a0 : Array Value) (hw : ∀ d ∈ tables_1, d.before a0 Z = true) (ws : List Jvm.Cond) (a0_ : Addr) (a1_ : Addr) (t0 t1 t2 t3 d0 d1 d2 d3 oa : Addr) (oc : Cell) (tm : Int32) (h0 : Heap) (n0 : Nat) (Z0 : n0 ≤ h0.size) (hO : Old Z n0 h0) (hst : own_St Z t0 t1 t2 t3 d0 d1 d2 d3 oa oc) (B0 : own_ED Z h0 n0 a0_ (1 : Int32) (4 : Int32)) (g0 : n0 ≤ a0_) (nev : a0_ ≠ a1_) (E1 : Exa Z h0 a1_ "com/example/reroutine/reroutine/scenario/Event") (Fm : Fld Z h0 a1_ "com/example/reroutine/reroutine/scenario/Event" "time" "I" (.int tm)) (Ft : Fld Z h0 a1_ "com/example/reroutine/reroutine/scenario/Event" "type" "Lcom/example/reroutine/reroutine/scenario/EventType;" (.ref t1)) :
    MetFree l (⟨"com/example/reroutine/reroutine/replanning/ExecutedDay", "add", "(Lcom/example/reroutine/reroutine/scenario/Event;)V"⟩ : MethodName) (head1 (Jvm.Cond.code (⟨"com/example/reroutine/reroutine/replanning/ExecutedDay", "add", "(Lcom/example/reroutine/reroutine/scenario/Event;)V"⟩ : MethodName) prog_12_method_2_code 3 none :: ws) ({ frames := 1, cells := 0, slots := 0, locals := 16 } : Room)) (fun a U => a = #[(.ref a0_), (.ref a1_)] ∧ Z.Warmed39 U.vm ∧ U.heap = h0) (fun _ _ _ _ _ => True) (fun _ U o U' => ∃ v L, o = .returned v ∧ QAdd1 Z a0_ a1_ t0 t1 t2 t3 d0 d1 d2 d3 oa oc tm h0 n0 v U'.heap L ∧ FrameEnd U o U' L ({ frames := 1, cells := 0, slots := 0, locals := 16 } : Room).cells ({ frames := 1, cells := 0, slots := 0, locals := 16 } : Room).slots) := by
  refine MetFree.of_bodySF (plainFor_of_name pn_6) hisR ?_
  intro p e s m args below meth c s₁ Bd hml0 hP hK
  obtain ⟨rfl, hZ, hh⟩ := hP
  have hx := Bd.exec
  have hby := Bd.bytes
  have hml : c.maxLocals = 3 := hml0
  have hown : s.vm.findClass "com/example/reroutine/reroutine/replanning/ExecutedDay" = some m.cls := findClass_of_methodNamed Bd.named
  have hnm := (name_of_methodNamed Bd.named Bd.method).1
  have X0 : Stand p l e ({ frames := 1, cells := 0, slots := 0, locals := 16 } : Room) s m #[(.ref a0_), (.ref a1_)] below meth c s₁ [] 0 0 := Stand.of_body Bd
  have e0 : s₁.heap = h0 := by rw [← hh, Bd.state]; rfl
  have N0 := Fr.nil n0
  have S0 : ∀ t, Steps p.tables e below (s₁.setTop (mkF m 0 #[rv a0_, rv a1_, .unset] [])) t → Steps p.tables e below (s₁.setTop (entryFrame m #[(.ref a0_), (.ref a1_)] 3)) t := fun t k => castTop (ef_rmAdd1 m a0_ a1_) k
  obtain ⟨⟨hs0, hx0, hd0⟩, ⟨hs1, hx1, hd1⟩, ⟨hs2, hx2, hd2⟩, ⟨hs3, hx3, hd3⟩, hso, hao, hsz, hq0, hq1, hq2, hq3⟩ := id hst
  obtain ⟨oE, oS, ar, kk, vs, gar, nea, oF, V0, hlen⟩ := id B0
  obtain ⟨clA, ArA, -⟩ := id V0
  have K0 : Keep h0 h0 [a0_, ar] := Keep.refl _ _
  obtain ⟨T1, X1, e1, st1⟩ := getS2 X0 hx hZ hown (host := "") (Or.inl (hw _ (List.mem_of_getElem? (i := 34) rfl))) Via.refl e0 (hso.ext hO.2) (g := (mkF m 0 #[rv a0_, rv a1_, .unset] [])) rfl (hb hby d16_0)
  obtain ⟨T2, X2, e2, st2⟩ := getF X1 hx hZ hown (host := "") (Or.inl (hw _ (List.mem_of_getElem? (i := 102) rfl))) Via.refl e1 oS (g := (mkF m 4 #[rv a0_, rv a1_, .unset] [(.ref a0_), (.ref oa)])) rfl rfl (hb hby d16_4)
  obtain ⟨T3, X3, e3, st3⟩ := getS2 X2 hx hZ hown (host := "") (Or.inl (hw _ (List.mem_of_getElem? (i := 34) rfl))) Via.refl e2 (hso.ext hO.2) (g := (mkF m 7 #[rv a0_, rv a1_, .unset] [(.int (1 : Int32)), (.ref oa)])) rfl (hb hby d16_7)
  obtain ⟨cq4, kq4, q4a, q4b, q4c⟩ := isOf hZ e3 E1
  obtain ⟨_, _, ⟨T4, L4, k4, n4⟩, -, X4, ⟨Lc4, hQ4, l4, y4, z4⟩, st4⟩ := X3.virtualBack hx (y := (⟨"com/example/reroutine/reroutine/scenario/Event", "type", "()Lcom/example/reroutine/reroutine/scenario/EventType;"⟩ : MethodName)) (z := (⟨"com/example/reroutine/reroutine/scenario/Event", "type", "()Lcom/example/reroutine/reroutine/scenario/EventType;"⟩ : MethodName)) hown (mvT hZ (hw _ (List.mem_of_getElem? (i := 109) rfl))) (mvT hZ (hw _ (List.mem_of_getElem? (i := 110) rfl))) (notFace_of_selects (args := #[]) (mvT hZ (hw _ (List.mem_of_getElem? (i := 112) rfl)))) (mvT hZ (hw _ (List.mem_of_getElem? (i := 112) rfl))) (mvT hZ (hw _ (List.mem_of_getElem? (i := 111) rfl))) (by decide) (backOf (W := 0) (rmGtype l Z a0 hw [] a1_ t1 h0 n0 Z0 Ft) hZ (hw _ (List.mem_of_getElem? (i := 113) rfl)) (hw _ (List.mem_of_getElem? (i := 48) rfl)) (by decide) (by decide)) q4a q4c (g := (mkF m 15 #[rv a0_, rv a1_, rv t1] [(.ref a1_)])) rfl (by rw [hml]; rfl) (Steps.refl _) (argsL := []) (rest := []) (lenOf pd_8 rfl) rfl (by show 2 * 0 + _ ≤ _; exact Nat.le_of_eq rfl) (hb hby d16_15) (fun _ _ => ⟨rfl, e3, (by decide : 0 + 0 ≤ _), (by decide : 0 + 0 ≤ _)⟩)
  dsimp only [Pt.U, Pt.locs, Pt.cells, Pt.slots] at X4 l4 y4 z4 st4 hQ4
  subst y4 z4
  obtain ⟨rfl, Nq4, eq4⟩ := hQ4
  have N4 : Fr n0 L4 := by rw [l4]; exact Fr.app N0 Nq4
  obtain ⟨T5, X5, e5, st5⟩ := getF X4 hx hZ hown (host := "") (Or.inl (hw _ (List.mem_of_getElem? (i := 102) rfl))) Via.refl eq4 oS (g := (mkF m 58 #[rv a0_, rv a1_, rv t1] [(.ref a0_)])) rfl rfl (hb hby d16_58)
  obtain ⟨T6, X6, e6, st6⟩ := getF X5 hx hZ hown (host := "") (Or.inl (hw _ (List.mem_of_getElem? (i := 37) rfl))) Via.refl e5 oF (g := (mkF m 62 #[rv a0_, rv a1_, rv t1] [(.ref a0_), (.int (1 : Int32))])) rfl rfl (hb hby d16_62)
  obtain ⟨cl7, Ar7, qa7, Sa7, Na7, Ha7, Ga7⟩ := id V0
  obtain ⟨T8, X8, e8, st8⟩ := getF X6 hx hZ hown (host := "") (Or.inl (hw _ (List.mem_of_getElem? (i := 37) rfl))) Via.refl e6 oF (g := (mkF m 87 #[rv a0_, rv a1_, rv t1] [(.ref a0_)])) rfl rfl (hb hby d16_87)
  obtain ⟨T9, X9, e9, st9⟩ := getF X8 hx hZ hown (host := "") (Or.inl (hw _ (List.mem_of_getElem? (i := 102) rfl))) Via.refl e8 oS (g := (mkF m 92 #[rv a0_, rv a1_, rv t1] [(.ref a0_), (.ref a0_), (.ref ar)])) rfl rfl (hb hby d16_92)
  obtain ⟨T10, h10, X10, e10, W10, st10⟩ := putF X9 hx hZ hown (host := "") (Or.inl (hw _ (List.mem_of_getElem? (i := 102) rfl))) Via.refl e9 oS oE (Or.inl (hw _ (List.mem_of_getElem? (i := 103) rfl))) (hw _ (List.mem_of_getElem? (i := 28) rfl)) (ty := .int) (by decide) rfl rfl (g := (mkF m 98 #[rv a0_, rv a1_, rv t1] [(.int (2 : Int32)), (.ref a0_), (.int (1 : Int32)), (.ref ar)])) rfl rfl (hb hby d16_98)
  have Fw10 := oS.same W10
  have f11 := oF.other W10 (Or.inr (slot_ne (Or.inl (hw _ (List.mem_of_getElem? (i := 38) rfl))) (Or.inl (hw _ (List.mem_of_getElem? (i := 103) rfl))) (by decide) (t := (.array .int)) (t' := .int) (by decide) (by decide)))
  have f12 := oE.wr W10
  have Od13 := hO.wr W10 g0
  have f17 := V0.other W10 (Ne.symm nea)
  have f18 := E1.wr W10
  have f19 := Fm.other W10 (Or.inl (Ne.symm nev))
  have f20 := Ft.other W10 (Or.inl (Ne.symm nev))
  have N10 := Fr.snoc X10 N4 g0
  have Z10 : n0 ≤ h10.size := Nat.le_trans Z0 (Keep.of_wr W10).1
  have K10 : Keep h0 h10 [a0_, ar] := K0.wr W10 (Or.inl (List.mem_of_getElem? (i := 0) rfl))
  obtain ⟨cq21, kq21, q21a, q21b, q21c⟩ := isOf hZ e10 f18
  obtain ⟨_, _, ⟨T21, L21, k21, n21⟩, -, X21, ⟨Lc21, hQ21, l21, y21, z21⟩, st21⟩ := X10.virtualBack hx (y := (⟨"com/example/reroutine/reroutine/scenario/Event", "time", "()I"⟩ : MethodName)) (z := (⟨"com/example/reroutine/reroutine/scenario/Event", "time", "()I"⟩ : MethodName)) hown (mvT hZ (hw _ (List.mem_of_getElem? (i := 114) rfl))) (mvT hZ (hw _ (List.mem_of_getElem? (i := 115) rfl))) (notFace_of_selects (args := #[]) (mvT hZ (hw _ (List.mem_of_getElem? (i := 117) rfl)))) (mvT hZ (hw _ (List.mem_of_getElem? (i := 117) rfl))) (mvT hZ (hw _ (List.mem_of_getElem? (i := 116) rfl))) (by decide) (backOf (W := 2) (rmGtime l Z a0 hw [] a1_ tm h10 n0 Z10 f19) hZ (hw _ (List.mem_of_getElem? (i := 118) rfl)) (hw _ (List.mem_of_getElem? (i := 48) rfl)) (by decide) (by decide)) q21a q21c (g := (mkF m 102 #[rv a0_, rv a1_, rv t1] [(.ref a1_), (.int (1 : Int32)), (.ref ar)])) rfl (by rw [hml]; rfl) (Steps.refl _) (argsL := []) (rest := [(.int (1 : Int32)), (.ref ar)]) (lenOf pd_9 rfl) rfl (by show 2 * 0 + _ ≤ _; exact Nat.le_of_eq rfl) (hb hby d16_102) (fun _ _ => ⟨rfl, e10, (by decide : 0 + 0 ≤ _), (by decide : 0 + 0 ≤ _)⟩)
  dsimp only [Pt.U, Pt.locs, Pt.cells, Pt.slots] at X21 l21 y21 z21 st21 hQ21
  subst y21 z21
  obtain ⟨rfl, Nq21, eq21⟩ := hQ21
  have N21 : Fr n0 L21 := by rw [l21]; exact Fr.app N10 Nq21
  obtain ⟨cl22, Ar22, qa22, Sa22, Na22, Ha22, Ga22⟩ := id f17
  have hin22 : ¬ ((1 : Int32) < 0 ∨ cl22.slots.size ≤ ((1 : Int32)).toNatClampNeg) := inb_of Sa22 ⟨by decide, by decide⟩
  obtain ⟨T23, h23, X23, e23, W23, st23⟩ := stI X21 hx hZ eq21 Ar22 (j := (1 : Int32)) hin22 (g := (mkF m 105 #[rv a0_, rv a1_, rv t1] [(.int tm), (.int (1 : Int32)), (.ref ar)])) rfl rfl (hb hby d16_105)
  have V23 := Arv.set Ar22 qa22 Sa22 Na22 Ha22 Ga22 rfl W23 1 rfl (by rw [hlen]; decide)
  have N23 := Fr.snoc X23 N21 gar
  have Z23 : n0 ≤ h23.size := Nat.le_trans Z10 (Keep.of_wr W23).1
  have Od24 := Od13.wr W23 gar
  have f25 := f12.wr W23
  have f26 := Fw10.other W23 (Or.inl nea)
  have f27 := f11.other W23 (Or.inl nea)
  have K23 : Keep h0 h23 [a0_, ar] := K10.wr W23 (Or.inl (List.mem_of_getElem? (i := 1) rfl))
  obtain ⟨fs, hr, hrun, hended, hW, hsame⟩ := X23.leave (v := none) (fun _ => rfl)
  refine ⟨_, _, S0 _ ?_, hrun, hended, _, _, rfl, ?_, ⟨_, rfl⟩, hW, hsame.mono (by decide) (by decide)⟩
  · skip
    show Steps p.tables e below (s₁.setTop (mkF m 0 #[rv a0_, rv a1_, .unset] [])) _
    refine st1 _ ?_
    show Steps p.tables e below (T1.setTop (mkF m 3 #[rv a0_, rv a1_, .unset] [(.ref oa)])) _
    refine XS.aloadN X1.here hx rfl (hb hby d16_3) rfl rfl ?_
    show Steps p.tables e below (T1.setTop (mkF m 4 #[rv a0_, rv a1_, .unset] [(.ref a0_), (.ref oa)])) _
    refine st2 _ ?_
    show Steps p.tables e below (T2.setTop (mkF m 7 #[rv a0_, rv a1_, .unset] [(.int (1 : Int32)), (.ref oa)])) _
    refine st3 _ ?_
    show Steps p.tables e below (T3.setTop (mkF m 10 #[rv a0_, rv a1_, .unset] [(.ref oa), (.int (1 : Int32)), (.ref oa)])) _
    refine X3.arraylength hx (by rw [e3]; exact (hao.ext hO.2).1) (State.isArrayOf_alike hZ.alike hao.2.1) (g := (mkF m 10 #[rv a0_, rv a1_, .unset] [(.ref oa), (.int (1 : Int32)), (.ref oa)])) rfl rfl (hb hby d16_10) _ ?_
    rw [len_of hsz (by decide)]
    show Steps p.tables e below (T3.setTop (mkF m 11 #[rv a0_, rv a1_, .unset] [(.int (4 : Int32)), (.int (1 : Int32)), (.ref oa)])) _
    refine iremM X3 hx rfl (hb hby d16_11) rfl (by decide) ?_
    show Steps p.tables e below (T3.setTop (mkF m 12 #[rv a0_, rv a1_, .unset] [(.int (1 : Int32)), (.ref oa)])) _
    refine X3.aaload hx (j := (1 : Int32)) (v := (.ref t1)) (by rw [e3]; exact (hao.ext hO.2).1) (State.isArrayOf_alike hZ.alike hao.2.1) rfl hao.2.2 (inb_of hsz ⟨by decide, by decide⟩) hq1 (g := (mkF m 12 #[rv a0_, rv a1_, .unset] [(.int (1 : Int32)), (.ref oa)])) rfl rfl (hb hby d16_12) _ ?_
    show Steps p.tables e below (T3.setTop (mkF m 13 #[rv a0_, rv a1_, .unset] [(.ref t1)])) _
    refine XS.astoreN X3.here hx rfl (hb hby d16_13) rfl rfl (l' := #[rv a0_, rv a1_, rv t1]) rfl ?_
    show Steps p.tables e below (T3.setTop (mkF m 14 #[rv a0_, rv a1_, rv t1] [])) _
    refine XS.aloadN X3.here hx rfl (hb hby d16_14) rfl rfl ?_
    show Steps p.tables e below (T3.setTop (mkF m 15 #[rv a0_, rv a1_, rv t1] [(.ref a1_)])) _
    refine st4.trans ?_
    show Steps p.tables e below (T4.setTop (mkF m 18 #[rv a0_, rv a1_, rv t1] [(.ref t1)])) _
    refine XS.aloadN X4.here hx rfl (hb hby d16_18) rfl rfl ?_
    show Steps p.tables e below (T4.setTop (mkF m 19 #[rv a0_, rv a1_, rv t1] [(.ref t1), (.ref t1)])) _
    refine Jvm.RoadKit.acmp (g := (mkF m 19 #[rv a0_, rv a1_, rv t1] [(.ref t1), (.ref t1)])) X4 hx rfl rfl rfl (pc0 := 19) (pc' := 57) (same := true) rfl (hb hby d16_19) rfl (decide_eq_true rfl) (by decide) (by decide) ?_
    show Steps p.tables e below (T4.setTop (mkF m 57 #[rv a0_, rv a1_, rv t1] [])) _
    refine XS.aloadN X4.here hx rfl (hb hby d16_57) rfl rfl ?_
    show Steps p.tables e below (T4.setTop (mkF m 58 #[rv a0_, rv a1_, rv t1] [(.ref a0_)])) _
    refine st5 _ ?_
    show Steps p.tables e below (T5.setTop (mkF m 61 #[rv a0_, rv a1_, rv t1] [(.int (1 : Int32))])) _
    refine XS.aloadN X5.here hx rfl (hb hby d16_61) rfl rfl ?_
    show Steps p.tables e below (T5.setTop (mkF m 62 #[rv a0_, rv a1_, rv t1] [(.ref a0_), (.int (1 : Int32))])) _
    refine st6 _ ?_
    show Steps p.tables e below (T6.setTop (mkF m 65 #[rv a0_, rv a1_, rv t1] [(.ref ar), (.int (1 : Int32))])) _
    refine X6.arraylength hx (by rw [e6]; exact Ar7.1) (State.isArrayOf_alike hZ.alike Ar7.2.1) (g := (mkF m 65 #[rv a0_, rv a1_, rv t1] [(.ref ar), (.int (1 : Int32))])) rfl rfl (hb hby d16_65) _ ?_
    rw [len_of Sa7 Na7]
    show Steps p.tables e below (T6.setTop (mkF m 66 #[rv a0_, rv a1_, rv t1] [(.int (4 : Int32)), (.int (1 : Int32))])) _
    refine XS.icmpYes X6.here hx rfl (pc0 := 66) (pc' := 86) rfl (hb hby d16_66) rfl (feq (by decide : ¬ ((1 : Int32) = (4 : Int32)))).2 (by decide) (by decide) ?_
    show Steps p.tables e below (T6.setTop (mkF m 86 #[rv a0_, rv a1_, rv t1] [])) _
    refine XS.aloadN X6.here hx rfl (hb hby d16_86) rfl rfl ?_
    show Steps p.tables e below (T6.setTop (mkF m 87 #[rv a0_, rv a1_, rv t1] [(.ref a0_)])) _
    refine st8 _ ?_
    show Steps p.tables e below (T8.setTop (mkF m 90 #[rv a0_, rv a1_, rv t1] [(.ref ar)])) _
    refine XS.aloadN X8.here hx rfl (hb hby d16_90) rfl rfl ?_
    show Steps p.tables e below (T8.setTop (mkF m 91 #[rv a0_, rv a1_, rv t1] [(.ref a0_), (.ref ar)])) _
    refine XS.dup X8.here hx rfl (hb hby d16_91) rfl rfl ?_
    show Steps p.tables e below (T8.setTop (mkF m 92 #[rv a0_, rv a1_, rv t1] [(.ref a0_), (.ref a0_), (.ref ar)])) _
    refine st9 _ ?_
    show Steps p.tables e below (T9.setTop (mkF m 95 #[rv a0_, rv a1_, rv t1] [(.int (1 : Int32)), (.ref a0_), (.ref ar)])) _
    refine XS.dupX1 X9.here hx rfl (hb hby d16_95) rfl rfl rfl ?_
    show Steps p.tables e below (T9.setTop (mkF m 96 #[rv a0_, rv a1_, rv t1] [(.int (1 : Int32)), (.ref a0_), (.int (1 : Int32)), (.ref ar)])) _
    refine XS.iconst X9.here hx rfl (hb hby d16_96) ?_
    show Steps p.tables e below (T9.setTop (mkF m 97 #[rv a0_, rv a1_, rv t1] [(.int (1 : Int32)), (.int (1 : Int32)), (.ref a0_), (.int (1 : Int32)), (.ref ar)])) _
    refine XS.iadd X9.here hx rfl (hb hby d16_97) rfl ?_
    show Steps p.tables e below (T9.setTop (mkF m 98 #[rv a0_, rv a1_, rv t1] [(.int (2 : Int32)), (.ref a0_), (.int (1 : Int32)), (.ref ar)])) _
    refine st10 _ ?_
    show Steps p.tables e below (T10.setTop (mkF m 101 #[rv a0_, rv a1_, rv t1] [(.int (1 : Int32)), (.ref ar)])) _
    refine XS.aloadN X10.here hx rfl (hb hby d16_101) rfl rfl ?_
    show Steps p.tables e below (T10.setTop (mkF m 102 #[rv a0_, rv a1_, rv t1] [(.ref a1_), (.int (1 : Int32)), (.ref ar)])) _
    refine st21.trans ?_
    show Steps p.tables e below (T21.setTop (mkF m 105 #[rv a0_, rv a1_, rv t1] [(.int tm), (.int (1 : Int32)), (.ref ar)])) _
    refine st23 _ ?_
    show Steps p.tables e below (T23.setTop (mkF m 106 #[rv a0_, rv a1_, rv t1] [])) _
    exact X23.returnOut hx Bd.returns (hb hby d16_106) hr
  · show QAdd1 Z a0_ a1_ t0 t1 t2 t3 d0 d1 d2 d3 oa oc tm h0 n0 _ T23.heap _
    rw [e23]
    exact ⟨rfl, N23, ⟨_, _, _, K23, gar, ArA⟩, ⟨f25, f26, ar, _, _, gar, nea, f27, V23, by rw [List.length_set, hlen]; try rfl⟩⟩
def QAdd2 (Z : State) (a0_ : Addr) (a1_ : Addr) (t0 t1 t2 t3 d0 d1 d2 d3 oa : Addr) (oc : Cell) (tm : Int32) (h0 : Heap) (n0 : Nat) (v : Option Value) (h : Heap) (L : List Loc) : Prop := v = none ∧ Fr n0 L ∧ (∃ (ar : Addr) (cl : Cell) (ty : FieldType), Keep h0 h [a0_, ar] ∧ n0 ≤ ar ∧ Arr Z h0 ar cl ty) ∧ own_ED Z h n0 a0_ (3 : Int32) (4 : Int32)
theorem ef_rmAdd2 (m : MethodId) (a0_ : Addr) (a1_ : Addr) : entryFrame m #[(.ref a0_), (.ref a1_)] 3 = mkF m 0 #[rv a0_, rv a1_, .unset] [] := by first | (simp [entryFrame, mkF, argsToLocals, Value.category]; done) | rfl
set_option maxRecDepth 65536 in
set_option maxHeartbeats 40000000 in
theorem rmAdd2 (l : Launch) (Z : State) (a0 : Array Value) (hw : ∀ d ∈ tables_1, d.before a0 Z = true) (ws : List Jvm.Cond) (a0_ : Addr) (a1_ : Addr) (t0 t1 t2 t3 d0 d1 d2 d3 oa : Addr) (oc : Cell) (tm : Int32) (h0 : Heap) (n0 : Nat) (Z0 : n0 ≤ h0.size) (hO : Old Z n0 h0) (hst : own_St Z t0 t1 t2 t3 d0 d1 d2 d3 oa oc) (B0 : own_ED Z h0 n0 a0_ (2 : Int32) (4 : Int32)) (g0 : n0 ≤ a0_) (nev : a0_ ≠ a1_) (E1 : Exa Z h0 a1_ "com/example/reroutine/reroutine/scenario/Event") (Fm : Fld Z h0 a1_ "com/example/reroutine/reroutine/scenario/Event" "time" "I" (.int tm)) (Ft : Fld Z h0 a1_ "com/example/reroutine/reroutine/scenario/Event" "type" "Lcom/example/reroutine/reroutine/scenario/EventType;" (.ref t2)) :
    MetFree l (⟨"com/example/reroutine/reroutine/replanning/ExecutedDay", "add", "(Lcom/example/reroutine/reroutine/scenario/Event;)V"⟩ : MethodName) (head1 (Jvm.Cond.code (⟨"com/example/reroutine/reroutine/replanning/ExecutedDay", "add", "(Lcom/example/reroutine/reroutine/scenario/Event;)V"⟩ : MethodName) prog_12_method_2_code 3 none :: ws) ({ frames := 1, cells := 0, slots := 0, locals := 16 } : Room)) (fun a U => a = #[(.ref a0_), (.ref a1_)] ∧ Z.Warmed39 U.vm ∧ U.heap = h0) (fun _ _ _ _ _ => True) (fun _ U o U' => ∃ v L, o = .returned v ∧ QAdd2 Z a0_ a1_ t0 t1 t2 t3 d0 d1 d2 d3 oa oc tm h0 n0 v U'.heap L ∧ FrameEnd U o U' L ({ frames := 1, cells := 0, slots := 0, locals := 16 } : Room).cells ({ frames := 1, cells := 0, slots := 0, locals := 16 } : Room).slots) := by
  refine MetFree.of_bodySF (plainFor_of_name pn_6) hisR ?_
  intro p e s m args below meth c s₁ Bd hml0 hP hK
  obtain ⟨rfl, hZ, hh⟩ := hP
  have hx := Bd.exec
  have hby := Bd.bytes
  have hml : c.maxLocals = 3 := hml0
  have hown : s.vm.findClass "com/example/reroutine/reroutine/replanning/ExecutedDay" = some m.cls := findClass_of_methodNamed Bd.named
  have hnm := (name_of_methodNamed Bd.named Bd.method).1
  have X0 : Stand p l e ({ frames := 1, cells := 0, slots := 0, locals := 16 } : Room) s m #[(.ref a0_), (.ref a1_)] below meth c s₁ [] 0 0 := Stand.of_body Bd
  have e0 : s₁.heap = h0 := by rw [← hh, Bd.state]; rfl
  have N0 := Fr.nil n0
  have S0 : ∀ t, Steps p.tables e below (s₁.setTop (mkF m 0 #[rv a0_, rv a1_, .unset] [])) t → Steps p.tables e below (s₁.setTop (entryFrame m #[(.ref a0_), (.ref a1_)] 3)) t := fun t k => castTop (ef_rmAdd2 m a0_ a1_) k
  obtain ⟨⟨hs0, hx0, hd0⟩, ⟨hs1, hx1, hd1⟩, ⟨hs2, hx2, hd2⟩, ⟨hs3, hx3, hd3⟩, hso, hao, hsz, hq0, hq1, hq2, hq3⟩ := id hst
  obtain ⟨oE, oS, ar, kk, vs, gar, nea, oF, V0, hlen⟩ := id B0
  obtain ⟨clA, ArA, -⟩ := id V0
  have K0 : Keep h0 h0 [a0_, ar] := Keep.refl _ _
  obtain ⟨T1, X1, e1, st1⟩ := getS2 X0 hx hZ hown (host := "") (Or.inl (hw _ (List.mem_of_getElem? (i := 34) rfl))) Via.refl e0 (hso.ext hO.2) (g := (mkF m 0 #[rv a0_, rv a1_, .unset] [])) rfl (hb hby d16_0)
  obtain ⟨T2, X2, e2, st2⟩ := getF X1 hx hZ hown (host := "") (Or.inl (hw _ (List.mem_of_getElem? (i := 102) rfl))) Via.refl e1 oS (g := (mkF m 4 #[rv a0_, rv a1_, .unset] [(.ref a0_), (.ref oa)])) rfl rfl (hb hby d16_4)
  obtain ⟨T3, X3, e3, st3⟩ := getS2 X2 hx hZ hown (host := "") (Or.inl (hw _ (List.mem_of_getElem? (i := 34) rfl))) Via.refl e2 (hso.ext hO.2) (g := (mkF m 7 #[rv a0_, rv a1_, .unset] [(.int (2 : Int32)), (.ref oa)])) rfl (hb hby d16_7)
  obtain ⟨cq4, kq4, q4a, q4b, q4c⟩ := isOf hZ e3 E1
  obtain ⟨_, _, ⟨T4, L4, k4, n4⟩, -, X4, ⟨Lc4, hQ4, l4, y4, z4⟩, st4⟩ := X3.virtualBack hx (y := (⟨"com/example/reroutine/reroutine/scenario/Event", "type", "()Lcom/example/reroutine/reroutine/scenario/EventType;"⟩ : MethodName)) (z := (⟨"com/example/reroutine/reroutine/scenario/Event", "type", "()Lcom/example/reroutine/reroutine/scenario/EventType;"⟩ : MethodName)) hown (mvT hZ (hw _ (List.mem_of_getElem? (i := 109) rfl))) (mvT hZ (hw _ (List.mem_of_getElem? (i := 110) rfl))) (notFace_of_selects (args := #[]) (mvT hZ (hw _ (List.mem_of_getElem? (i := 112) rfl)))) (mvT hZ (hw _ (List.mem_of_getElem? (i := 112) rfl))) (mvT hZ (hw _ (List.mem_of_getElem? (i := 111) rfl))) (by decide) (backOf (W := 0) (rmGtype l Z a0 hw [] a1_ t2 h0 n0 Z0 Ft) hZ (hw _ (List.mem_of_getElem? (i := 113) rfl)) (hw _ (List.mem_of_getElem? (i := 48) rfl)) (by decide) (by decide)) q4a q4c (g := (mkF m 15 #[rv a0_, rv a1_, rv t2] [(.ref a1_)])) rfl (by rw [hml]; rfl) (Steps.refl _) (argsL := []) (rest := []) (lenOf pd_8 rfl) rfl (by show 2 * 0 + _ ≤ _; exact Nat.le_of_eq rfl) (hb hby d16_15) (fun _ _ => ⟨rfl, e3, (by decide : 0 + 0 ≤ _), (by decide : 0 + 0 ≤ _)⟩)
  dsimp only [Pt.U, Pt.locs, Pt.cells, Pt.slots] at X4 l4 y4 z4 st4 hQ4
  subst y4 z4
  obtain ⟨rfl, Nq4, eq4⟩ := hQ4
  have N4 : Fr n0 L4 := by rw [l4]; exact Fr.app N0 Nq4
  obtain ⟨T5, X5, e5, st5⟩ := getF X4 hx hZ hown (host := "") (Or.inl (hw _ (List.mem_of_getElem? (i := 102) rfl))) Via.refl eq4 oS (g := (mkF m 58 #[rv a0_, rv a1_, rv t2] [(.ref a0_)])) rfl rfl (hb hby d16_58)
  obtain ⟨T6, X6, e6, st6⟩ := getF X5 hx hZ hown (host := "") (Or.inl (hw _ (List.mem_of_getElem? (i := 37) rfl))) Via.refl e5 oF (g := (mkF m 62 #[rv a0_, rv a1_, rv t2] [(.ref a0_), (.int (2 : Int32))])) rfl rfl (hb hby d16_62)
  obtain ⟨cl7, Ar7, qa7, Sa7, Na7, Ha7, Ga7⟩ := id V0
  obtain ⟨T8, X8, e8, st8⟩ := getF X6 hx hZ hown (host := "") (Or.inl (hw _ (List.mem_of_getElem? (i := 37) rfl))) Via.refl e6 oF (g := (mkF m 87 #[rv a0_, rv a1_, rv t2] [(.ref a0_)])) rfl rfl (hb hby d16_87)
  obtain ⟨T9, X9, e9, st9⟩ := getF X8 hx hZ hown (host := "") (Or.inl (hw _ (List.mem_of_getElem? (i := 102) rfl))) Via.refl e8 oS (g := (mkF m 92 #[rv a0_, rv a1_, rv t2] [(.ref a0_), (.ref a0_), (.ref ar)])) rfl rfl (hb hby d16_92)
  obtain ⟨T10, h10, X10, e10, W10, st10⟩ := putF X9 hx hZ hown (host := "") (Or.inl (hw _ (List.mem_of_getElem? (i := 102) rfl))) Via.refl e9 oS oE (Or.inl (hw _ (List.mem_of_getElem? (i := 103) rfl))) (hw _ (List.mem_of_getElem? (i := 28) rfl)) (ty := .int) (by decide) rfl rfl (g := (mkF m 98 #[rv a0_, rv a1_, rv t2] [(.int (3 : Int32)), (.ref a0_), (.int (2 : Int32)), (.ref ar)])) rfl rfl (hb hby d16_98)
  have Fw10 := oS.same W10
  have f11 := oF.other W10 (Or.inr (slot_ne (Or.inl (hw _ (List.mem_of_getElem? (i := 38) rfl))) (Or.inl (hw _ (List.mem_of_getElem? (i := 103) rfl))) (by decide) (t := (.array .int)) (t' := .int) (by decide) (by decide)))
  have f12 := oE.wr W10
  have Od13 := hO.wr W10 g0
  have f17 := V0.other W10 (Ne.symm nea)
  have f18 := E1.wr W10
  have f19 := Fm.other W10 (Or.inl (Ne.symm nev))
  have f20 := Ft.other W10 (Or.inl (Ne.symm nev))
  have N10 := Fr.snoc X10 N4 g0
  have Z10 : n0 ≤ h10.size := Nat.le_trans Z0 (Keep.of_wr W10).1
  have K10 : Keep h0 h10 [a0_, ar] := K0.wr W10 (Or.inl (List.mem_of_getElem? (i := 0) rfl))
  obtain ⟨cq21, kq21, q21a, q21b, q21c⟩ := isOf hZ e10 f18
  obtain ⟨_, _, ⟨T21, L21, k21, n21⟩, -, X21, ⟨Lc21, hQ21, l21, y21, z21⟩, st21⟩ := X10.virtualBack hx (y := (⟨"com/example/reroutine/reroutine/scenario/Event", "time", "()I"⟩ : MethodName)) (z := (⟨"com/example/reroutine/reroutine/scenario/Event", "time", "()I"⟩ : MethodName)) hown (mvT hZ (hw _ (List.mem_of_getElem? (i := 114) rfl))) (mvT hZ (hw _ (List.mem_of_getElem? (i := 115) rfl))) (notFace_of_selects (args := #[]) (mvT hZ (hw _ (List.mem_of_getElem? (i := 117) rfl)))) (mvT hZ (hw _ (List.mem_of_getElem? (i := 117) rfl))) (mvT hZ (hw _ (List.mem_of_getElem? (i := 116) rfl))) (by decide) (backOf (W := 2) (rmGtime l Z a0 hw [] a1_ tm h10 n0 Z10 f19) hZ (hw _ (List.mem_of_getElem? (i := 118) rfl)) (hw _ (List.mem_of_getElem? (i := 48) rfl)) (by decide) (by decide)) q21a q21c (g := (mkF m 102 #[rv a0_, rv a1_, rv t2] [(.ref a1_), (.int (2 : Int32)), (.ref ar)])) rfl (by rw [hml]; rfl) (Steps.refl _) (argsL := []) (rest := [(.int (2 : Int32)), (.ref ar)]) (lenOf pd_9 rfl) rfl (by show 2 * 0 + _ ≤ _; exact Nat.le_of_eq rfl) (hb hby d16_102) (fun _ _ => ⟨rfl, e10, (by decide : 0 + 0 ≤ _), (by decide : 0 + 0 ≤ _)⟩)
  dsimp only [Pt.U, Pt.locs, Pt.cells, Pt.slots] at X21 l21 y21 z21 st21 hQ21
  subst y21 z21
  obtain ⟨rfl, Nq21, eq21⟩ := hQ21
  have N21 : Fr n0 L21 := by rw [l21]; exact Fr.app N10 Nq21
  obtain ⟨cl22, Ar22, qa22, Sa22, Na22, Ha22, Ga22⟩ := id f17
  have hin22 : ¬ ((2 : Int32) < 0 ∨ cl22.slots.size ≤ ((2 : Int32)).toNatClampNeg) := inb_of Sa22 ⟨by decide, by decide⟩
  obtain ⟨T23, h23, X23, e23, W23, st23⟩ := stI X21 hx hZ eq21 Ar22 (j := (2 : Int32)) hin22 (g := (mkF m 105 #[rv a0_, rv a1_, rv t2] [(.int tm), (.int (2 : Int32)), (.ref ar)])) rfl rfl (hb hby d16_105)
  have V23 := Arv.set Ar22 qa22 Sa22 Na22 Ha22 Ga22 rfl W23 2 rfl (by rw [hlen]; decide)
  have N23 := Fr.snoc X23 N21 gar
  have Z23 : n0 ≤ h23.size := Nat.le_trans Z10 (Keep.of_wr W23).1
  have Od24 := Od13.wr W23 gar
  have f25 := f12.wr W23
  have f26 := Fw10.other W23 (Or.inl nea)
  have f27 := f11.other W23 (Or.inl nea)
  have K23 : Keep h0 h23 [a0_, ar] := K10.wr W23 (Or.inl (List.mem_of_getElem? (i := 1) rfl))
  obtain ⟨fs, hr, hrun, hended, hW, hsame⟩ := X23.leave (v := none) (fun _ => rfl)
  refine ⟨_, _, S0 _ ?_, hrun, hended, _, _, rfl, ?_, ⟨_, rfl⟩, hW, hsame.mono (by decide) (by decide)⟩
  · skip
    show Steps p.tables e below (s₁.setTop (mkF m 0 #[rv a0_, rv a1_, .unset] [])) _
    refine st1 _ ?_
    show Steps p.tables e below (T1.setTop (mkF m 3 #[rv a0_, rv a1_, .unset] [(.ref oa)])) _
    refine XS.aloadN X1.here hx rfl (hb hby d16_3) rfl rfl ?_
    show Steps p.tables e below (T1.setTop (mkF m 4 #[rv a0_, rv a1_, .unset] [(.ref a0_), (.ref oa)])) _
    refine st2 _ ?_
    show Steps p.tables e below (T2.setTop (mkF m 7 #[rv a0_, rv a1_, .unset] [(.int (2 : Int32)), (.ref oa)])) _
    refine st3 _ ?_
    show Steps p.tables e below (T3.setTop (mkF m 10 #[rv a0_, rv a1_, .unset] [(.ref oa), (.int (2 : Int32)), (.ref oa)])) _
    refine X3.arraylength hx (by rw [e3]; exact (hao.ext hO.2).1) (State.isArrayOf_alike hZ.alike hao.2.1) (g := (mkF m 10 #[rv a0_, rv a1_, .unset] [(.ref oa), (.int (2 : Int32)), (.ref oa)])) rfl rfl (hb hby d16_10) _ ?_
    rw [len_of hsz (by decide)]
    show Steps p.tables e below (T3.setTop (mkF m 11 #[rv a0_, rv a1_, .unset] [(.int (4 : Int32)), (.int (2 : Int32)), (.ref oa)])) _
    refine iremM X3 hx rfl (hb hby d16_11) rfl (by decide) ?_
    show Steps p.tables e below (T3.setTop (mkF m 12 #[rv a0_, rv a1_, .unset] [(.int (2 : Int32)), (.ref oa)])) _
    refine X3.aaload hx (j := (2 : Int32)) (v := (.ref t2)) (by rw [e3]; exact (hao.ext hO.2).1) (State.isArrayOf_alike hZ.alike hao.2.1) rfl hao.2.2 (inb_of hsz ⟨by decide, by decide⟩) hq2 (g := (mkF m 12 #[rv a0_, rv a1_, .unset] [(.int (2 : Int32)), (.ref oa)])) rfl rfl (hb hby d16_12) _ ?_
    show Steps p.tables e below (T3.setTop (mkF m 13 #[rv a0_, rv a1_, .unset] [(.ref t2)])) _
    refine XS.astoreN X3.here hx rfl (hb hby d16_13) rfl rfl (l' := #[rv a0_, rv a1_, rv t2]) rfl ?_
    show Steps p.tables e below (T3.setTop (mkF m 14 #[rv a0_, rv a1_, rv t2] [])) _
    refine XS.aloadN X3.here hx rfl (hb hby d16_14) rfl rfl ?_
    show Steps p.tables e below (T3.setTop (mkF m 15 #[rv a0_, rv a1_, rv t2] [(.ref a1_)])) _
    refine st4.trans ?_
    show Steps p.tables e below (T4.setTop (mkF m 18 #[rv a0_, rv a1_, rv t2] [(.ref t2)])) _
    refine XS.aloadN X4.here hx rfl (hb hby d16_18) rfl rfl ?_
    show Steps p.tables e below (T4.setTop (mkF m 19 #[rv a0_, rv a1_, rv t2] [(.ref t2), (.ref t2)])) _
    refine Jvm.RoadKit.acmp (g := (mkF m 19 #[rv a0_, rv a1_, rv t2] [(.ref t2), (.ref t2)])) X4 hx rfl rfl rfl (pc0 := 19) (pc' := 57) (same := true) rfl (hb hby d16_19) rfl (decide_eq_true rfl) (by decide) (by decide) ?_
    show Steps p.tables e below (T4.setTop (mkF m 57 #[rv a0_, rv a1_, rv t2] [])) _
    refine XS.aloadN X4.here hx rfl (hb hby d16_57) rfl rfl ?_
    show Steps p.tables e below (T4.setTop (mkF m 58 #[rv a0_, rv a1_, rv t2] [(.ref a0_)])) _
    refine st5 _ ?_
    show Steps p.tables e below (T5.setTop (mkF m 61 #[rv a0_, rv a1_, rv t2] [(.int (2 : Int32))])) _
    refine XS.aloadN X5.here hx rfl (hb hby d16_61) rfl rfl ?_
    show Steps p.tables e below (T5.setTop (mkF m 62 #[rv a0_, rv a1_, rv t2] [(.ref a0_), (.int (2 : Int32))])) _
    refine st6 _ ?_
    show Steps p.tables e below (T6.setTop (mkF m 65 #[rv a0_, rv a1_, rv t2] [(.ref ar), (.int (2 : Int32))])) _
    refine X6.arraylength hx (by rw [e6]; exact Ar7.1) (State.isArrayOf_alike hZ.alike Ar7.2.1) (g := (mkF m 65 #[rv a0_, rv a1_, rv t2] [(.ref ar), (.int (2 : Int32))])) rfl rfl (hb hby d16_65) _ ?_
    rw [len_of Sa7 Na7]
    show Steps p.tables e below (T6.setTop (mkF m 66 #[rv a0_, rv a1_, rv t2] [(.int (4 : Int32)), (.int (2 : Int32))])) _
    refine XS.icmpYes X6.here hx rfl (pc0 := 66) (pc' := 86) rfl (hb hby d16_66) rfl (feq (by decide : ¬ ((2 : Int32) = (4 : Int32)))).2 (by decide) (by decide) ?_
    show Steps p.tables e below (T6.setTop (mkF m 86 #[rv a0_, rv a1_, rv t2] [])) _
    refine XS.aloadN X6.here hx rfl (hb hby d16_86) rfl rfl ?_
    show Steps p.tables e below (T6.setTop (mkF m 87 #[rv a0_, rv a1_, rv t2] [(.ref a0_)])) _
    refine st8 _ ?_
    show Steps p.tables e below (T8.setTop (mkF m 90 #[rv a0_, rv a1_, rv t2] [(.ref ar)])) _
    refine XS.aloadN X8.here hx rfl (hb hby d16_90) rfl rfl ?_
    show Steps p.tables e below (T8.setTop (mkF m 91 #[rv a0_, rv a1_, rv t2] [(.ref a0_), (.ref ar)])) _
    refine XS.dup X8.here hx rfl (hb hby d16_91) rfl rfl ?_
    show Steps p.tables e below (T8.setTop (mkF m 92 #[rv a0_, rv a1_, rv t2] [(.ref a0_), (.ref a0_), (.ref ar)])) _
    refine st9 _ ?_
    show Steps p.tables e below (T9.setTop (mkF m 95 #[rv a0_, rv a1_, rv t2] [(.int (2 : Int32)), (.ref a0_), (.ref ar)])) _
    refine XS.dupX1 X9.here hx rfl (hb hby d16_95) rfl rfl rfl ?_
    show Steps p.tables e below (T9.setTop (mkF m 96 #[rv a0_, rv a1_, rv t2] [(.int (2 : Int32)), (.ref a0_), (.int (2 : Int32)), (.ref ar)])) _
    refine XS.iconst X9.here hx rfl (hb hby d16_96) ?_
    show Steps p.tables e below (T9.setTop (mkF m 97 #[rv a0_, rv a1_, rv t2] [(.int (1 : Int32)), (.int (2 : Int32)), (.ref a0_), (.int (2 : Int32)), (.ref ar)])) _
    refine XS.iadd X9.here hx rfl (hb hby d16_97) rfl ?_
    show Steps p.tables e below (T9.setTop (mkF m 98 #[rv a0_, rv a1_, rv t2] [(.int (3 : Int32)), (.ref a0_), (.int (2 : Int32)), (.ref ar)])) _
    refine st10 _ ?_
    show Steps p.tables e below (T10.setTop (mkF m 101 #[rv a0_, rv a1_, rv t2] [(.int (2 : Int32)), (.ref ar)])) _
    refine XS.aloadN X10.here hx rfl (hb hby d16_101) rfl rfl ?_
    show Steps p.tables e below (T10.setTop (mkF m 102 #[rv a0_, rv a1_, rv t2] [(.ref a1_), (.int (2 : Int32)), (.ref ar)])) _
    refine st21.trans ?_
    show Steps p.tables e below (T21.setTop (mkF m 105 #[rv a0_, rv a1_, rv t2] [(.int tm), (.int (2 : Int32)), (.ref ar)])) _
    refine st23 _ ?_
    show Steps p.tables e below (T23.setTop (mkF m 106 #[rv a0_, rv a1_, rv t2] [])) _
    exact X23.returnOut hx Bd.returns (hb hby d16_106) hr
  · show QAdd2 Z a0_ a1_ t0 t1 t2 t3 d0 d1 d2 d3 oa oc tm h0 n0 _ T23.heap _
    rw [e23]
    exact ⟨rfl, N23, ⟨_, _, _, K23, gar, ArA⟩, ⟨f25, f26, ar, _, _, gar, nea, f27, V23, by rw [List.length_set, hlen]; try rfl⟩⟩
def QAdd3 (Z : State) (a0_ : Addr) (a1_ : Addr) (t0 t1 t2 t3 d0 d1 d2 d3 oa : Addr) (oc : Cell) (tm : Int32) (h0 : Heap) (n0 : Nat) (v : Option Value) (h : Heap) (L : List Loc) : Prop := v = none ∧ Fr n0 L ∧ (∃ (ar : Addr) (cl : Cell) (ty : FieldType), Keep h0 h [a0_, ar] ∧ n0 ≤ ar ∧ Arr Z h0 ar cl ty) ∧ own_ED Z h n0 a0_ (4 : Int32) (4 : Int32)
theorem ef_rmAdd3 (m : MethodId) (a0_ : Addr) (a1_ : Addr) : entryFrame m #[(.ref a0_), (.ref a1_)] 3 = mkF m 0 #[rv a0_, rv a1_, .unset] [] := by first | (simp [entryFrame, mkF, argsToLocals, Value.category]; done) | rfl
set_option maxRecDepth 65536 in
set_option maxHeartbeats 40000000 in
theorem rmAdd3 (l : Launch) (Z : State) (a0 : Array Value) (hw : ∀ d ∈ tables_1, d.before a0 Z = true) (ws : List Jvm.Cond) (a0_ : Addr) (a1_ : Addr) (t0 t1 t2 t3 d0 d1 d2 d3 oa : Addr) (oc : Cell) (tm : Int32) (h0 : Heap) (n0 : Nat) (Z0 : n0 ≤ h0.size) (hO : Old Z n0 h0) (hst : own_St Z t0 t1 t2 t3 d0 d1 d2 d3 oa oc) (B0 : own_ED Z h0 n0 a0_ (3 : Int32) (4 : Int32)) (g0 : n0 ≤ a0_) (nev : a0_ ≠ a1_) (E1 : Exa Z h0 a1_ "com/example/reroutine/reroutine/scenario/Event") (Fm : Fld Z h0 a1_ "com/example/reroutine/reroutine/scenario/Event" "time" "I" (.int tm)) (Ft : Fld Z h0 a1_ "com/example/reroutine/reroutine/scenario/Event" "type" "Lcom/example/reroutine/reroutine/scenario/EventType;" (.ref t3)) :
    MetFree l (⟨"com/example/reroutine/reroutine/replanning/ExecutedDay", "add", "(Lcom/example/reroutine/reroutine/scenario/Event;)V"⟩ : MethodName) (head1 (Jvm.Cond.code (⟨"com/example/reroutine/reroutine/replanning/ExecutedDay", "add", "(Lcom/example/reroutine/reroutine/scenario/Event;)V"⟩ : MethodName) prog_12_method_2_code 3 none :: ws) ({ frames := 1, cells := 0, slots := 0, locals := 16 } : Room)) (fun a U => a = #[(.ref a0_), (.ref a1_)] ∧ Z.Warmed39 U.vm ∧ U.heap = h0) (fun _ _ _ _ _ => True) (fun _ U o U' => ∃ v L, o = .returned v ∧ QAdd3 Z a0_ a1_ t0 t1 t2 t3 d0 d1 d2 d3 oa oc tm h0 n0 v U'.heap L ∧ FrameEnd U o U' L ({ frames := 1, cells := 0, slots := 0, locals := 16 } : Room).cells ({ frames := 1, cells := 0, slots := 0, locals := 16 } : Room).slots) := by
  refine MetFree.of_bodySF (plainFor_of_name pn_6) hisR ?_
  intro p e s m args below meth c s₁ Bd hml0 hP hK
  obtain ⟨rfl, hZ, hh⟩ := hP
  have hx := Bd.exec
  have hby := Bd.bytes
  have hml : c.maxLocals = 3 := hml0
  have hown : s.vm.findClass "com/example/reroutine/reroutine/replanning/ExecutedDay" = some m.cls := findClass_of_methodNamed Bd.named
  have hnm := (name_of_methodNamed Bd.named Bd.method).1
  have X0 : Stand p l e ({ frames := 1, cells := 0, slots := 0, locals := 16 } : Room) s m #[(.ref a0_), (.ref a1_)] below meth c s₁ [] 0 0 := Stand.of_body Bd
  have e0 : s₁.heap = h0 := by rw [← hh, Bd.state]; rfl
  have N0 := Fr.nil n0
  have S0 : ∀ t, Steps p.tables e below (s₁.setTop (mkF m 0 #[rv a0_, rv a1_, .unset] [])) t → Steps p.tables e below (s₁.setTop (entryFrame m #[(.ref a0_), (.ref a1_)] 3)) t := fun t k => castTop (ef_rmAdd3 m a0_ a1_) k
  obtain ⟨⟨hs0, hx0, hd0⟩, ⟨hs1, hx1, hd1⟩, ⟨hs2, hx2, hd2⟩, ⟨hs3, hx3, hd3⟩, hso, hao, hsz, hq0, hq1, hq2, hq3⟩ := id hst
  obtain ⟨oE, oS, ar, kk, vs, gar, nea, oF, V0, hlen⟩ := id B0
  obtain ⟨clA, ArA, -⟩ := id V0
  have K0 : Keep h0 h0 [a0_, ar] := Keep.refl _ _
  obtain ⟨T1, X1, e1, st1⟩ := getS2 X0 hx hZ hown (host := "") (Or.inl (hw _ (List.mem_of_getElem? (i := 34) rfl))) Via.refl e0 (hso.ext hO.2) (g := (mkF m 0 #[rv a0_, rv a1_, .unset] [])) rfl (hb hby d16_0)
  obtain ⟨T2, X2, e2, st2⟩ := getF X1 hx hZ hown (host := "") (Or.inl (hw _ (List.mem_of_getElem? (i := 102) rfl))) Via.refl e1 oS (g := (mkF m 4 #[rv a0_, rv a1_, .unset] [(.ref a0_), (.ref oa)])) rfl rfl (hb hby d16_4)
  obtain ⟨T3, X3, e3, st3⟩ := getS2 X2 hx hZ hown (host := "") (Or.inl (hw _ (List.mem_of_getElem? (i := 34) rfl))) Via.refl e2 (hso.ext hO.2) (g := (mkF m 7 #[rv a0_, rv a1_, .unset] [(.int (3 : Int32)), (.ref oa)])) rfl (hb hby d16_7)
  obtain ⟨cq4, kq4, q4a, q4b, q4c⟩ := isOf hZ e3 E1
  obtain ⟨_, _, ⟨T4, L4, k4, n4⟩, -, X4, ⟨Lc4, hQ4, l4, y4, z4⟩, st4⟩ := X3.virtualBack hx (y := (⟨"com/example/reroutine/reroutine/scenario/Event", "type", "()Lcom/example/reroutine/reroutine/scenario/EventType;"⟩ : MethodName)) (z := (⟨"com/example/reroutine/reroutine/scenario/Event", "type", "()Lcom/example/reroutine/reroutine/scenario/EventType;"⟩ : MethodName)) hown (mvT hZ (hw _ (List.mem_of_getElem? (i := 109) rfl))) (mvT hZ (hw _ (List.mem_of_getElem? (i := 110) rfl))) (notFace_of_selects (args := #[]) (mvT hZ (hw _ (List.mem_of_getElem? (i := 112) rfl)))) (mvT hZ (hw _ (List.mem_of_getElem? (i := 112) rfl))) (mvT hZ (hw _ (List.mem_of_getElem? (i := 111) rfl))) (by decide) (backOf (W := 0) (rmGtype l Z a0 hw [] a1_ t3 h0 n0 Z0 Ft) hZ (hw _ (List.mem_of_getElem? (i := 113) rfl)) (hw _ (List.mem_of_getElem? (i := 48) rfl)) (by decide) (by decide)) q4a q4c (g := (mkF m 15 #[rv a0_, rv a1_, rv t3] [(.ref a1_)])) rfl (by rw [hml]; rfl) (Steps.refl _) (argsL := []) (rest := []) (lenOf pd_8 rfl) rfl (by show 2 * 0 + _ ≤ _; exact Nat.le_of_eq rfl) (hb hby d16_15) (fun _ _ => ⟨rfl, e3, (by decide : 0 + 0 ≤ _), (by decide : 0 + 0 ≤ _)⟩)
  dsimp only [Pt.U, Pt.locs, Pt.cells, Pt.slots] at X4 l4 y4 z4 st4 hQ4
  subst y4 z4
  obtain ⟨rfl, Nq4, eq4⟩ := hQ4
  have N4 : Fr n0 L4 := by rw [l4]; exact Fr.app N0 Nq4
  obtain ⟨T5, X5, e5, st5⟩ := getF X4 hx hZ hown (host := "") (Or.inl (hw _ (List.mem_of_getElem? (i := 102) rfl))) Via.refl eq4 oS (g := (mkF m 58 #[rv a0_, rv a1_, rv t3] [(.ref a0_)])) rfl rfl (hb hby d16_58)
  obtain ⟨T6, X6, e6, st6⟩ := getF X5 hx hZ hown (host := "") (Or.inl (hw _ (List.mem_of_getElem? (i := 37) rfl))) Via.refl e5 oF (g := (mkF m 62 #[rv a0_, rv a1_, rv t3] [(.ref a0_), (.int (3 : Int32))])) rfl rfl (hb hby d16_62)
  obtain ⟨cl7, Ar7, qa7, Sa7, Na7, Ha7, Ga7⟩ := id V0
  obtain ⟨T8, X8, e8, st8⟩ := getF X6 hx hZ hown (host := "") (Or.inl (hw _ (List.mem_of_getElem? (i := 37) rfl))) Via.refl e6 oF (g := (mkF m 87 #[rv a0_, rv a1_, rv t3] [(.ref a0_)])) rfl rfl (hb hby d16_87)
  obtain ⟨T9, X9, e9, st9⟩ := getF X8 hx hZ hown (host := "") (Or.inl (hw _ (List.mem_of_getElem? (i := 102) rfl))) Via.refl e8 oS (g := (mkF m 92 #[rv a0_, rv a1_, rv t3] [(.ref a0_), (.ref a0_), (.ref ar)])) rfl rfl (hb hby d16_92)
  obtain ⟨T10, h10, X10, e10, W10, st10⟩ := putF X9 hx hZ hown (host := "") (Or.inl (hw _ (List.mem_of_getElem? (i := 102) rfl))) Via.refl e9 oS oE (Or.inl (hw _ (List.mem_of_getElem? (i := 103) rfl))) (hw _ (List.mem_of_getElem? (i := 28) rfl)) (ty := .int) (by decide) rfl rfl (g := (mkF m 98 #[rv a0_, rv a1_, rv t3] [(.int (4 : Int32)), (.ref a0_), (.int (3 : Int32)), (.ref ar)])) rfl rfl (hb hby d16_98)
  have Fw10 := oS.same W10
  have f11 := oF.other W10 (Or.inr (slot_ne (Or.inl (hw _ (List.mem_of_getElem? (i := 38) rfl))) (Or.inl (hw _ (List.mem_of_getElem? (i := 103) rfl))) (by decide) (t := (.array .int)) (t' := .int) (by decide) (by decide)))
  have f12 := oE.wr W10
  have Od13 := hO.wr W10 g0
  have f17 := V0.other W10 (Ne.symm nea)
  have f18 := E1.wr W10
  have f19 := Fm.other W10 (Or.inl (Ne.symm nev))
  have f20 := Ft.other W10 (Or.inl (Ne.symm nev))
  have N10 := Fr.snoc X10 N4 g0
  have Z10 : n0 ≤ h10.size := Nat.le_trans Z0 (Keep.of_wr W10).1
  have K10 : Keep h0 h10 [a0_, ar] := K0.wr W10 (Or.inl (List.mem_of_getElem? (i := 0) rfl))
  obtain ⟨cq21, kq21, q21a, q21b, q21c⟩ := isOf hZ e10 f18
  obtain ⟨_, _, ⟨T21, L21, k21, n21⟩, -, X21, ⟨Lc21, hQ21, l21, y21, z21⟩, st21⟩ := X10.virtualBack hx (y := (⟨"com/example/reroutine/reroutine/scenario/Event", "time", "()I"⟩ : MethodName)) (z := (⟨"com/example/reroutine/reroutine/scenario/Event", "time", "()I"⟩ : MethodName)) hown (mvT hZ (hw _ (List.mem_of_getElem? (i := 114) rfl))) (mvT hZ (hw _ (List.mem_of_getElem? (i := 115) rfl))) (notFace_of_selects (args := #[]) (mvT hZ (hw _ (List.mem_of_getElem? (i := 117) rfl)))) (mvT hZ (hw _ (List.mem_of_getElem? (i := 117) rfl))) (mvT hZ (hw _ (List.mem_of_getElem? (i := 116) rfl))) (by decide) (backOf (W := 2) (rmGtime l Z a0 hw [] a1_ tm h10 n0 Z10 f19) hZ (hw _ (List.mem_of_getElem? (i := 118) rfl)) (hw _ (List.mem_of_getElem? (i := 48) rfl)) (by decide) (by decide)) q21a q21c (g := (mkF m 102 #[rv a0_, rv a1_, rv t3] [(.ref a1_), (.int (3 : Int32)), (.ref ar)])) rfl (by rw [hml]; rfl) (Steps.refl _) (argsL := []) (rest := [(.int (3 : Int32)), (.ref ar)]) (lenOf pd_9 rfl) rfl (by show 2 * 0 + _ ≤ _; exact Nat.le_of_eq rfl) (hb hby d16_102) (fun _ _ => ⟨rfl, e10, (by decide : 0 + 0 ≤ _), (by decide : 0 + 0 ≤ _)⟩)
  dsimp only [Pt.U, Pt.locs, Pt.cells, Pt.slots] at X21 l21 y21 z21 st21 hQ21
  subst y21 z21
  obtain ⟨rfl, Nq21, eq21⟩ := hQ21
  have N21 : Fr n0 L21 := by rw [l21]; exact Fr.app N10 Nq21
  obtain ⟨cl22, Ar22, qa22, Sa22, Na22, Ha22, Ga22⟩ := id f17
  have hin22 : ¬ ((3 : Int32) < 0 ∨ cl22.slots.size ≤ ((3 : Int32)).toNatClampNeg) := inb_of Sa22 ⟨by decide, by decide⟩
  obtain ⟨T23, h23, X23, e23, W23, st23⟩ := stI X21 hx hZ eq21 Ar22 (j := (3 : Int32)) hin22 (g := (mkF m 105 #[rv a0_, rv a1_, rv t3] [(.int tm), (.int (3 : Int32)), (.ref ar)])) rfl rfl (hb hby d16_105)
  have V23 := Arv.set Ar22 qa22 Sa22 Na22 Ha22 Ga22 rfl W23 3 rfl (by rw [hlen]; decide)
  have N23 := Fr.snoc X23 N21 gar
  have Z23 : n0 ≤ h23.size := Nat.le_trans Z10 (Keep.of_wr W23).1
  have Od24 := Od13.wr W23 gar
  have f25 := f12.wr W23
  have f26 := Fw10.other W23 (Or.inl nea)
  have f27 := f11.other W23 (Or.inl nea)
  have K23 : Keep h0 h23 [a0_, ar] := K10.wr W23 (Or.inl (List.mem_of_getElem? (i := 1) rfl))
  obtain ⟨fs, hr, hrun, hended, hW, hsame⟩ := X23.leave (v := none) (fun _ => rfl)
  refine ⟨_, _, S0 _ ?_, hrun, hended, _, _, rfl, ?_, ⟨_, rfl⟩, hW, hsame.mono (by decide) (by decide)⟩
  · skip
    show Steps p.tables e below (s₁.setTop (mkF m 0 #[rv a0_, rv a1_, .unset] [])) _
    refine st1 _ ?_
    show Steps p.tables e below (T1.setTop (mkF m 3 #[rv a0_, rv a1_, .unset] [(.ref oa)])) _
    refine XS.aloadN X1.here hx rfl (hb hby d16_3) rfl rfl ?_
    show Steps p.tables e below (T1.setTop (mkF m 4 #[rv a0_, rv a1_, .unset] [(.ref a0_), (.ref oa)])) _
    refine st2 _ ?_
    show Steps p.tables e below (T2.setTop (mkF m 7 #[rv a0_, rv a1_, .unset] [(.int (3 : Int32)), (.ref oa)])) _
    refine st3 _ ?_
    show Steps p.tables e below (T3.setTop (mkF m 10 #[rv a0_, rv a1_, .unset] [(.ref oa), (.int (3 : Int32)), (.ref oa)])) _
    refine X3.arraylength hx (by rw [e3]; exact (hao.ext hO.2).1) (State.isArrayOf_alike hZ.alike hao.2.1) (g := (mkF m 10 #[rv a0_, rv a1_, .unset] [(.ref oa), (.int (3 : Int32)), (.ref oa)])) rfl rfl (hb hby d16_10) _ ?_
    rw [len_of hsz (by decide)]
    show Steps p.tables e below (T3.setTop (mkF m 11 #[rv a0_, rv a1_, .unset] [(.int (4 : Int32)), (.int (3 : Int32)), (.ref oa)])) _
    refine iremM X3 hx rfl (hb hby d16_11) rfl (by decide) ?_
    show Steps p.tables e below (T3.setTop (mkF m 12 #[rv a0_, rv a1_, .unset] [(.int (3 : Int32)), (.ref oa)])) _
    refine X3.aaload hx (j := (3 : Int32)) (v := (.ref t3)) (by rw [e3]; exact (hao.ext hO.2).1) (State.isArrayOf_alike hZ.alike hao.2.1) rfl hao.2.2 (inb_of hsz ⟨by decide, by decide⟩) hq3 (g := (mkF m 12 #[rv a0_, rv a1_, .unset] [(.int (3 : Int32)), (.ref oa)])) rfl rfl (hb hby d16_12) _ ?_
    show Steps p.tables e below (T3.setTop (mkF m 13 #[rv a0_, rv a1_, .unset] [(.ref t3)])) _
    refine XS.astoreN X3.here hx rfl (hb hby d16_13) rfl rfl (l' := #[rv a0_, rv a1_, rv t3]) rfl ?_
    show Steps p.tables e below (T3.setTop (mkF m 14 #[rv a0_, rv a1_, rv t3] [])) _
    refine XS.aloadN X3.here hx rfl (hb hby d16_14) rfl rfl ?_
    show Steps p.tables e below (T3.setTop (mkF m 15 #[rv a0_, rv a1_, rv t3] [(.ref a1_)])) _
    refine st4.trans ?_
    show Steps p.tables e below (T4.setTop (mkF m 18 #[rv a0_, rv a1_, rv t3] [(.ref t3)])) _
    refine XS.aloadN X4.here hx rfl (hb hby d16_18) rfl rfl ?_
    show Steps p.tables e below (T4.setTop (mkF m 19 #[rv a0_, rv a1_, rv t3] [(.ref t3), (.ref t3)])) _
    refine Jvm.RoadKit.acmp (g := (mkF m 19 #[rv a0_, rv a1_, rv t3] [(.ref t3), (.ref t3)])) X4 hx rfl rfl rfl (pc0 := 19) (pc' := 57) (same := true) rfl (hb hby d16_19) rfl (decide_eq_true rfl) (by decide) (by decide) ?_
    show Steps p.tables e below (T4.setTop (mkF m 57 #[rv a0_, rv a1_, rv t3] [])) _
    refine XS.aloadN X4.here hx rfl (hb hby d16_57) rfl rfl ?_
    show Steps p.tables e below (T4.setTop (mkF m 58 #[rv a0_, rv a1_, rv t3] [(.ref a0_)])) _
    refine st5 _ ?_
    show Steps p.tables e below (T5.setTop (mkF m 61 #[rv a0_, rv a1_, rv t3] [(.int (3 : Int32))])) _
    refine XS.aloadN X5.here hx rfl (hb hby d16_61) rfl rfl ?_
    show Steps p.tables e below (T5.setTop (mkF m 62 #[rv a0_, rv a1_, rv t3] [(.ref a0_), (.int (3 : Int32))])) _
    refine st6 _ ?_
    show Steps p.tables e below (T6.setTop (mkF m 65 #[rv a0_, rv a1_, rv t3] [(.ref ar), (.int (3 : Int32))])) _
    refine X6.arraylength hx (by rw [e6]; exact Ar7.1) (State.isArrayOf_alike hZ.alike Ar7.2.1) (g := (mkF m 65 #[rv a0_, rv a1_, rv t3] [(.ref ar), (.int (3 : Int32))])) rfl rfl (hb hby d16_65) _ ?_
    rw [len_of Sa7 Na7]
    show Steps p.tables e below (T6.setTop (mkF m 66 #[rv a0_, rv a1_, rv t3] [(.int (4 : Int32)), (.int (3 : Int32))])) _
    refine XS.icmpYes X6.here hx rfl (pc0 := 66) (pc' := 86) rfl (hb hby d16_66) rfl (feq (by decide : ¬ ((3 : Int32) = (4 : Int32)))).2 (by decide) (by decide) ?_
    show Steps p.tables e below (T6.setTop (mkF m 86 #[rv a0_, rv a1_, rv t3] [])) _
    refine XS.aloadN X6.here hx rfl (hb hby d16_86) rfl rfl ?_
    show Steps p.tables e below (T6.setTop (mkF m 87 #[rv a0_, rv a1_, rv t3] [(.ref a0_)])) _
    refine st8 _ ?_
    show Steps p.tables e below (T8.setTop (mkF m 90 #[rv a0_, rv a1_, rv t3] [(.ref ar)])) _
    refine XS.aloadN X8.here hx rfl (hb hby d16_90) rfl rfl ?_
    show Steps p.tables e below (T8.setTop (mkF m 91 #[rv a0_, rv a1_, rv t3] [(.ref a0_), (.ref ar)])) _
    refine XS.dup X8.here hx rfl (hb hby d16_91) rfl rfl ?_
    show Steps p.tables e below (T8.setTop (mkF m 92 #[rv a0_, rv a1_, rv t3] [(.ref a0_), (.ref a0_), (.ref ar)])) _
    refine st9 _ ?_
    show Steps p.tables e below (T9.setTop (mkF m 95 #[rv a0_, rv a1_, rv t3] [(.int (3 : Int32)), (.ref a0_), (.ref ar)])) _
    refine XS.dupX1 X9.here hx rfl (hb hby d16_95) rfl rfl rfl ?_
    show Steps p.tables e below (T9.setTop (mkF m 96 #[rv a0_, rv a1_, rv t3] [(.int (3 : Int32)), (.ref a0_), (.int (3 : Int32)), (.ref ar)])) _
    refine XS.iconst X9.here hx rfl (hb hby d16_96) ?_
    show Steps p.tables e below (T9.setTop (mkF m 97 #[rv a0_, rv a1_, rv t3] [(.int (1 : Int32)), (.int (3 : Int32)), (.ref a0_), (.int (3 : Int32)), (.ref ar)])) _
    refine XS.iadd X9.here hx rfl (hb hby d16_97) rfl ?_
    show Steps p.tables e below (T9.setTop (mkF m 98 #[rv a0_, rv a1_, rv t3] [(.int (4 : Int32)), (.ref a0_), (.int (3 : Int32)), (.ref ar)])) _
    refine st10 _ ?_
    show Steps p.tables e below (T10.setTop (mkF m 101 #[rv a0_, rv a1_, rv t3] [(.int (3 : Int32)), (.ref ar)])) _
    refine XS.aloadN X10.here hx rfl (hb hby d16_101) rfl rfl ?_
    show Steps p.tables e below (T10.setTop (mkF m 102 #[rv a0_, rv a1_, rv t3] [(.ref a1_), (.int (3 : Int32)), (.ref ar)])) _
    refine st21.trans ?_
    show Steps p.tables e below (T21.setTop (mkF m 105 #[rv a0_, rv a1_, rv t3] [(.int tm), (.int (3 : Int32)), (.ref ar)])) _
    refine st23 _ ?_
    show Steps p.tables e below (T23.setTop (mkF m 106 #[rv a0_, rv a1_, rv t3] [])) _
    exact X23.returnOut hx Bd.returns (hb hby d16_106) hr
  · show QAdd3 Z a0_ a1_ t0 t1 t2 t3 d0 d1 d2 d3 oa oc tm h0 n0 _ T23.heap _
    rw [e23]
    exact ⟨rfl, N23, ⟨_, _, _, K23, gar, ArA⟩, ⟨f25, f26, ar, _, _, gar, nea, f27, V23, by rw [List.length_set, hlen]; try rfl⟩⟩
theorem d16_69 : decode prog_12_method_2_code 69 = .ok (.aload_n 0, 1) := by decide +kernel
theorem d16_70 : decode prog_12_method_2_code 70 = .ok (.aload_n 0, 1) := by decide +kernel
theorem d16_71 : decode prog_12_method_2_code 71 = .ok (.getfield 13, 3) := by decide +kernel
theorem d16_74 : decode prog_12_method_2_code 74 = .ok (.iconst 2, 1) := by decide +kernel
theorem d16_75 : decode prog_12_method_2_code 75 = .ok (.aload_n 0, 1) := by decide +kernel
theorem d16_76 : decode prog_12_method_2_code 76 = .ok (.getfield 29, 3) := by decide +kernel
theorem d16_79 : decode prog_12_method_2_code 79 = .ok (.imul, 1) := by decide +kernel
theorem d16_80 : decode prog_12_method_2_code 80 = .ok (.invokestatic 64, 3) := by decide +kernel
theorem pd_10 : parseMethodDescriptor "([II)[I" = some ⟨[(.array .int), .int], some (.array .int)⟩ := by decide +kernel
theorem d16_83 : decode prog_12_method_2_code 83 = .ok (.putfield 13, 3) := by decide +kernel
def QAdd4 (Z : State) (a0_ : Addr) (a1_ : Addr) (t0 t1 t2 t3 d0 d1 d2 d3 oa : Addr) (oc : Cell) (tm : Int32) (h0 : Heap) (n0 : Nat) (v : Option Value) (h : Heap) (L : List Loc) : Prop := v = none ∧ Fr n0 L ∧ (∃ (ar : Addr) (cl : Cell) (ty : FieldType), Keep h0 h [a0_, ar] ∧ n0 ≤ ar ∧ Arr Z h0 ar cl ty) ∧ own_ED Z h n0 a0_ (5 : Int32) (8 : Int32)
theorem ef_rmAdd4 (m : MethodId) (a0_ : Addr) (a1_ : Addr) : entryFrame m #[(.ref a0_), (.ref a1_)] 3 = mkF m 0 #[rv a0_, rv a1_, .unset] [] := by first | (simp [entryFrame, mkF, argsToLocals, Value.category]; done) | rfl
set_option maxRecDepth 65536 in
set_option maxHeartbeats 40000000 in
theorem rmAdd4 (l : Launch) (Z : State) (a0 : Array Value) (hw : ∀ d ∈ tables_1, d.before a0 Z = true) (ws : List Jvm.Cond) (a0_ : Addr) (a1_ : Addr) (t0 t1 t2 t3 d0 d1 d2 d3 oa : Addr) (oc : Cell) (tm : Int32) (h0 : Heap) (n0 : Nat) (Z0 : n0 ≤ h0.size) (hO : Old Z n0 h0) (hst : own_St Z t0 t1 t2 t3 d0 d1 d2 d3 oa oc) (B0 : own_ED Z h0 n0 a0_ (4 : Int32) (4 : Int32)) (g0 : n0 ≤ a0_) (nev : a0_ ≠ a1_) (E1 : Exa Z h0 a1_ "com/example/reroutine/reroutine/scenario/Event") (Fm : Fld Z h0 a1_ "com/example/reroutine/reroutine/scenario/Event" "time" "I" (.int tm)) (Ft : Fld Z h0 a1_ "com/example/reroutine/reroutine/scenario/Event" "type" "Lcom/example/reroutine/reroutine/scenario/EventType;" (.ref t0)) :
    MetFree l (⟨"com/example/reroutine/reroutine/replanning/ExecutedDay", "add", "(Lcom/example/reroutine/reroutine/scenario/Event;)V"⟩ : MethodName) (head1 (Jvm.Cond.code (⟨"com/example/reroutine/reroutine/replanning/ExecutedDay", "add", "(Lcom/example/reroutine/reroutine/scenario/Event;)V"⟩ : MethodName) prog_12_method_2_code 3 none :: ws) ({ frames := 2, cells := 1, slots := 8, locals := 57 } : Room)) (fun a U => a = #[(.ref a0_), (.ref a1_)] ∧ Z.Warmed39 U.vm ∧ U.heap = h0) (fun _ _ _ _ _ => True) (fun _ U o U' => ∃ v L, o = .returned v ∧ QAdd4 Z a0_ a1_ t0 t1 t2 t3 d0 d1 d2 d3 oa oc tm h0 n0 v U'.heap L ∧ FrameEnd U o U' L ({ frames := 2, cells := 1, slots := 8, locals := 57 } : Room).cells ({ frames := 2, cells := 1, slots := 8, locals := 57 } : Room).slots) := by
  refine MetFree.of_bodySF (plainFor_of_name pn_6) hisR ?_
  intro p e s m args below meth c s₁ Bd hml0 hP hK
  obtain ⟨rfl, hZ, hh⟩ := hP
  have hx := Bd.exec
  have hby := Bd.bytes
  have hml : c.maxLocals = 3 := hml0
  have hown : s.vm.findClass "com/example/reroutine/reroutine/replanning/ExecutedDay" = some m.cls := findClass_of_methodNamed Bd.named
  have hnm := (name_of_methodNamed Bd.named Bd.method).1
  have X0 : Stand p l e ({ frames := 2, cells := 1, slots := 8, locals := 57 } : Room) s m #[(.ref a0_), (.ref a1_)] below meth c s₁ [] 0 0 := Stand.of_body Bd
  have e0 : s₁.heap = h0 := by rw [← hh, Bd.state]; rfl
  have N0 := Fr.nil n0
  have S0 : ∀ t, Steps p.tables e below (s₁.setTop (mkF m 0 #[rv a0_, rv a1_, .unset] [])) t → Steps p.tables e below (s₁.setTop (entryFrame m #[(.ref a0_), (.ref a1_)] 3)) t := fun t k => castTop (ef_rmAdd4 m a0_ a1_) k
  obtain ⟨⟨hs0, hx0, hd0⟩, ⟨hs1, hx1, hd1⟩, ⟨hs2, hx2, hd2⟩, ⟨hs3, hx3, hd3⟩, hso, hao, hsz, hq0, hq1, hq2, hq3⟩ := id hst
  obtain ⟨oE, oS, ar, kk, vs, gar, nea, oF, V0, hlen⟩ := id B0
  obtain ⟨clA, ArA, -⟩ := id V0
  have K0 : Keep h0 h0 [a0_, ar] := Keep.refl _ _
  obtain ⟨T1, X1, e1, st1⟩ := getS2 X0 hx hZ hown (host := "") (Or.inl (hw _ (List.mem_of_getElem? (i := 34) rfl))) Via.refl e0 (hso.ext hO.2) (g := (mkF m 0 #[rv a0_, rv a1_, .unset] [])) rfl (hb hby d16_0)
  obtain ⟨T2, X2, e2, st2⟩ := getF X1 hx hZ hown (host := "") (Or.inl (hw _ (List.mem_of_getElem? (i := 102) rfl))) Via.refl e1 oS (g := (mkF m 4 #[rv a0_, rv a1_, .unset] [(.ref a0_), (.ref oa)])) rfl rfl (hb hby d16_4)
  obtain ⟨T3, X3, e3, st3⟩ := getS2 X2 hx hZ hown (host := "") (Or.inl (hw _ (List.mem_of_getElem? (i := 34) rfl))) Via.refl e2 (hso.ext hO.2) (g := (mkF m 7 #[rv a0_, rv a1_, .unset] [(.int (4 : Int32)), (.ref oa)])) rfl (hb hby d16_7)
  obtain ⟨cq4, kq4, q4a, q4b, q4c⟩ := isOf hZ e3 E1
  obtain ⟨_, _, ⟨T4, L4, k4, n4⟩, -, X4, ⟨Lc4, hQ4, l4, y4, z4⟩, st4⟩ := X3.virtualBack hx (y := (⟨"com/example/reroutine/reroutine/scenario/Event", "type", "()Lcom/example/reroutine/reroutine/scenario/EventType;"⟩ : MethodName)) (z := (⟨"com/example/reroutine/reroutine/scenario/Event", "type", "()Lcom/example/reroutine/reroutine/scenario/EventType;"⟩ : MethodName)) hown (mvT hZ (hw _ (List.mem_of_getElem? (i := 109) rfl))) (mvT hZ (hw _ (List.mem_of_getElem? (i := 110) rfl))) (notFace_of_selects (args := #[]) (mvT hZ (hw _ (List.mem_of_getElem? (i := 112) rfl)))) (mvT hZ (hw _ (List.mem_of_getElem? (i := 112) rfl))) (mvT hZ (hw _ (List.mem_of_getElem? (i := 111) rfl))) (by decide) (backOf (W := 0) (rmGtype l Z a0 hw [] a1_ t0 h0 n0 Z0 Ft) hZ (hw _ (List.mem_of_getElem? (i := 113) rfl)) (hw _ (List.mem_of_getElem? (i := 48) rfl)) (by decide) (by decide)) q4a q4c (g := (mkF m 15 #[rv a0_, rv a1_, rv t0] [(.ref a1_)])) rfl (by rw [hml]; rfl) (Steps.refl _) (argsL := []) (rest := []) (lenOf pd_8 rfl) rfl (by show 2 * 0 + _ ≤ _; exact Nat.le_of_eq rfl) (hb hby d16_15) (fun _ _ => ⟨rfl, e3, (by decide : 0 + 0 ≤ _), (by decide : 0 + 0 ≤ _)⟩)
  dsimp only [Pt.U, Pt.locs, Pt.cells, Pt.slots] at X4 l4 y4 z4 st4 hQ4
  subst y4 z4
  obtain ⟨rfl, Nq4, eq4⟩ := hQ4
  have N4 : Fr n0 L4 := by rw [l4]; exact Fr.app N0 Nq4
  obtain ⟨T5, X5, e5, st5⟩ := getF X4 hx hZ hown (host := "") (Or.inl (hw _ (List.mem_of_getElem? (i := 102) rfl))) Via.refl eq4 oS (g := (mkF m 58 #[rv a0_, rv a1_, rv t0] [(.ref a0_)])) rfl rfl (hb hby d16_58)
  obtain ⟨T6, X6, e6, st6⟩ := getF X5 hx hZ hown (host := "") (Or.inl (hw _ (List.mem_of_getElem? (i := 37) rfl))) Via.refl e5 oF (g := (mkF m 62 #[rv a0_, rv a1_, rv t0] [(.ref a0_), (.int (4 : Int32))])) rfl rfl (hb hby d16_62)
  obtain ⟨cl7, Ar7, qa7, Sa7, Na7, Ha7, Ga7⟩ := id V0
  obtain ⟨T8, X8, e8, st8⟩ := getF X6 hx hZ hown (host := "") (Or.inl (hw _ (List.mem_of_getElem? (i := 37) rfl))) Via.refl e6 oF (g := (mkF m 71 #[rv a0_, rv a1_, rv t0] [(.ref a0_), (.ref a0_)])) rfl rfl (hb hby d16_71)
  obtain ⟨T9, X9, e9, st9⟩ := getF X8 hx hZ hown (host := "") (Or.inl (hw _ (List.mem_of_getElem? (i := 102) rfl))) Via.refl e8 oS (g := (mkF m 76 #[rv a0_, rv a1_, rv t0] [(.ref a0_), (.int (2 : Int32)), (.ref ar), (.ref a0_)])) rfl rfl (hb hby d16_76)
  obtain ⟨_, _, ⟨T10, L10, k10, n10⟩, -, X10, ⟨Lc10, hQ10, l10, y10, z10⟩, st10⟩ := Jvm.LawKit.callS X9 hx (y := (⟨"java/util/Arrays", "copyOf", "([II)[I"⟩ : MethodName)) hown (mvT hZ (hw _ (List.mem_of_getElem? (i := 119) rfl))) (mvT hZ (hw _ (List.mem_of_getElem? (i := 120) rfl))) (mvT hZ (hw _ (List.mem_of_getElem? (i := 121) rfl))) (mvT hZ (hw _ (List.mem_of_getElem? (i := 122) rfl))) (by decide) (backOf (W := 1) (rmCopy l Z a0 hw [] ar kk vs h0 n0 Z0 V0) hZ (hw _ (List.mem_of_getElem? (i := 122) rfl)) (hw _ (List.mem_of_getElem? (i := 121) rfl)) (by decide) (by decide)) (g := (mkF m 80 #[rv a0_, rv a1_, rv t0] [(.int (8 : Int32)), (.ref ar), (.ref a0_)])) rfl (by rw [hml]; rfl) (argsL := [(.ref ar), (.int (8 : Int32))]) (rest := [(.ref a0_)]) (lenOf pd_10 rfl) rfl (by show 2 * 0 + _ ≤ _; exact Nat.le_of_eq rfl) (hb hby d16_80) (fun _ _ => ⟨rfl, e9, (by decide : 0 + 1 ≤ _), (by decide : 0 + 8 ≤ _)⟩)
  dsimp only [Pt.U, Pt.locs, Pt.cells, Pt.slots] at X10 l10 y10 z10 st10 hQ10
  subst y10 z10
  obtain ⟨nb10, kb10, wq10, rfl, Nq10, Kq10, geq10, szq10, Vq10, hlq10⟩ := hQ10
  have N10 : Fr n0 L10 := by rw [l10]; exact Fr.app N4 Nq10
  have Z10 : n0 ≤ T10.heap.size := Nat.le_trans Z0 Kq10.1
  have K10 : Keep h0 T10.heap [a0_, ar] := K0.trans Kq10 all0
  have sz_nb10 : h0.size ≤ nb10 := Nat.le_trans K0.1 szq10
  have ne_a0__nb10 : a0_ ≠ nb10 := Nat.ne_of_lt (Nat.lt_of_lt_of_le (oE).lt szq10)
  have ne_a1__nb10 : a1_ ≠ nb10 := Nat.ne_of_lt (Nat.lt_of_lt_of_le (E1).lt szq10)
  have ne_ar_nb10 : ar ≠ nb10 := Nat.ne_of_lt (Nat.lt_of_lt_of_le (V0).lt szq10)
  have Od11 := hO.keep Kq10 all0
  have f12 := oE.keep Kq10
  have f13 := oS.keep Kq10 nin0
  have f14 := oF.keep Kq10 nin0
  have f15 := E1.keep Kq10
  have f16 := Fm.keep Kq10 nin0
  have f17 := Ft.keep Kq10 nin0
  obtain ⟨T18, h18, X18, e18, W18, st18⟩ := putF X10 hx hZ hown (host := "") (Or.inl (hw _ (List.mem_of_getElem? (i := 37) rfl))) Via.refl rfl f14 f12 (Or.inl (hw _ (List.mem_of_getElem? (i := 38) rfl))) (hw _ (List.mem_of_getElem? (i := 28) rfl)) (ty := (.array .int)) (by decide) rfl rfl (g := (mkF m 83 #[rv a0_, rv a1_, rv t0] [(.ref nb10), (.ref a0_)])) rfl rfl (hb hby d16_83)
  have Fw18 := f14.same W18
  have f19 := f13.other W18 (Or.inr (slot_ne (Or.inl (hw _ (List.mem_of_getElem? (i := 103) rfl))) (Or.inl (hw _ (List.mem_of_getElem? (i := 38) rfl))) (by decide) (t := .int) (t' := (.array .int)) (by decide) (by decide)))
  have f20 := f12.wr W18
  have Od21 := Od11.wr W18 g0
  have f25 := f15.wr W18
  have f26 := f16.other W18 (Or.inl (Ne.symm nev))
  have f27 := f17.other W18 (Or.inl (Ne.symm nev))
  have f28 := Vq10.other W18 (Ne.symm ne_a0__nb10)
  have N18 := Fr.snoc X18 N10 g0
  have Z18 : n0 ≤ h18.size := Nat.le_trans Z10 (Keep.of_wr W18).1
  have K18 : Keep h0 h18 [a0_, ar] := K10.wr W18 (Or.inl (List.mem_of_getElem? (i := 0) rfl))
  obtain ⟨T29, X29, e29, st29⟩ := getF X18 hx hZ hown (host := "") (Or.inl (hw _ (List.mem_of_getElem? (i := 37) rfl))) Via.refl e18 Fw18 (g := (mkF m 87 #[rv a0_, rv a1_, rv t0] [(.ref a0_)])) rfl rfl (hb hby d16_87)
  obtain ⟨T30, X30, e30, st30⟩ := getF X29 hx hZ hown (host := "") (Or.inl (hw _ (List.mem_of_getElem? (i := 102) rfl))) Via.refl e29 f19 (g := (mkF m 92 #[rv a0_, rv a1_, rv t0] [(.ref a0_), (.ref a0_), (.ref nb10)])) rfl rfl (hb hby d16_92)
  obtain ⟨T31, h31, X31, e31, W31, st31⟩ := putF X30 hx hZ hown (host := "") (Or.inl (hw _ (List.mem_of_getElem? (i := 102) rfl))) Via.refl e30 f19 f20 (Or.inl (hw _ (List.mem_of_getElem? (i := 103) rfl))) (hw _ (List.mem_of_getElem? (i := 28) rfl)) (ty := .int) (by decide) rfl rfl (g := (mkF m 98 #[rv a0_, rv a1_, rv t0] [(.int (5 : Int32)), (.ref a0_), (.int (4 : Int32)), (.ref nb10)])) rfl rfl (hb hby d16_98)
  have Fw31 := f19.same W31
  have f32 := Fw18.other W31 (Or.inr (slot_ne (Or.inl (hw _ (List.mem_of_getElem? (i := 38) rfl))) (Or.inl (hw _ (List.mem_of_getElem? (i := 103) rfl))) (by decide) (t := (.array .int)) (t' := .int) (by decide) (by decide)))
  have f33 := f20.wr W31
  have Od34 := Od21.wr W31 g0
  have f38 := f25.wr W31
  have f39 := f26.other W31 (Or.inl (Ne.symm nev))
  have f40 := f27.other W31 (Or.inl (Ne.symm nev))
  have f41 := f28.other W31 (Ne.symm ne_a0__nb10)
  have N31 := Fr.snoc X31 N18 g0
  have Z31 : n0 ≤ h31.size := Nat.le_trans Z18 (Keep.of_wr W31).1
  have K31 : Keep h0 h31 [a0_, ar] := K18.wr W31 (Or.inl (List.mem_of_getElem? (i := 0) rfl))
  obtain ⟨cq42, kq42, q42a, q42b, q42c⟩ := isOf hZ e31 f38
  obtain ⟨_, _, ⟨T42, L42, k42, n42⟩, -, X42, ⟨Lc42, hQ42, l42, y42, z42⟩, st42⟩ := X31.virtualBack hx (y := (⟨"com/example/reroutine/reroutine/scenario/Event", "time", "()I"⟩ : MethodName)) (z := (⟨"com/example/reroutine/reroutine/scenario/Event", "time", "()I"⟩ : MethodName)) hown (mvT hZ (hw _ (List.mem_of_getElem? (i := 114) rfl))) (mvT hZ (hw _ (List.mem_of_getElem? (i := 115) rfl))) (notFace_of_selects (args := #[]) (mvT hZ (hw _ (List.mem_of_getElem? (i := 117) rfl)))) (mvT hZ (hw _ (List.mem_of_getElem? (i := 117) rfl))) (mvT hZ (hw _ (List.mem_of_getElem? (i := 116) rfl))) (by decide) (backOf (W := 2) (rmGtime l Z a0 hw [] a1_ tm h31 n0 Z31 f39) hZ (hw _ (List.mem_of_getElem? (i := 118) rfl)) (hw _ (List.mem_of_getElem? (i := 48) rfl)) (by decide) (by decide)) q42a q42c (g := (mkF m 102 #[rv a0_, rv a1_, rv t0] [(.ref a1_), (.int (4 : Int32)), (.ref nb10)])) rfl (by rw [hml]; rfl) (Steps.refl _) (argsL := []) (rest := [(.int (4 : Int32)), (.ref nb10)]) (lenOf pd_9 rfl) rfl (by show 2 * 0 + _ ≤ _; exact Nat.le_of_eq rfl) (hb hby d16_102) (fun _ _ => ⟨rfl, e31, (by decide : 1 + 0 ≤ _), (by decide : 8 + 0 ≤ _)⟩)
  dsimp only [Pt.U, Pt.locs, Pt.cells, Pt.slots] at X42 l42 y42 z42 st42 hQ42
  subst y42 z42
  obtain ⟨rfl, Nq42, eq42⟩ := hQ42
  have N42 : Fr n0 L42 := by rw [l42]; exact Fr.app N31 Nq42
  obtain ⟨cl43, Ar43, qa43, Sa43, Na43, Ha43, Ga43⟩ := id f41
  have hin43 : ¬ ((4 : Int32) < 0 ∨ cl43.slots.size ≤ ((4 : Int32)).toNatClampNeg) := inb_of Sa43 ⟨by decide, by decide⟩
  obtain ⟨T44, h44, X44, e44, W44, st44⟩ := stI X42 hx hZ eq42 Ar43 (j := (4 : Int32)) hin43 (g := (mkF m 105 #[rv a0_, rv a1_, rv t0] [(.int tm), (.int (4 : Int32)), (.ref nb10)])) rfl rfl (hb hby d16_105)
  have V44 := Arv.set Ar43 qa43 Sa43 Na43 Ha43 Ga43 rfl W44 4 rfl (by rw [hlq10]; decide)
  have N44 := Fr.snoc X44 N42 geq10
  have Z44 : n0 ≤ h44.size := Nat.le_trans Z31 (Keep.of_wr W44).1
  have Od45 := Od34.wr W44 geq10
  have f46 := f33.wr W44
  have f47 := Fw31.other W44 (Or.inl ne_a0__nb10)
  have f48 := f32.other W44 (Or.inl ne_a0__nb10)
  have K44 : Keep h0 h44 [a0_, ar] := K31.wr W44 (Or.inr sz_nb10)
  obtain ⟨fs, hr, hrun, hended, hW, hsame⟩ := X44.leave (v := none) (fun _ => rfl)
  refine ⟨_, _, S0 _ ?_, hrun, hended, _, _, rfl, ?_, ⟨_, rfl⟩, hW, hsame.mono (by decide) (by decide)⟩
  · skip
    show Steps p.tables e below (s₁.setTop (mkF m 0 #[rv a0_, rv a1_, .unset] [])) _
    refine st1 _ ?_
    show Steps p.tables e below (T1.setTop (mkF m 3 #[rv a0_, rv a1_, .unset] [(.ref oa)])) _
    refine XS.aloadN X1.here hx rfl (hb hby d16_3) rfl rfl ?_
    show Steps p.tables e below (T1.setTop (mkF m 4 #[rv a0_, rv a1_, .unset] [(.ref a0_), (.ref oa)])) _
    refine st2 _ ?_
    show Steps p.tables e below (T2.setTop (mkF m 7 #[rv a0_, rv a1_, .unset] [(.int (4 : Int32)), (.ref oa)])) _
    refine st3 _ ?_
    show Steps p.tables e below (T3.setTop (mkF m 10 #[rv a0_, rv a1_, .unset] [(.ref oa), (.int (4 : Int32)), (.ref oa)])) _
    refine X3.arraylength hx (by rw [e3]; exact (hao.ext hO.2).1) (State.isArrayOf_alike hZ.alike hao.2.1) (g := (mkF m 10 #[rv a0_, rv a1_, .unset] [(.ref oa), (.int (4 : Int32)), (.ref oa)])) rfl rfl (hb hby d16_10) _ ?_
    rw [len_of hsz (by decide)]
    show Steps p.tables e below (T3.setTop (mkF m 11 #[rv a0_, rv a1_, .unset] [(.int (4 : Int32)), (.int (4 : Int32)), (.ref oa)])) _
    refine iremM X3 hx rfl (hb hby d16_11) rfl (by decide) ?_
    show Steps p.tables e below (T3.setTop (mkF m 12 #[rv a0_, rv a1_, .unset] [(.int (0 : Int32)), (.ref oa)])) _
    refine X3.aaload hx (j := (0 : Int32)) (v := (.ref t0)) (by rw [e3]; exact (hao.ext hO.2).1) (State.isArrayOf_alike hZ.alike hao.2.1) rfl hao.2.2 (inb_of hsz ⟨by decide, by decide⟩) hq0 (g := (mkF m 12 #[rv a0_, rv a1_, .unset] [(.int (0 : Int32)), (.ref oa)])) rfl rfl (hb hby d16_12) _ ?_
    show Steps p.tables e below (T3.setTop (mkF m 13 #[rv a0_, rv a1_, .unset] [(.ref t0)])) _
    refine XS.astoreN X3.here hx rfl (hb hby d16_13) rfl rfl (l' := #[rv a0_, rv a1_, rv t0]) rfl ?_
    show Steps p.tables e below (T3.setTop (mkF m 14 #[rv a0_, rv a1_, rv t0] [])) _
    refine XS.aloadN X3.here hx rfl (hb hby d16_14) rfl rfl ?_
    show Steps p.tables e below (T3.setTop (mkF m 15 #[rv a0_, rv a1_, rv t0] [(.ref a1_)])) _
    refine st4.trans ?_
    show Steps p.tables e below (T4.setTop (mkF m 18 #[rv a0_, rv a1_, rv t0] [(.ref t0)])) _
    refine XS.aloadN X4.here hx rfl (hb hby d16_18) rfl rfl ?_
    show Steps p.tables e below (T4.setTop (mkF m 19 #[rv a0_, rv a1_, rv t0] [(.ref t0), (.ref t0)])) _
    refine Jvm.RoadKit.acmp (g := (mkF m 19 #[rv a0_, rv a1_, rv t0] [(.ref t0), (.ref t0)])) X4 hx rfl rfl rfl (pc0 := 19) (pc' := 57) (same := true) rfl (hb hby d16_19) rfl (decide_eq_true rfl) (by decide) (by decide) ?_
    show Steps p.tables e below (T4.setTop (mkF m 57 #[rv a0_, rv a1_, rv t0] [])) _
    refine XS.aloadN X4.here hx rfl (hb hby d16_57) rfl rfl ?_
    show Steps p.tables e below (T4.setTop (mkF m 58 #[rv a0_, rv a1_, rv t0] [(.ref a0_)])) _
    refine st5 _ ?_
    show Steps p.tables e below (T5.setTop (mkF m 61 #[rv a0_, rv a1_, rv t0] [(.int (4 : Int32))])) _
    refine XS.aloadN X5.here hx rfl (hb hby d16_61) rfl rfl ?_
    show Steps p.tables e below (T5.setTop (mkF m 62 #[rv a0_, rv a1_, rv t0] [(.ref a0_), (.int (4 : Int32))])) _
    refine st6 _ ?_
    show Steps p.tables e below (T6.setTop (mkF m 65 #[rv a0_, rv a1_, rv t0] [(.ref ar), (.int (4 : Int32))])) _
    refine X6.arraylength hx (by rw [e6]; exact Ar7.1) (State.isArrayOf_alike hZ.alike Ar7.2.1) (g := (mkF m 65 #[rv a0_, rv a1_, rv t0] [(.ref ar), (.int (4 : Int32))])) rfl rfl (hb hby d16_65) _ ?_
    rw [len_of Sa7 Na7]
    show Steps p.tables e below (T6.setTop (mkF m 66 #[rv a0_, rv a1_, rv t0] [(.int (4 : Int32)), (.int (4 : Int32))])) _
    refine XS.icmpNo X6.here hx rfl (hb hby d16_66) rfl (teq (by decide : (4 : Int32) = (4 : Int32))).2 ?_
    show Steps p.tables e below (T6.setTop (mkF m 69 #[rv a0_, rv a1_, rv t0] [])) _
    refine XS.aloadN X6.here hx rfl (hb hby d16_69) rfl rfl ?_
    show Steps p.tables e below (T6.setTop (mkF m 70 #[rv a0_, rv a1_, rv t0] [(.ref a0_)])) _
    refine XS.aloadN X6.here hx rfl (hb hby d16_70) rfl rfl ?_
    show Steps p.tables e below (T6.setTop (mkF m 71 #[rv a0_, rv a1_, rv t0] [(.ref a0_), (.ref a0_)])) _
    refine st8 _ ?_
    show Steps p.tables e below (T8.setTop (mkF m 74 #[rv a0_, rv a1_, rv t0] [(.ref ar), (.ref a0_)])) _
    refine XS.iconst X8.here hx rfl (hb hby d16_74) ?_
    show Steps p.tables e below (T8.setTop (mkF m 75 #[rv a0_, rv a1_, rv t0] [(.int (2 : Int32)), (.ref ar), (.ref a0_)])) _
    refine XS.aloadN X8.here hx rfl (hb hby d16_75) rfl rfl ?_
    show Steps p.tables e below (T8.setTop (mkF m 76 #[rv a0_, rv a1_, rv t0] [(.ref a0_), (.int (2 : Int32)), (.ref ar), (.ref a0_)])) _
    refine st9 _ ?_
    show Steps p.tables e below (T9.setTop (mkF m 79 #[rv a0_, rv a1_, rv t0] [(.int (4 : Int32)), (.int (2 : Int32)), (.ref ar), (.ref a0_)])) _
    refine XS.imul X9.here hx rfl (hb hby d16_79) rfl ?_
    show Steps p.tables e below (T9.setTop (mkF m 80 #[rv a0_, rv a1_, rv t0] [(.int (8 : Int32)), (.ref ar), (.ref a0_)])) _
    refine st10 _ ?_
    show Steps p.tables e below (T10.setTop (mkF m 83 #[rv a0_, rv a1_, rv t0] [(.ref nb10), (.ref a0_)])) _
    refine st18 _ ?_
    show Steps p.tables e below (T18.setTop (mkF m 86 #[rv a0_, rv a1_, rv t0] [])) _
    refine XS.aloadN X18.here hx rfl (hb hby d16_86) rfl rfl ?_
    show Steps p.tables e below (T18.setTop (mkF m 87 #[rv a0_, rv a1_, rv t0] [(.ref a0_)])) _
    refine st29 _ ?_
    show Steps p.tables e below (T29.setTop (mkF m 90 #[rv a0_, rv a1_, rv t0] [(.ref nb10)])) _
    refine XS.aloadN X29.here hx rfl (hb hby d16_90) rfl rfl ?_
    show Steps p.tables e below (T29.setTop (mkF m 91 #[rv a0_, rv a1_, rv t0] [(.ref a0_), (.ref nb10)])) _
    refine XS.dup X29.here hx rfl (hb hby d16_91) rfl rfl ?_
    show Steps p.tables e below (T29.setTop (mkF m 92 #[rv a0_, rv a1_, rv t0] [(.ref a0_), (.ref a0_), (.ref nb10)])) _
    refine st30 _ ?_
    show Steps p.tables e below (T30.setTop (mkF m 95 #[rv a0_, rv a1_, rv t0] [(.int (4 : Int32)), (.ref a0_), (.ref nb10)])) _
    refine XS.dupX1 X30.here hx rfl (hb hby d16_95) rfl rfl rfl ?_
    show Steps p.tables e below (T30.setTop (mkF m 96 #[rv a0_, rv a1_, rv t0] [(.int (4 : Int32)), (.ref a0_), (.int (4 : Int32)), (.ref nb10)])) _
    refine XS.iconst X30.here hx rfl (hb hby d16_96) ?_
    show Steps p.tables e below (T30.setTop (mkF m 97 #[rv a0_, rv a1_, rv t0] [(.int (1 : Int32)), (.int (4 : Int32)), (.ref a0_), (.int (4 : Int32)), (.ref nb10)])) _
    refine XS.iadd X30.here hx rfl (hb hby d16_97) rfl ?_
    show Steps p.tables e below (T30.setTop (mkF m 98 #[rv a0_, rv a1_, rv t0] [(.int (5 : Int32)), (.ref a0_), (.int (4 : Int32)), (.ref nb10)])) _
    refine st31 _ ?_
    show Steps p.tables e below (T31.setTop (mkF m 101 #[rv a0_, rv a1_, rv t0] [(.int (4 : Int32)), (.ref nb10)])) _
    refine XS.aloadN X31.here hx rfl (hb hby d16_101) rfl rfl ?_
    show Steps p.tables e below (T31.setTop (mkF m 102 #[rv a0_, rv a1_, rv t0] [(.ref a1_), (.int (4 : Int32)), (.ref nb10)])) _
    refine st42.trans ?_
    show Steps p.tables e below (T42.setTop (mkF m 105 #[rv a0_, rv a1_, rv t0] [(.int tm), (.int (4 : Int32)), (.ref nb10)])) _
    refine st44 _ ?_
    show Steps p.tables e below (T44.setTop (mkF m 106 #[rv a0_, rv a1_, rv t0] [])) _
    exact X44.returnOut hx Bd.returns (hb hby d16_106) hr
  · show QAdd4 Z a0_ a1_ t0 t1 t2 t3 d0 d1 d2 d3 oa oc tm h0 n0 _ T44.heap _
    rw [e44]
    exact ⟨rfl, N44, ⟨_, _, _, K44, gar, ArA⟩, ⟨f46, f47, nb10, _, _, geq10, ne_a0__nb10, f48, V44, by rw [List.length_set, hlq10]; try rfl⟩⟩
def QAdd5 (Z : State) (a0_ : Addr) (a1_ : Addr) (t0 t1 t2 t3 d0 d1 d2 d3 oa : Addr) (oc : Cell) (tm : Int32) (h0 : Heap) (n0 : Nat) (v : Option Value) (h : Heap) (L : List Loc) : Prop := v = none ∧ Fr n0 L ∧ (∃ (ar : Addr) (cl : Cell) (ty : FieldType), Keep h0 h [a0_, ar] ∧ n0 ≤ ar ∧ Arr Z h0 ar cl ty) ∧ own_ED Z h n0 a0_ (6 : Int32) (8 : Int32)
theorem ef_rmAdd5 (m : MethodId) (a0_ : Addr) (a1_ : Addr) : entryFrame m #[(.ref a0_), (.ref a1_)] 3 = mkF m 0 #[rv a0_, rv a1_, .unset] [] := by first | (simp [entryFrame, mkF, argsToLocals, Value.category]; done) | rfl
set_option maxRecDepth 65536 in
set_option maxHeartbeats 40000000 in
theorem rmAdd5 (l : Launch) (Z : State) (a0 : Array Value) (hw : ∀ d ∈ tables_1, d.before a0 Z = true) (ws : List Jvm.Cond) (a0_ : Addr) (a1_ : Addr) (t0 t1 t2 t3 d0 d1 d2 d3 oa : Addr) (oc : Cell) (tm : Int32) (h0 : Heap) (n0 : Nat) (Z0 : n0 ≤ h0.size) (hO : Old Z n0 h0) (hst : own_St Z t0 t1 t2 t3 d0 d1 d2 d3 oa oc) (B0 : own_ED Z h0 n0 a0_ (5 : Int32) (8 : Int32)) (g0 : n0 ≤ a0_) (nev : a0_ ≠ a1_) (E1 : Exa Z h0 a1_ "com/example/reroutine/reroutine/scenario/Event") (Fm : Fld Z h0 a1_ "com/example/reroutine/reroutine/scenario/Event" "time" "I" (.int tm)) (Ft : Fld Z h0 a1_ "com/example/reroutine/reroutine/scenario/Event" "type" "Lcom/example/reroutine/reroutine/scenario/EventType;" (.ref t1)) :
    MetFree l (⟨"com/example/reroutine/reroutine/replanning/ExecutedDay", "add", "(Lcom/example/reroutine/reroutine/scenario/Event;)V"⟩ : MethodName) (head1 (Jvm.Cond.code (⟨"com/example/reroutine/reroutine/replanning/ExecutedDay", "add", "(Lcom/example/reroutine/reroutine/scenario/Event;)V"⟩ : MethodName) prog_12_method_2_code 3 none :: ws) ({ frames := 1, cells := 0, slots := 0, locals := 16 } : Room)) (fun a U => a = #[(.ref a0_), (.ref a1_)] ∧ Z.Warmed39 U.vm ∧ U.heap = h0) (fun _ _ _ _ _ => True) (fun _ U o U' => ∃ v L, o = .returned v ∧ QAdd5 Z a0_ a1_ t0 t1 t2 t3 d0 d1 d2 d3 oa oc tm h0 n0 v U'.heap L ∧ FrameEnd U o U' L ({ frames := 1, cells := 0, slots := 0, locals := 16 } : Room).cells ({ frames := 1, cells := 0, slots := 0, locals := 16 } : Room).slots) := by
  refine MetFree.of_bodySF (plainFor_of_name pn_6) hisR ?_
  intro p e s m args below meth c s₁ Bd hml0 hP hK
  obtain ⟨rfl, hZ, hh⟩ := hP
  have hx := Bd.exec
  have hby := Bd.bytes
  have hml : c.maxLocals = 3 := hml0
  have hown : s.vm.findClass "com/example/reroutine/reroutine/replanning/ExecutedDay" = some m.cls := findClass_of_methodNamed Bd.named
  have hnm := (name_of_methodNamed Bd.named Bd.method).1
  have X0 : Stand p l e ({ frames := 1, cells := 0, slots := 0, locals := 16 } : Room) s m #[(.ref a0_), (.ref a1_)] below meth c s₁ [] 0 0 := Stand.of_body Bd
  have e0 : s₁.heap = h0 := by rw [← hh, Bd.state]; rfl
  have N0 := Fr.nil n0
  have S0 : ∀ t, Steps p.tables e below (s₁.setTop (mkF m 0 #[rv a0_, rv a1_, .unset] [])) t → Steps p.tables e below (s₁.setTop (entryFrame m #[(.ref a0_), (.ref a1_)] 3)) t := fun t k => castTop (ef_rmAdd5 m a0_ a1_) k
  obtain ⟨⟨hs0, hx0, hd0⟩, ⟨hs1, hx1, hd1⟩, ⟨hs2, hx2, hd2⟩, ⟨hs3, hx3, hd3⟩, hso, hao, hsz, hq0, hq1, hq2, hq3⟩ := id hst
  obtain ⟨oE, oS, ar, kk, vs, gar, nea, oF, V0, hlen⟩ := id B0
  obtain ⟨clA, ArA, -⟩ := id V0
  have K0 : Keep h0 h0 [a0_, ar] := Keep.refl _ _
  obtain ⟨T1, X1, e1, st1⟩ := getS2 X0 hx hZ hown (host := "") (Or.inl (hw _ (List.mem_of_getElem? (i := 34) rfl))) Via.refl e0 (hso.ext hO.2) (g := (mkF m 0 #[rv a0_, rv a1_, .unset] [])) rfl (hb hby d16_0)
  obtain ⟨T2, X2, e2, st2⟩ := getF X1 hx hZ hown (host := "") (Or.inl (hw _ (List.mem_of_getElem? (i := 102) rfl))) Via.refl e1 oS (g := (mkF m 4 #[rv a0_, rv a1_, .unset] [(.ref a0_), (.ref oa)])) rfl rfl (hb hby d16_4)
  obtain ⟨T3, X3, e3, st3⟩ := getS2 X2 hx hZ hown (host := "") (Or.inl (hw _ (List.mem_of_getElem? (i := 34) rfl))) Via.refl e2 (hso.ext hO.2) (g := (mkF m 7 #[rv a0_, rv a1_, .unset] [(.int (5 : Int32)), (.ref oa)])) rfl (hb hby d16_7)
  obtain ⟨cq4, kq4, q4a, q4b, q4c⟩ := isOf hZ e3 E1
  obtain ⟨_, _, ⟨T4, L4, k4, n4⟩, -, X4, ⟨Lc4, hQ4, l4, y4, z4⟩, st4⟩ := X3.virtualBack hx (y := (⟨"com/example/reroutine/reroutine/scenario/Event", "type", "()Lcom/example/reroutine/reroutine/scenario/EventType;"⟩ : MethodName)) (z := (⟨"com/example/reroutine/reroutine/scenario/Event", "type", "()Lcom/example/reroutine/reroutine/scenario/EventType;"⟩ : MethodName)) hown (mvT hZ (hw _ (List.mem_of_getElem? (i := 109) rfl))) (mvT hZ (hw _ (List.mem_of_getElem? (i := 110) rfl))) (notFace_of_selects (args := #[]) (mvT hZ (hw _ (List.mem_of_getElem? (i := 112) rfl)))) (mvT hZ (hw _ (List.mem_of_getElem? (i := 112) rfl))) (mvT hZ (hw _ (List.mem_of_getElem? (i := 111) rfl))) (by decide) (backOf (W := 0) (rmGtype l Z a0 hw [] a1_ t1 h0 n0 Z0 Ft) hZ (hw _ (List.mem_of_getElem? (i := 113) rfl)) (hw _ (List.mem_of_getElem? (i := 48) rfl)) (by decide) (by decide)) q4a q4c (g := (mkF m 15 #[rv a0_, rv a1_, rv t1] [(.ref a1_)])) rfl (by rw [hml]; rfl) (Steps.refl _) (argsL := []) (rest := []) (lenOf pd_8 rfl) rfl (by show 2 * 0 + _ ≤ _; exact Nat.le_of_eq rfl) (hb hby d16_15) (fun _ _ => ⟨rfl, e3, (by decide : 0 + 0 ≤ _), (by decide : 0 + 0 ≤ _)⟩)
  dsimp only [Pt.U, Pt.locs, Pt.cells, Pt.slots] at X4 l4 y4 z4 st4 hQ4
  subst y4 z4
  obtain ⟨rfl, Nq4, eq4⟩ := hQ4
  have N4 : Fr n0 L4 := by rw [l4]; exact Fr.app N0 Nq4
  obtain ⟨T5, X5, e5, st5⟩ := getF X4 hx hZ hown (host := "") (Or.inl (hw _ (List.mem_of_getElem? (i := 102) rfl))) Via.refl eq4 oS (g := (mkF m 58 #[rv a0_, rv a1_, rv t1] [(.ref a0_)])) rfl rfl (hb hby d16_58)
  obtain ⟨T6, X6, e6, st6⟩ := getF X5 hx hZ hown (host := "") (Or.inl (hw _ (List.mem_of_getElem? (i := 37) rfl))) Via.refl e5 oF (g := (mkF m 62 #[rv a0_, rv a1_, rv t1] [(.ref a0_), (.int (5 : Int32))])) rfl rfl (hb hby d16_62)
  obtain ⟨cl7, Ar7, qa7, Sa7, Na7, Ha7, Ga7⟩ := id V0
  obtain ⟨T8, X8, e8, st8⟩ := getF X6 hx hZ hown (host := "") (Or.inl (hw _ (List.mem_of_getElem? (i := 37) rfl))) Via.refl e6 oF (g := (mkF m 87 #[rv a0_, rv a1_, rv t1] [(.ref a0_)])) rfl rfl (hb hby d16_87)
  obtain ⟨T9, X9, e9, st9⟩ := getF X8 hx hZ hown (host := "") (Or.inl (hw _ (List.mem_of_getElem? (i := 102) rfl))) Via.refl e8 oS (g := (mkF m 92 #[rv a0_, rv a1_, rv t1] [(.ref a0_), (.ref a0_), (.ref ar)])) rfl rfl (hb hby d16_92)
  obtain ⟨T10, h10, X10, e10, W10, st10⟩ := putF X9 hx hZ hown (host := "") (Or.inl (hw _ (List.mem_of_getElem? (i := 102) rfl))) Via.refl e9 oS oE (Or.inl (hw _ (List.mem_of_getElem? (i := 103) rfl))) (hw _ (List.mem_of_getElem? (i := 28) rfl)) (ty := .int) (by decide) rfl rfl (g := (mkF m 98 #[rv a0_, rv a1_, rv t1] [(.int (6 : Int32)), (.ref a0_), (.int (5 : Int32)), (.ref ar)])) rfl rfl (hb hby d16_98)
  have Fw10 := oS.same W10
  have f11 := oF.other W10 (Or.inr (slot_ne (Or.inl (hw _ (List.mem_of_getElem? (i := 38) rfl))) (Or.inl (hw _ (List.mem_of_getElem? (i := 103) rfl))) (by decide) (t := (.array .int)) (t' := .int) (by decide) (by decide)))
  have f12 := oE.wr W10
  have Od13 := hO.wr W10 g0
  have f17 := V0.other W10 (Ne.symm nea)
  have f18 := E1.wr W10
  have f19 := Fm.other W10 (Or.inl (Ne.symm nev))
  have f20 := Ft.other W10 (Or.inl (Ne.symm nev))
  have N10 := Fr.snoc X10 N4 g0
  have Z10 : n0 ≤ h10.size := Nat.le_trans Z0 (Keep.of_wr W10).1
  have K10 : Keep h0 h10 [a0_, ar] := K0.wr W10 (Or.inl (List.mem_of_getElem? (i := 0) rfl))
  obtain ⟨cq21, kq21, q21a, q21b, q21c⟩ := isOf hZ e10 f18
  obtain ⟨_, _, ⟨T21, L21, k21, n21⟩, -, X21, ⟨Lc21, hQ21, l21, y21, z21⟩, st21⟩ := X10.virtualBack hx (y := (⟨"com/example/reroutine/reroutine/scenario/Event", "time", "()I"⟩ : MethodName)) (z := (⟨"com/example/reroutine/reroutine/scenario/Event", "time", "()I"⟩ : MethodName)) hown (mvT hZ (hw _ (List.mem_of_getElem? (i := 114) rfl))) (mvT hZ (hw _ (List.mem_of_getElem? (i := 115) rfl))) (notFace_of_selects (args := #[]) (mvT hZ (hw _ (List.mem_of_getElem? (i := 117) rfl)))) (mvT hZ (hw _ (List.mem_of_getElem? (i := 117) rfl))) (mvT hZ (hw _ (List.mem_of_getElem? (i := 116) rfl))) (by decide) (backOf (W := 2) (rmGtime l Z a0 hw [] a1_ tm h10 n0 Z10 f19) hZ (hw _ (List.mem_of_getElem? (i := 118) rfl)) (hw _ (List.mem_of_getElem? (i := 48) rfl)) (by decide) (by decide)) q21a q21c (g := (mkF m 102 #[rv a0_, rv a1_, rv t1] [(.ref a1_), (.int (5 : Int32)), (.ref ar)])) rfl (by rw [hml]; rfl) (Steps.refl _) (argsL := []) (rest := [(.int (5 : Int32)), (.ref ar)]) (lenOf pd_9 rfl) rfl (by show 2 * 0 + _ ≤ _; exact Nat.le_of_eq rfl) (hb hby d16_102) (fun _ _ => ⟨rfl, e10, (by decide : 0 + 0 ≤ _), (by decide : 0 + 0 ≤ _)⟩)
  dsimp only [Pt.U, Pt.locs, Pt.cells, Pt.slots] at X21 l21 y21 z21 st21 hQ21
  subst y21 z21
  obtain ⟨rfl, Nq21, eq21⟩ := hQ21
  have N21 : Fr n0 L21 := by rw [l21]; exact Fr.app N10 Nq21
  obtain ⟨cl22, Ar22, qa22, Sa22, Na22, Ha22, Ga22⟩ := id f17
  have hin22 : ¬ ((5 : Int32) < 0 ∨ cl22.slots.size ≤ ((5 : Int32)).toNatClampNeg) := inb_of Sa22 ⟨by decide, by decide⟩
  obtain ⟨T23, h23, X23, e23, W23, st23⟩ := stI X21 hx hZ eq21 Ar22 (j := (5 : Int32)) hin22 (g := (mkF m 105 #[rv a0_, rv a1_, rv t1] [(.int tm), (.int (5 : Int32)), (.ref ar)])) rfl rfl (hb hby d16_105)
  have V23 := Arv.set Ar22 qa22 Sa22 Na22 Ha22 Ga22 rfl W23 5 rfl (by rw [hlen]; decide)
  have N23 := Fr.snoc X23 N21 gar
  have Z23 : n0 ≤ h23.size := Nat.le_trans Z10 (Keep.of_wr W23).1
  have Od24 := Od13.wr W23 gar
  have f25 := f12.wr W23
  have f26 := Fw10.other W23 (Or.inl nea)
  have f27 := f11.other W23 (Or.inl nea)
  have K23 : Keep h0 h23 [a0_, ar] := K10.wr W23 (Or.inl (List.mem_of_getElem? (i := 1) rfl))
  obtain ⟨fs, hr, hrun, hended, hW, hsame⟩ := X23.leave (v := none) (fun _ => rfl)
  refine ⟨_, _, S0 _ ?_, hrun, hended, _, _, rfl, ?_, ⟨_, rfl⟩, hW, hsame.mono (by decide) (by decide)⟩
  · skip
    show Steps p.tables e below (s₁.setTop (mkF m 0 #[rv a0_, rv a1_, .unset] [])) _
    refine st1 _ ?_
    show Steps p.tables e below (T1.setTop (mkF m 3 #[rv a0_, rv a1_, .unset] [(.ref oa)])) _
    refine XS.aloadN X1.here hx rfl (hb hby d16_3) rfl rfl ?_
    show Steps p.tables e below (T1.setTop (mkF m 4 #[rv a0_, rv a1_, .unset] [(.ref a0_), (.ref oa)])) _
    refine st2 _ ?_
    show Steps p.tables e below (T2.setTop (mkF m 7 #[rv a0_, rv a1_, .unset] [(.int (5 : Int32)), (.ref oa)])) _
    refine st3 _ ?_
    show Steps p.tables e below (T3.setTop (mkF m 10 #[rv a0_, rv a1_, .unset] [(.ref oa), (.int (5 : Int32)), (.ref oa)])) _
    refine X3.arraylength hx (by rw [e3]; exact (hao.ext hO.2).1) (State.isArrayOf_alike hZ.alike hao.2.1) (g := (mkF m 10 #[rv a0_, rv a1_, .unset] [(.ref oa), (.int (5 : Int32)), (.ref oa)])) rfl rfl (hb hby d16_10) _ ?_
    rw [len_of hsz (by decide)]
    show Steps p.tables e below (T3.setTop (mkF m 11 #[rv a0_, rv a1_, .unset] [(.int (4 : Int32)), (.int (5 : Int32)), (.ref oa)])) _
    refine iremM X3 hx rfl (hb hby d16_11) rfl (by decide) ?_
    show Steps p.tables e below (T3.setTop (mkF m 12 #[rv a0_, rv a1_, .unset] [(.int (1 : Int32)), (.ref oa)])) _
    refine X3.aaload hx (j := (1 : Int32)) (v := (.ref t1)) (by rw [e3]; exact (hao.ext hO.2).1) (State.isArrayOf_alike hZ.alike hao.2.1) rfl hao.2.2 (inb_of hsz ⟨by decide, by decide⟩) hq1 (g := (mkF m 12 #[rv a0_, rv a1_, .unset] [(.int (1 : Int32)), (.ref oa)])) rfl rfl (hb hby d16_12) _ ?_
    show Steps p.tables e below (T3.setTop (mkF m 13 #[rv a0_, rv a1_, .unset] [(.ref t1)])) _
    refine XS.astoreN X3.here hx rfl (hb hby d16_13) rfl rfl (l' := #[rv a0_, rv a1_, rv t1]) rfl ?_
    show Steps p.tables e below (T3.setTop (mkF m 14 #[rv a0_, rv a1_, rv t1] [])) _
    refine XS.aloadN X3.here hx rfl (hb hby d16_14) rfl rfl ?_
    show Steps p.tables e below (T3.setTop (mkF m 15 #[rv a0_, rv a1_, rv t1] [(.ref a1_)])) _
    refine st4.trans ?_
    show Steps p.tables e below (T4.setTop (mkF m 18 #[rv a0_, rv a1_, rv t1] [(.ref t1)])) _
    refine XS.aloadN X4.here hx rfl (hb hby d16_18) rfl rfl ?_
    show Steps p.tables e below (T4.setTop (mkF m 19 #[rv a0_, rv a1_, rv t1] [(.ref t1), (.ref t1)])) _
    refine Jvm.RoadKit.acmp (g := (mkF m 19 #[rv a0_, rv a1_, rv t1] [(.ref t1), (.ref t1)])) X4 hx rfl rfl rfl (pc0 := 19) (pc' := 57) (same := true) rfl (hb hby d16_19) rfl (decide_eq_true rfl) (by decide) (by decide) ?_
    show Steps p.tables e below (T4.setTop (mkF m 57 #[rv a0_, rv a1_, rv t1] [])) _
    refine XS.aloadN X4.here hx rfl (hb hby d16_57) rfl rfl ?_
    show Steps p.tables e below (T4.setTop (mkF m 58 #[rv a0_, rv a1_, rv t1] [(.ref a0_)])) _
    refine st5 _ ?_
    show Steps p.tables e below (T5.setTop (mkF m 61 #[rv a0_, rv a1_, rv t1] [(.int (5 : Int32))])) _
    refine XS.aloadN X5.here hx rfl (hb hby d16_61) rfl rfl ?_
    show Steps p.tables e below (T5.setTop (mkF m 62 #[rv a0_, rv a1_, rv t1] [(.ref a0_), (.int (5 : Int32))])) _
    refine st6 _ ?_
    show Steps p.tables e below (T6.setTop (mkF m 65 #[rv a0_, rv a1_, rv t1] [(.ref ar), (.int (5 : Int32))])) _
    refine X6.arraylength hx (by rw [e6]; exact Ar7.1) (State.isArrayOf_alike hZ.alike Ar7.2.1) (g := (mkF m 65 #[rv a0_, rv a1_, rv t1] [(.ref ar), (.int (5 : Int32))])) rfl rfl (hb hby d16_65) _ ?_
    rw [len_of Sa7 Na7]
    show Steps p.tables e below (T6.setTop (mkF m 66 #[rv a0_, rv a1_, rv t1] [(.int (8 : Int32)), (.int (5 : Int32))])) _
    refine XS.icmpYes X6.here hx rfl (pc0 := 66) (pc' := 86) rfl (hb hby d16_66) rfl (feq (by decide : ¬ ((5 : Int32) = (8 : Int32)))).2 (by decide) (by decide) ?_
    show Steps p.tables e below (T6.setTop (mkF m 86 #[rv a0_, rv a1_, rv t1] [])) _
    refine XS.aloadN X6.here hx rfl (hb hby d16_86) rfl rfl ?_
    show Steps p.tables e below (T6.setTop (mkF m 87 #[rv a0_, rv a1_, rv t1] [(.ref a0_)])) _
    refine st8 _ ?_
    show Steps p.tables e below (T8.setTop (mkF m 90 #[rv a0_, rv a1_, rv t1] [(.ref ar)])) _
    refine XS.aloadN X8.here hx rfl (hb hby d16_90) rfl rfl ?_
    show Steps p.tables e below (T8.setTop (mkF m 91 #[rv a0_, rv a1_, rv t1] [(.ref a0_), (.ref ar)])) _
    refine XS.dup X8.here hx rfl (hb hby d16_91) rfl rfl ?_
    show Steps p.tables e below (T8.setTop (mkF m 92 #[rv a0_, rv a1_, rv t1] [(.ref a0_), (.ref a0_), (.ref ar)])) _
    refine st9 _ ?_
    show Steps p.tables e below (T9.setTop (mkF m 95 #[rv a0_, rv a1_, rv t1] [(.int (5 : Int32)), (.ref a0_), (.ref ar)])) _
    refine XS.dupX1 X9.here hx rfl (hb hby d16_95) rfl rfl rfl ?_
    show Steps p.tables e below (T9.setTop (mkF m 96 #[rv a0_, rv a1_, rv t1] [(.int (5 : Int32)), (.ref a0_), (.int (5 : Int32)), (.ref ar)])) _
    refine XS.iconst X9.here hx rfl (hb hby d16_96) ?_
    show Steps p.tables e below (T9.setTop (mkF m 97 #[rv a0_, rv a1_, rv t1] [(.int (1 : Int32)), (.int (5 : Int32)), (.ref a0_), (.int (5 : Int32)), (.ref ar)])) _
    refine XS.iadd X9.here hx rfl (hb hby d16_97) rfl ?_
    show Steps p.tables e below (T9.setTop (mkF m 98 #[rv a0_, rv a1_, rv t1] [(.int (6 : Int32)), (.ref a0_), (.int (5 : Int32)), (.ref ar)])) _
    refine st10 _ ?_
    show Steps p.tables e below (T10.setTop (mkF m 101 #[rv a0_, rv a1_, rv t1] [(.int (5 : Int32)), (.ref ar)])) _
    refine XS.aloadN X10.here hx rfl (hb hby d16_101) rfl rfl ?_
    show Steps p.tables e below (T10.setTop (mkF m 102 #[rv a0_, rv a1_, rv t1] [(.ref a1_), (.int (5 : Int32)), (.ref ar)])) _
    refine st21.trans ?_
    show Steps p.tables e below (T21.setTop (mkF m 105 #[rv a0_, rv a1_, rv t1] [(.int tm), (.int (5 : Int32)), (.ref ar)])) _
    refine st23 _ ?_
    show Steps p.tables e below (T23.setTop (mkF m 106 #[rv a0_, rv a1_, rv t1] [])) _
    exact X23.returnOut hx Bd.returns (hb hby d16_106) hr
  · show QAdd5 Z a0_ a1_ t0 t1 t2 t3 d0 d1 d2 d3 oa oc tm h0 n0 _ T23.heap _
    rw [e23]
    exact ⟨rfl, N23, ⟨_, _, _, K23, gar, ArA⟩, ⟨f25, f26, ar, _, _, gar, nea, f27, V23, by rw [List.length_set, hlen]; try rfl⟩⟩
def QAdd6 (Z : State) (a0_ : Addr) (a1_ : Addr) (t0 t1 t2 t3 d0 d1 d2 d3 oa : Addr) (oc : Cell) (tm : Int32) (h0 : Heap) (n0 : Nat) (v : Option Value) (h : Heap) (L : List Loc) : Prop := v = none ∧ Fr n0 L ∧ (∃ (ar : Addr) (cl : Cell) (ty : FieldType), Keep h0 h [a0_, ar] ∧ n0 ≤ ar ∧ Arr Z h0 ar cl ty) ∧ own_ED Z h n0 a0_ (7 : Int32) (8 : Int32)
theorem ef_rmAdd6 (m : MethodId) (a0_ : Addr) (a1_ : Addr) : entryFrame m #[(.ref a0_), (.ref a1_)] 3 = mkF m 0 #[rv a0_, rv a1_, .unset] [] := by first | (simp [entryFrame, mkF, argsToLocals, Value.category]; done) | rfl
set_option maxRecDepth 65536 in
set_option maxHeartbeats 40000000 in
theorem rmAdd6 (l : Launch) (Z : State) (a0 : Array Value) (hw : ∀ d ∈ tables_1, d.before a0 Z = true) (ws : List Jvm.Cond) (a0_ : Addr) (a1_ : Addr) (t0 t1 t2 t3 d0 d1 d2 d3 oa : Addr) (oc : Cell) (tm : Int32) (h0 : Heap) (n0 : Nat) (Z0 : n0 ≤ h0.size) (hO : Old Z n0 h0) (hst : own_St Z t0 t1 t2 t3 d0 d1 d2 d3 oa oc) (B0 : own_ED Z h0 n0 a0_ (6 : Int32) (8 : Int32)) (g0 : n0 ≤ a0_) (nev : a0_ ≠ a1_) (E1 : Exa Z h0 a1_ "com/example/reroutine/reroutine/scenario/Event") (Fm : Fld Z h0 a1_ "com/example/reroutine/reroutine/scenario/Event" "time" "I" (.int tm)) (Ft : Fld Z h0 a1_ "com/example/reroutine/reroutine/scenario/Event" "type" "Lcom/example/reroutine/reroutine/scenario/EventType;" (.ref t2)) :
    MetFree l (⟨"com/example/reroutine/reroutine/replanning/ExecutedDay", "add", "(Lcom/example/reroutine/reroutine/scenario/Event;)V"⟩ : MethodName) (head1 (Jvm.Cond.code (⟨"com/example/reroutine/reroutine/replanning/ExecutedDay", "add", "(Lcom/example/reroutine/reroutine/scenario/Event;)V"⟩ : MethodName) prog_12_method_2_code 3 none :: ws) ({ frames := 1, cells := 0, slots := 0, locals := 16 } : Room)) (fun a U => a = #[(.ref a0_), (.ref a1_)] ∧ Z.Warmed39 U.vm ∧ U.heap = h0) (fun _ _ _ _ _ => True) (fun _ U o U' => ∃ v L, o = .returned v ∧ QAdd6 Z a0_ a1_ t0 t1 t2 t3 d0 d1 d2 d3 oa oc tm h0 n0 v U'.heap L ∧ FrameEnd U o U' L ({ frames := 1, cells := 0, slots := 0, locals := 16 } : Room).cells ({ frames := 1, cells := 0, slots := 0, locals := 16 } : Room).slots) := by
  refine MetFree.of_bodySF (plainFor_of_name pn_6) hisR ?_
  intro p e s m args below meth c s₁ Bd hml0 hP hK
  obtain ⟨rfl, hZ, hh⟩ := hP
  have hx := Bd.exec
  have hby := Bd.bytes
  have hml : c.maxLocals = 3 := hml0
  have hown : s.vm.findClass "com/example/reroutine/reroutine/replanning/ExecutedDay" = some m.cls := findClass_of_methodNamed Bd.named
  have hnm := (name_of_methodNamed Bd.named Bd.method).1
  have X0 : Stand p l e ({ frames := 1, cells := 0, slots := 0, locals := 16 } : Room) s m #[(.ref a0_), (.ref a1_)] below meth c s₁ [] 0 0 := Stand.of_body Bd
  have e0 : s₁.heap = h0 := by rw [← hh, Bd.state]; rfl
  have N0 := Fr.nil n0
  have S0 : ∀ t, Steps p.tables e below (s₁.setTop (mkF m 0 #[rv a0_, rv a1_, .unset] [])) t → Steps p.tables e below (s₁.setTop (entryFrame m #[(.ref a0_), (.ref a1_)] 3)) t := fun t k => castTop (ef_rmAdd6 m a0_ a1_) k
  obtain ⟨⟨hs0, hx0, hd0⟩, ⟨hs1, hx1, hd1⟩, ⟨hs2, hx2, hd2⟩, ⟨hs3, hx3, hd3⟩, hso, hao, hsz, hq0, hq1, hq2, hq3⟩ := id hst
  obtain ⟨oE, oS, ar, kk, vs, gar, nea, oF, V0, hlen⟩ := id B0
  obtain ⟨clA, ArA, -⟩ := id V0
  have K0 : Keep h0 h0 [a0_, ar] := Keep.refl _ _
  obtain ⟨T1, X1, e1, st1⟩ := getS2 X0 hx hZ hown (host := "") (Or.inl (hw _ (List.mem_of_getElem? (i := 34) rfl))) Via.refl e0 (hso.ext hO.2) (g := (mkF m 0 #[rv a0_, rv a1_, .unset] [])) rfl (hb hby d16_0)
  obtain ⟨T2, X2, e2, st2⟩ := getF X1 hx hZ hown (host := "") (Or.inl (hw _ (List.mem_of_getElem? (i := 102) rfl))) Via.refl e1 oS (g := (mkF m 4 #[rv a0_, rv a1_, .unset] [(.ref a0_), (.ref oa)])) rfl rfl (hb hby d16_4)
  obtain ⟨T3, X3, e3, st3⟩ := getS2 X2 hx hZ hown (host := "") (Or.inl (hw _ (List.mem_of_getElem? (i := 34) rfl))) Via.refl e2 (hso.ext hO.2) (g := (mkF m 7 #[rv a0_, rv a1_, .unset] [(.int (6 : Int32)), (.ref oa)])) rfl (hb hby d16_7)
  obtain ⟨cq4, kq4, q4a, q4b, q4c⟩ := isOf hZ e3 E1
  obtain ⟨_, _, ⟨T4, L4, k4, n4⟩, -, X4, ⟨Lc4, hQ4, l4, y4, z4⟩, st4⟩ := X3.virtualBack hx (y := (⟨"com/example/reroutine/reroutine/scenario/Event", "type", "()Lcom/example/reroutine/reroutine/scenario/EventType;"⟩ : MethodName)) (z := (⟨"com/example/reroutine/reroutine/scenario/Event", "type", "()Lcom/example/reroutine/reroutine/scenario/EventType;"⟩ : MethodName)) hown (mvT hZ (hw _ (List.mem_of_getElem? (i := 109) rfl))) (mvT hZ (hw _ (List.mem_of_getElem? (i := 110) rfl))) (notFace_of_selects (args := #[]) (mvT hZ (hw _ (List.mem_of_getElem? (i := 112) rfl)))) (mvT hZ (hw _ (List.mem_of_getElem? (i := 112) rfl))) (mvT hZ (hw _ (List.mem_of_getElem? (i := 111) rfl))) (by decide) (backOf (W := 0) (rmGtype l Z a0 hw [] a1_ t2 h0 n0 Z0 Ft) hZ (hw _ (List.mem_of_getElem? (i := 113) rfl)) (hw _ (List.mem_of_getElem? (i := 48) rfl)) (by decide) (by decide)) q4a q4c (g := (mkF m 15 #[rv a0_, rv a1_, rv t2] [(.ref a1_)])) rfl (by rw [hml]; rfl) (Steps.refl _) (argsL := []) (rest := []) (lenOf pd_8 rfl) rfl (by show 2 * 0 + _ ≤ _; exact Nat.le_of_eq rfl) (hb hby d16_15) (fun _ _ => ⟨rfl, e3, (by decide : 0 + 0 ≤ _), (by decide : 0 + 0 ≤ _)⟩)
  dsimp only [Pt.U, Pt.locs, Pt.cells, Pt.slots] at X4 l4 y4 z4 st4 hQ4
  subst y4 z4
  obtain ⟨rfl, Nq4, eq4⟩ := hQ4
  have N4 : Fr n0 L4 := by rw [l4]; exact Fr.app N0 Nq4
  obtain ⟨T5, X5, e5, st5⟩ := getF X4 hx hZ hown (host := "") (Or.inl (hw _ (List.mem_of_getElem? (i := 102) rfl))) Via.refl eq4 oS (g := (mkF m 58 #[rv a0_, rv a1_, rv t2] [(.ref a0_)])) rfl rfl (hb hby d16_58)
  obtain ⟨T6, X6, e6, st6⟩ := getF X5 hx hZ hown (host := "") (Or.inl (hw _ (List.mem_of_getElem? (i := 37) rfl))) Via.refl e5 oF (g := (mkF m 62 #[rv a0_, rv a1_, rv t2] [(.ref a0_), (.int (6 : Int32))])) rfl rfl (hb hby d16_62)
  obtain ⟨cl7, Ar7, qa7, Sa7, Na7, Ha7, Ga7⟩ := id V0
  obtain ⟨T8, X8, e8, st8⟩ := getF X6 hx hZ hown (host := "") (Or.inl (hw _ (List.mem_of_getElem? (i := 37) rfl))) Via.refl e6 oF (g := (mkF m 87 #[rv a0_, rv a1_, rv t2] [(.ref a0_)])) rfl rfl (hb hby d16_87)
  obtain ⟨T9, X9, e9, st9⟩ := getF X8 hx hZ hown (host := "") (Or.inl (hw _ (List.mem_of_getElem? (i := 102) rfl))) Via.refl e8 oS (g := (mkF m 92 #[rv a0_, rv a1_, rv t2] [(.ref a0_), (.ref a0_), (.ref ar)])) rfl rfl (hb hby d16_92)
  obtain ⟨T10, h10, X10, e10, W10, st10⟩ := putF X9 hx hZ hown (host := "") (Or.inl (hw _ (List.mem_of_getElem? (i := 102) rfl))) Via.refl e9 oS oE (Or.inl (hw _ (List.mem_of_getElem? (i := 103) rfl))) (hw _ (List.mem_of_getElem? (i := 28) rfl)) (ty := .int) (by decide) rfl rfl (g := (mkF m 98 #[rv a0_, rv a1_, rv t2] [(.int (7 : Int32)), (.ref a0_), (.int (6 : Int32)), (.ref ar)])) rfl rfl (hb hby d16_98)
  have Fw10 := oS.same W10
  have f11 := oF.other W10 (Or.inr (slot_ne (Or.inl (hw _ (List.mem_of_getElem? (i := 38) rfl))) (Or.inl (hw _ (List.mem_of_getElem? (i := 103) rfl))) (by decide) (t := (.array .int)) (t' := .int) (by decide) (by decide)))
  have f12 := oE.wr W10
  have Od13 := hO.wr W10 g0
  have f17 := V0.other W10 (Ne.symm nea)
  have f18 := E1.wr W10
  have f19 := Fm.other W10 (Or.inl (Ne.symm nev))
  have f20 := Ft.other W10 (Or.inl (Ne.symm nev))
  have N10 := Fr.snoc X10 N4 g0
  have Z10 : n0 ≤ h10.size := Nat.le_trans Z0 (Keep.of_wr W10).1
  have K10 : Keep h0 h10 [a0_, ar] := K0.wr W10 (Or.inl (List.mem_of_getElem? (i := 0) rfl))
  obtain ⟨cq21, kq21, q21a, q21b, q21c⟩ := isOf hZ e10 f18
  obtain ⟨_, _, ⟨T21, L21, k21, n21⟩, -, X21, ⟨Lc21, hQ21, l21, y21, z21⟩, st21⟩ := X10.virtualBack hx (y := (⟨"com/example/reroutine/reroutine/scenario/Event", "time", "()I"⟩ : MethodName)) (z := (⟨"com/example/reroutine/reroutine/scenario/Event", "time", "()I"⟩ : MethodName)) hown (mvT hZ (hw _ (List.mem_of_getElem? (i := 114) rfl))) (mvT hZ (hw _ (List.mem_of_getElem? (i := 115) rfl))) (notFace_of_selects (args := #[]) (mvT hZ (hw _ (List.mem_of_getElem? (i := 117) rfl)))) (mvT hZ (hw _ (List.mem_of_getElem? (i := 117) rfl))) (mvT hZ (hw _ (List.mem_of_getElem? (i := 116) rfl))) (by decide) (backOf (W := 2) (rmGtime l Z a0 hw [] a1_ tm h10 n0 Z10 f19) hZ (hw _ (List.mem_of_getElem? (i := 118) rfl)) (hw _ (List.mem_of_getElem? (i := 48) rfl)) (by decide) (by decide)) q21a q21c (g := (mkF m 102 #[rv a0_, rv a1_, rv t2] [(.ref a1_), (.int (6 : Int32)), (.ref ar)])) rfl (by rw [hml]; rfl) (Steps.refl _) (argsL := []) (rest := [(.int (6 : Int32)), (.ref ar)]) (lenOf pd_9 rfl) rfl (by show 2 * 0 + _ ≤ _; exact Nat.le_of_eq rfl) (hb hby d16_102) (fun _ _ => ⟨rfl, e10, (by decide : 0 + 0 ≤ _), (by decide : 0 + 0 ≤ _)⟩)
  dsimp only [Pt.U, Pt.locs, Pt.cells, Pt.slots] at X21 l21 y21 z21 st21 hQ21
  subst y21 z21
  obtain ⟨rfl, Nq21, eq21⟩ := hQ21
  have N21 : Fr n0 L21 := by rw [l21]; exact Fr.app N10 Nq21
  obtain ⟨cl22, Ar22, qa22, Sa22, Na22, Ha22, Ga22⟩ := id f17
  have hin22 : ¬ ((6 : Int32) < 0 ∨ cl22.slots.size ≤ ((6 : Int32)).toNatClampNeg) := inb_of Sa22 ⟨by decide, by decide⟩
  obtain ⟨T23, h23, X23, e23, W23, st23⟩ := stI X21 hx hZ eq21 Ar22 (j := (6 : Int32)) hin22 (g := (mkF m 105 #[rv a0_, rv a1_, rv t2] [(.int tm), (.int (6 : Int32)), (.ref ar)])) rfl rfl (hb hby d16_105)
  have V23 := Arv.set Ar22 qa22 Sa22 Na22 Ha22 Ga22 rfl W23 6 rfl (by rw [hlen]; decide)
  have N23 := Fr.snoc X23 N21 gar
  have Z23 : n0 ≤ h23.size := Nat.le_trans Z10 (Keep.of_wr W23).1
  have Od24 := Od13.wr W23 gar
  have f25 := f12.wr W23
  have f26 := Fw10.other W23 (Or.inl nea)
  have f27 := f11.other W23 (Or.inl nea)
  have K23 : Keep h0 h23 [a0_, ar] := K10.wr W23 (Or.inl (List.mem_of_getElem? (i := 1) rfl))
  obtain ⟨fs, hr, hrun, hended, hW, hsame⟩ := X23.leave (v := none) (fun _ => rfl)
  refine ⟨_, _, S0 _ ?_, hrun, hended, _, _, rfl, ?_, ⟨_, rfl⟩, hW, hsame.mono (by decide) (by decide)⟩
  · skip
    show Steps p.tables e below (s₁.setTop (mkF m 0 #[rv a0_, rv a1_, .unset] [])) _
    refine st1 _ ?_
    show Steps p.tables e below (T1.setTop (mkF m 3 #[rv a0_, rv a1_, .unset] [(.ref oa)])) _
    refine XS.aloadN X1.here hx rfl (hb hby d16_3) rfl rfl ?_
    show Steps p.tables e below (T1.setTop (mkF m 4 #[rv a0_, rv a1_, .unset] [(.ref a0_), (.ref oa)])) _
    refine st2 _ ?_
    show Steps p.tables e below (T2.setTop (mkF m 7 #[rv a0_, rv a1_, .unset] [(.int (6 : Int32)), (.ref oa)])) _
    refine st3 _ ?_
    show Steps p.tables e below (T3.setTop (mkF m 10 #[rv a0_, rv a1_, .unset] [(.ref oa), (.int (6 : Int32)), (.ref oa)])) _
    refine X3.arraylength hx (by rw [e3]; exact (hao.ext hO.2).1) (State.isArrayOf_alike hZ.alike hao.2.1) (g := (mkF m 10 #[rv a0_, rv a1_, .unset] [(.ref oa), (.int (6 : Int32)), (.ref oa)])) rfl rfl (hb hby d16_10) _ ?_
    rw [len_of hsz (by decide)]
    show Steps p.tables e below (T3.setTop (mkF m 11 #[rv a0_, rv a1_, .unset] [(.int (4 : Int32)), (.int (6 : Int32)), (.ref oa)])) _
    refine iremM X3 hx rfl (hb hby d16_11) rfl (by decide) ?_
    show Steps p.tables e below (T3.setTop (mkF m 12 #[rv a0_, rv a1_, .unset] [(.int (2 : Int32)), (.ref oa)])) _
    refine X3.aaload hx (j := (2 : Int32)) (v := (.ref t2)) (by rw [e3]; exact (hao.ext hO.2).1) (State.isArrayOf_alike hZ.alike hao.2.1) rfl hao.2.2 (inb_of hsz ⟨by decide, by decide⟩) hq2 (g := (mkF m 12 #[rv a0_, rv a1_, .unset] [(.int (2 : Int32)), (.ref oa)])) rfl rfl (hb hby d16_12) _ ?_
    show Steps p.tables e below (T3.setTop (mkF m 13 #[rv a0_, rv a1_, .unset] [(.ref t2)])) _
    refine XS.astoreN X3.here hx rfl (hb hby d16_13) rfl rfl (l' := #[rv a0_, rv a1_, rv t2]) rfl ?_
    show Steps p.tables e below (T3.setTop (mkF m 14 #[rv a0_, rv a1_, rv t2] [])) _
    refine XS.aloadN X3.here hx rfl (hb hby d16_14) rfl rfl ?_
    show Steps p.tables e below (T3.setTop (mkF m 15 #[rv a0_, rv a1_, rv t2] [(.ref a1_)])) _
    refine st4.trans ?_
    show Steps p.tables e below (T4.setTop (mkF m 18 #[rv a0_, rv a1_, rv t2] [(.ref t2)])) _
    refine XS.aloadN X4.here hx rfl (hb hby d16_18) rfl rfl ?_
    show Steps p.tables e below (T4.setTop (mkF m 19 #[rv a0_, rv a1_, rv t2] [(.ref t2), (.ref t2)])) _
    refine Jvm.RoadKit.acmp (g := (mkF m 19 #[rv a0_, rv a1_, rv t2] [(.ref t2), (.ref t2)])) X4 hx rfl rfl rfl (pc0 := 19) (pc' := 57) (same := true) rfl (hb hby d16_19) rfl (decide_eq_true rfl) (by decide) (by decide) ?_
    show Steps p.tables e below (T4.setTop (mkF m 57 #[rv a0_, rv a1_, rv t2] [])) _
    refine XS.aloadN X4.here hx rfl (hb hby d16_57) rfl rfl ?_
    show Steps p.tables e below (T4.setTop (mkF m 58 #[rv a0_, rv a1_, rv t2] [(.ref a0_)])) _
    refine st5 _ ?_
    show Steps p.tables e below (T5.setTop (mkF m 61 #[rv a0_, rv a1_, rv t2] [(.int (6 : Int32))])) _
    refine XS.aloadN X5.here hx rfl (hb hby d16_61) rfl rfl ?_
    show Steps p.tables e below (T5.setTop (mkF m 62 #[rv a0_, rv a1_, rv t2] [(.ref a0_), (.int (6 : Int32))])) _
    refine st6 _ ?_
    show Steps p.tables e below (T6.setTop (mkF m 65 #[rv a0_, rv a1_, rv t2] [(.ref ar), (.int (6 : Int32))])) _
    refine X6.arraylength hx (by rw [e6]; exact Ar7.1) (State.isArrayOf_alike hZ.alike Ar7.2.1) (g := (mkF m 65 #[rv a0_, rv a1_, rv t2] [(.ref ar), (.int (6 : Int32))])) rfl rfl (hb hby d16_65) _ ?_
    rw [len_of Sa7 Na7]
    show Steps p.tables e below (T6.setTop (mkF m 66 #[rv a0_, rv a1_, rv t2] [(.int (8 : Int32)), (.int (6 : Int32))])) _
    refine XS.icmpYes X6.here hx rfl (pc0 := 66) (pc' := 86) rfl (hb hby d16_66) rfl (feq (by decide : ¬ ((6 : Int32) = (8 : Int32)))).2 (by decide) (by decide) ?_
    show Steps p.tables e below (T6.setTop (mkF m 86 #[rv a0_, rv a1_, rv t2] [])) _
    refine XS.aloadN X6.here hx rfl (hb hby d16_86) rfl rfl ?_
    show Steps p.tables e below (T6.setTop (mkF m 87 #[rv a0_, rv a1_, rv t2] [(.ref a0_)])) _
    refine st8 _ ?_
    show Steps p.tables e below (T8.setTop (mkF m 90 #[rv a0_, rv a1_, rv t2] [(.ref ar)])) _
    refine XS.aloadN X8.here hx rfl (hb hby d16_90) rfl rfl ?_
    show Steps p.tables e below (T8.setTop (mkF m 91 #[rv a0_, rv a1_, rv t2] [(.ref a0_), (.ref ar)])) _
    refine XS.dup X8.here hx rfl (hb hby d16_91) rfl rfl ?_
    show Steps p.tables e below (T8.setTop (mkF m 92 #[rv a0_, rv a1_, rv t2] [(.ref a0_), (.ref a0_), (.ref ar)])) _
    refine st9 _ ?_
    show Steps p.tables e below (T9.setTop (mkF m 95 #[rv a0_, rv a1_, rv t2] [(.int (6 : Int32)), (.ref a0_), (.ref ar)])) _
    refine XS.dupX1 X9.here hx rfl (hb hby d16_95) rfl rfl rfl ?_
    show Steps p.tables e below (T9.setTop (mkF m 96 #[rv a0_, rv a1_, rv t2] [(.int (6 : Int32)), (.ref a0_), (.int (6 : Int32)), (.ref ar)])) _
    refine XS.iconst X9.here hx rfl (hb hby d16_96) ?_
    show Steps p.tables e below (T9.setTop (mkF m 97 #[rv a0_, rv a1_, rv t2] [(.int (1 : Int32)), (.int (6 : Int32)), (.ref a0_), (.int (6 : Int32)), (.ref ar)])) _
    refine XS.iadd X9.here hx rfl (hb hby d16_97) rfl ?_
    show Steps p.tables e below (T9.setTop (mkF m 98 #[rv a0_, rv a1_, rv t2] [(.int (7 : Int32)), (.ref a0_), (.int (6 : Int32)), (.ref ar)])) _
    refine st10 _ ?_
    show Steps p.tables e below (T10.setTop (mkF m 101 #[rv a0_, rv a1_, rv t2] [(.int (6 : Int32)), (.ref ar)])) _
    refine XS.aloadN X10.here hx rfl (hb hby d16_101) rfl rfl ?_
    show Steps p.tables e below (T10.setTop (mkF m 102 #[rv a0_, rv a1_, rv t2] [(.ref a1_), (.int (6 : Int32)), (.ref ar)])) _
    refine st21.trans ?_
    show Steps p.tables e below (T21.setTop (mkF m 105 #[rv a0_, rv a1_, rv t2] [(.int tm), (.int (6 : Int32)), (.ref ar)])) _
    refine st23 _ ?_
    show Steps p.tables e below (T23.setTop (mkF m 106 #[rv a0_, rv a1_, rv t2] [])) _
    exact X23.returnOut hx Bd.returns (hb hby d16_106) hr
  · show QAdd6 Z a0_ a1_ t0 t1 t2 t3 d0 d1 d2 d3 oa oc tm h0 n0 _ T23.heap _
    rw [e23]
    exact ⟨rfl, N23, ⟨_, _, _, K23, gar, ArA⟩, ⟨f25, f26, ar, _, _, gar, nea, f27, V23, by rw [List.length_set, hlen]; try rfl⟩⟩
def QAdd7 (Z : State) (a0_ : Addr) (a1_ : Addr) (t0 t1 t2 t3 d0 d1 d2 d3 oa : Addr) (oc : Cell) (tm : Int32) (h0 : Heap) (n0 : Nat) (v : Option Value) (h : Heap) (L : List Loc) : Prop := v = none ∧ Fr n0 L ∧ (∃ (ar : Addr) (cl : Cell) (ty : FieldType), Keep h0 h [a0_, ar] ∧ n0 ≤ ar ∧ Arr Z h0 ar cl ty) ∧ own_ED Z h n0 a0_ (8 : Int32) (8 : Int32)
theorem ef_rmAdd7 (m : MethodId) (a0_ : Addr) (a1_ : Addr) : entryFrame m #[(.ref a0_), (.ref a1_)] 3 = mkF m 0 #[rv a0_, rv a1_, .unset] [] := by first | (simp [entryFrame, mkF, argsToLocals, Value.category]; done) | rfl
set_option maxRecDepth 65536 in
set_option maxHeartbeats 40000000 in
theorem rmAdd7 (l : Launch) (Z : State) (a0 : Array Value) (hw : ∀ d ∈ tables_1, d.before a0 Z = true) (ws : List Jvm.Cond) (a0_ : Addr) (a1_ : Addr) (t0 t1 t2 t3 d0 d1 d2 d3 oa : Addr) (oc : Cell) (tm : Int32) (h0 : Heap) (n0 : Nat) (Z0 : n0 ≤ h0.size) (hO : Old Z n0 h0) (hst : own_St Z t0 t1 t2 t3 d0 d1 d2 d3 oa oc) (B0 : own_ED Z h0 n0 a0_ (7 : Int32) (8 : Int32)) (g0 : n0 ≤ a0_) (nev : a0_ ≠ a1_) (E1 : Exa Z h0 a1_ "com/example/reroutine/reroutine/scenario/Event") (Fm : Fld Z h0 a1_ "com/example/reroutine/reroutine/scenario/Event" "time" "I" (.int tm)) (Ft : Fld Z h0 a1_ "com/example/reroutine/reroutine/scenario/Event" "type" "Lcom/example/reroutine/reroutine/scenario/EventType;" (.ref t3)) :
    MetFree l (⟨"com/example/reroutine/reroutine/replanning/ExecutedDay", "add", "(Lcom/example/reroutine/reroutine/scenario/Event;)V"⟩ : MethodName) (head1 (Jvm.Cond.code (⟨"com/example/reroutine/reroutine/replanning/ExecutedDay", "add", "(Lcom/example/reroutine/reroutine/scenario/Event;)V"⟩ : MethodName) prog_12_method_2_code 3 none :: ws) ({ frames := 1, cells := 0, slots := 0, locals := 16 } : Room)) (fun a U => a = #[(.ref a0_), (.ref a1_)] ∧ Z.Warmed39 U.vm ∧ U.heap = h0) (fun _ _ _ _ _ => True) (fun _ U o U' => ∃ v L, o = .returned v ∧ QAdd7 Z a0_ a1_ t0 t1 t2 t3 d0 d1 d2 d3 oa oc tm h0 n0 v U'.heap L ∧ FrameEnd U o U' L ({ frames := 1, cells := 0, slots := 0, locals := 16 } : Room).cells ({ frames := 1, cells := 0, slots := 0, locals := 16 } : Room).slots) := by
  refine MetFree.of_bodySF (plainFor_of_name pn_6) hisR ?_
  intro p e s m args below meth c s₁ Bd hml0 hP hK
  obtain ⟨rfl, hZ, hh⟩ := hP
  have hx := Bd.exec
  have hby := Bd.bytes
  have hml : c.maxLocals = 3 := hml0
  have hown : s.vm.findClass "com/example/reroutine/reroutine/replanning/ExecutedDay" = some m.cls := findClass_of_methodNamed Bd.named
  have hnm := (name_of_methodNamed Bd.named Bd.method).1
  have X0 : Stand p l e ({ frames := 1, cells := 0, slots := 0, locals := 16 } : Room) s m #[(.ref a0_), (.ref a1_)] below meth c s₁ [] 0 0 := Stand.of_body Bd
  have e0 : s₁.heap = h0 := by rw [← hh, Bd.state]; rfl
  have N0 := Fr.nil n0
  have S0 : ∀ t, Steps p.tables e below (s₁.setTop (mkF m 0 #[rv a0_, rv a1_, .unset] [])) t → Steps p.tables e below (s₁.setTop (entryFrame m #[(.ref a0_), (.ref a1_)] 3)) t := fun t k => castTop (ef_rmAdd7 m a0_ a1_) k
  obtain ⟨⟨hs0, hx0, hd0⟩, ⟨hs1, hx1, hd1⟩, ⟨hs2, hx2, hd2⟩, ⟨hs3, hx3, hd3⟩, hso, hao, hsz, hq0, hq1, hq2, hq3⟩ := id hst
  obtain ⟨oE, oS, ar, kk, vs, gar, nea, oF, V0, hlen⟩ := id B0
  obtain ⟨clA, ArA, -⟩ := id V0
  have K0 : Keep h0 h0 [a0_, ar] := Keep.refl _ _
  obtain ⟨T1, X1, e1, st1⟩ := getS2 X0 hx hZ hown (host := "") (Or.inl (hw _ (List.mem_of_getElem? (i := 34) rfl))) Via.refl e0 (hso.ext hO.2) (g := (mkF m 0 #[rv a0_, rv a1_, .unset] [])) rfl (hb hby d16_0)
  obtain ⟨T2, X2, e2, st2⟩ := getF X1 hx hZ hown (host := "") (Or.inl (hw _ (List.mem_of_getElem? (i := 102) rfl))) Via.refl e1 oS (g := (mkF m 4 #[rv a0_, rv a1_, .unset] [(.ref a0_), (.ref oa)])) rfl rfl (hb hby d16_4)
  obtain ⟨T3, X3, e3, st3⟩ := getS2 X2 hx hZ hown (host := "") (Or.inl (hw _ (List.mem_of_getElem? (i := 34) rfl))) Via.refl e2 (hso.ext hO.2) (g := (mkF m 7 #[rv a0_, rv a1_, .unset] [(.int (7 : Int32)), (.ref oa)])) rfl (hb hby d16_7)
  obtain ⟨cq4, kq4, q4a, q4b, q4c⟩ := isOf hZ e3 E1
  obtain ⟨_, _, ⟨T4, L4, k4, n4⟩, -, X4, ⟨Lc4, hQ4, l4, y4, z4⟩, st4⟩ := X3.virtualBack hx (y := (⟨"com/example/reroutine/reroutine/scenario/Event", "type", "()Lcom/example/reroutine/reroutine/scenario/EventType;"⟩ : MethodName)) (z := (⟨"com/example/reroutine/reroutine/scenario/Event", "type", "()Lcom/example/reroutine/reroutine/scenario/EventType;"⟩ : MethodName)) hown (mvT hZ (hw _ (List.mem_of_getElem? (i := 109) rfl))) (mvT hZ (hw _ (List.mem_of_getElem? (i := 110) rfl))) (notFace_of_selects (args := #[]) (mvT hZ (hw _ (List.mem_of_getElem? (i := 112) rfl)))) (mvT hZ (hw _ (List.mem_of_getElem? (i := 112) rfl))) (mvT hZ (hw _ (List.mem_of_getElem? (i := 111) rfl))) (by decide) (backOf (W := 0) (rmGtype l Z a0 hw [] a1_ t3 h0 n0 Z0 Ft) hZ (hw _ (List.mem_of_getElem? (i := 113) rfl)) (hw _ (List.mem_of_getElem? (i := 48) rfl)) (by decide) (by decide)) q4a q4c (g := (mkF m 15 #[rv a0_, rv a1_, rv t3] [(.ref a1_)])) rfl (by rw [hml]; rfl) (Steps.refl _) (argsL := []) (rest := []) (lenOf pd_8 rfl) rfl (by show 2 * 0 + _ ≤ _; exact Nat.le_of_eq rfl) (hb hby d16_15) (fun _ _ => ⟨rfl, e3, (by decide : 0 + 0 ≤ _), (by decide : 0 + 0 ≤ _)⟩)
  dsimp only [Pt.U, Pt.locs, Pt.cells, Pt.slots] at X4 l4 y4 z4 st4 hQ4
  subst y4 z4
  obtain ⟨rfl, Nq4, eq4⟩ := hQ4
  have N4 : Fr n0 L4 := by rw [l4]; exact Fr.app N0 Nq4
  obtain ⟨T5, X5, e5, st5⟩ := getF X4 hx hZ hown (host := "") (Or.inl (hw _ (List.mem_of_getElem? (i := 102) rfl))) Via.refl eq4 oS (g := (mkF m 58 #[rv a0_, rv a1_, rv t3] [(.ref a0_)])) rfl rfl (hb hby d16_58)
  obtain ⟨T6, X6, e6, st6⟩ := getF X5 hx hZ hown (host := "") (Or.inl (hw _ (List.mem_of_getElem? (i := 37) rfl))) Via.refl e5 oF (g := (mkF m 62 #[rv a0_, rv a1_, rv t3] [(.ref a0_), (.int (7 : Int32))])) rfl rfl (hb hby d16_62)
  obtain ⟨cl7, Ar7, qa7, Sa7, Na7, Ha7, Ga7⟩ := id V0
  obtain ⟨T8, X8, e8, st8⟩ := getF X6 hx hZ hown (host := "") (Or.inl (hw _ (List.mem_of_getElem? (i := 37) rfl))) Via.refl e6 oF (g := (mkF m 87 #[rv a0_, rv a1_, rv t3] [(.ref a0_)])) rfl rfl (hb hby d16_87)
  obtain ⟨T9, X9, e9, st9⟩ := getF X8 hx hZ hown (host := "") (Or.inl (hw _ (List.mem_of_getElem? (i := 102) rfl))) Via.refl e8 oS (g := (mkF m 92 #[rv a0_, rv a1_, rv t3] [(.ref a0_), (.ref a0_), (.ref ar)])) rfl rfl (hb hby d16_92)
  obtain ⟨T10, h10, X10, e10, W10, st10⟩ := putF X9 hx hZ hown (host := "") (Or.inl (hw _ (List.mem_of_getElem? (i := 102) rfl))) Via.refl e9 oS oE (Or.inl (hw _ (List.mem_of_getElem? (i := 103) rfl))) (hw _ (List.mem_of_getElem? (i := 28) rfl)) (ty := .int) (by decide) rfl rfl (g := (mkF m 98 #[rv a0_, rv a1_, rv t3] [(.int (8 : Int32)), (.ref a0_), (.int (7 : Int32)), (.ref ar)])) rfl rfl (hb hby d16_98)
  have Fw10 := oS.same W10
  have f11 := oF.other W10 (Or.inr (slot_ne (Or.inl (hw _ (List.mem_of_getElem? (i := 38) rfl))) (Or.inl (hw _ (List.mem_of_getElem? (i := 103) rfl))) (by decide) (t := (.array .int)) (t' := .int) (by decide) (by decide)))
  have f12 := oE.wr W10
  have Od13 := hO.wr W10 g0
  have f17 := V0.other W10 (Ne.symm nea)
  have f18 := E1.wr W10
  have f19 := Fm.other W10 (Or.inl (Ne.symm nev))
  have f20 := Ft.other W10 (Or.inl (Ne.symm nev))
  have N10 := Fr.snoc X10 N4 g0
  have Z10 : n0 ≤ h10.size := Nat.le_trans Z0 (Keep.of_wr W10).1
  have K10 : Keep h0 h10 [a0_, ar] := K0.wr W10 (Or.inl (List.mem_of_getElem? (i := 0) rfl))
  obtain ⟨cq21, kq21, q21a, q21b, q21c⟩ := isOf hZ e10 f18
  obtain ⟨_, _, ⟨T21, L21, k21, n21⟩, -, X21, ⟨Lc21, hQ21, l21, y21, z21⟩, st21⟩ := X10.virtualBack hx (y := (⟨"com/example/reroutine/reroutine/scenario/Event", "time", "()I"⟩ : MethodName)) (z := (⟨"com/example/reroutine/reroutine/scenario/Event", "time", "()I"⟩ : MethodName)) hown (mvT hZ (hw _ (List.mem_of_getElem? (i := 114) rfl))) (mvT hZ (hw _ (List.mem_of_getElem? (i := 115) rfl))) (notFace_of_selects (args := #[]) (mvT hZ (hw _ (List.mem_of_getElem? (i := 117) rfl)))) (mvT hZ (hw _ (List.mem_of_getElem? (i := 117) rfl))) (mvT hZ (hw _ (List.mem_of_getElem? (i := 116) rfl))) (by decide) (backOf (W := 2) (rmGtime l Z a0 hw [] a1_ tm h10 n0 Z10 f19) hZ (hw _ (List.mem_of_getElem? (i := 118) rfl)) (hw _ (List.mem_of_getElem? (i := 48) rfl)) (by decide) (by decide)) q21a q21c (g := (mkF m 102 #[rv a0_, rv a1_, rv t3] [(.ref a1_), (.int (7 : Int32)), (.ref ar)])) rfl (by rw [hml]; rfl) (Steps.refl _) (argsL := []) (rest := [(.int (7 : Int32)), (.ref ar)]) (lenOf pd_9 rfl) rfl (by show 2 * 0 + _ ≤ _; exact Nat.le_of_eq rfl) (hb hby d16_102) (fun _ _ => ⟨rfl, e10, (by decide : 0 + 0 ≤ _), (by decide : 0 + 0 ≤ _)⟩)
  dsimp only [Pt.U, Pt.locs, Pt.cells, Pt.slots] at X21 l21 y21 z21 st21 hQ21
  subst y21 z21
  obtain ⟨rfl, Nq21, eq21⟩ := hQ21
  have N21 : Fr n0 L21 := by rw [l21]; exact Fr.app N10 Nq21
  obtain ⟨cl22, Ar22, qa22, Sa22, Na22, Ha22, Ga22⟩ := id f17
  have hin22 : ¬ ((7 : Int32) < 0 ∨ cl22.slots.size ≤ ((7 : Int32)).toNatClampNeg) := inb_of Sa22 ⟨by decide, by decide⟩
  obtain ⟨T23, h23, X23, e23, W23, st23⟩ := stI X21 hx hZ eq21 Ar22 (j := (7 : Int32)) hin22 (g := (mkF m 105 #[rv a0_, rv a1_, rv t3] [(.int tm), (.int (7 : Int32)), (.ref ar)])) rfl rfl (hb hby d16_105)
  have V23 := Arv.set Ar22 qa22 Sa22 Na22 Ha22 Ga22 rfl W23 7 rfl (by rw [hlen]; decide)
  have N23 := Fr.snoc X23 N21 gar
  have Z23 : n0 ≤ h23.size := Nat.le_trans Z10 (Keep.of_wr W23).1
  have Od24 := Od13.wr W23 gar
  have f25 := f12.wr W23
  have f26 := Fw10.other W23 (Or.inl nea)
  have f27 := f11.other W23 (Or.inl nea)
  have K23 : Keep h0 h23 [a0_, ar] := K10.wr W23 (Or.inl (List.mem_of_getElem? (i := 1) rfl))
  obtain ⟨fs, hr, hrun, hended, hW, hsame⟩ := X23.leave (v := none) (fun _ => rfl)
  refine ⟨_, _, S0 _ ?_, hrun, hended, _, _, rfl, ?_, ⟨_, rfl⟩, hW, hsame.mono (by decide) (by decide)⟩
  · skip
    show Steps p.tables e below (s₁.setTop (mkF m 0 #[rv a0_, rv a1_, .unset] [])) _
    refine st1 _ ?_
    show Steps p.tables e below (T1.setTop (mkF m 3 #[rv a0_, rv a1_, .unset] [(.ref oa)])) _
    refine XS.aloadN X1.here hx rfl (hb hby d16_3) rfl rfl ?_
    show Steps p.tables e below (T1.setTop (mkF m 4 #[rv a0_, rv a1_, .unset] [(.ref a0_), (.ref oa)])) _
    refine st2 _ ?_
    show Steps p.tables e below (T2.setTop (mkF m 7 #[rv a0_, rv a1_, .unset] [(.int (7 : Int32)), (.ref oa)])) _
    refine st3 _ ?_
    show Steps p.tables e below (T3.setTop (mkF m 10 #[rv a0_, rv a1_, .unset] [(.ref oa), (.int (7 : Int32)), (.ref oa)])) _
    refine X3.arraylength hx (by rw [e3]; exact (hao.ext hO.2).1) (State.isArrayOf_alike hZ.alike hao.2.1) (g := (mkF m 10 #[rv a0_, rv a1_, .unset] [(.ref oa), (.int (7 : Int32)), (.ref oa)])) rfl rfl (hb hby d16_10) _ ?_
    rw [len_of hsz (by decide)]
    show Steps p.tables e below (T3.setTop (mkF m 11 #[rv a0_, rv a1_, .unset] [(.int (4 : Int32)), (.int (7 : Int32)), (.ref oa)])) _
    refine iremM X3 hx rfl (hb hby d16_11) rfl (by decide) ?_
    show Steps p.tables e below (T3.setTop (mkF m 12 #[rv a0_, rv a1_, .unset] [(.int (3 : Int32)), (.ref oa)])) _
    refine X3.aaload hx (j := (3 : Int32)) (v := (.ref t3)) (by rw [e3]; exact (hao.ext hO.2).1) (State.isArrayOf_alike hZ.alike hao.2.1) rfl hao.2.2 (inb_of hsz ⟨by decide, by decide⟩) hq3 (g := (mkF m 12 #[rv a0_, rv a1_, .unset] [(.int (3 : Int32)), (.ref oa)])) rfl rfl (hb hby d16_12) _ ?_
    show Steps p.tables e below (T3.setTop (mkF m 13 #[rv a0_, rv a1_, .unset] [(.ref t3)])) _
    refine XS.astoreN X3.here hx rfl (hb hby d16_13) rfl rfl (l' := #[rv a0_, rv a1_, rv t3]) rfl ?_
    show Steps p.tables e below (T3.setTop (mkF m 14 #[rv a0_, rv a1_, rv t3] [])) _
    refine XS.aloadN X3.here hx rfl (hb hby d16_14) rfl rfl ?_
    show Steps p.tables e below (T3.setTop (mkF m 15 #[rv a0_, rv a1_, rv t3] [(.ref a1_)])) _
    refine st4.trans ?_
    show Steps p.tables e below (T4.setTop (mkF m 18 #[rv a0_, rv a1_, rv t3] [(.ref t3)])) _
    refine XS.aloadN X4.here hx rfl (hb hby d16_18) rfl rfl ?_
    show Steps p.tables e below (T4.setTop (mkF m 19 #[rv a0_, rv a1_, rv t3] [(.ref t3), (.ref t3)])) _
    refine Jvm.RoadKit.acmp (g := (mkF m 19 #[rv a0_, rv a1_, rv t3] [(.ref t3), (.ref t3)])) X4 hx rfl rfl rfl (pc0 := 19) (pc' := 57) (same := true) rfl (hb hby d16_19) rfl (decide_eq_true rfl) (by decide) (by decide) ?_
    show Steps p.tables e below (T4.setTop (mkF m 57 #[rv a0_, rv a1_, rv t3] [])) _
    refine XS.aloadN X4.here hx rfl (hb hby d16_57) rfl rfl ?_
    show Steps p.tables e below (T4.setTop (mkF m 58 #[rv a0_, rv a1_, rv t3] [(.ref a0_)])) _
    refine st5 _ ?_
    show Steps p.tables e below (T5.setTop (mkF m 61 #[rv a0_, rv a1_, rv t3] [(.int (7 : Int32))])) _
    refine XS.aloadN X5.here hx rfl (hb hby d16_61) rfl rfl ?_
    show Steps p.tables e below (T5.setTop (mkF m 62 #[rv a0_, rv a1_, rv t3] [(.ref a0_), (.int (7 : Int32))])) _
    refine st6 _ ?_
    show Steps p.tables e below (T6.setTop (mkF m 65 #[rv a0_, rv a1_, rv t3] [(.ref ar), (.int (7 : Int32))])) _
    refine X6.arraylength hx (by rw [e6]; exact Ar7.1) (State.isArrayOf_alike hZ.alike Ar7.2.1) (g := (mkF m 65 #[rv a0_, rv a1_, rv t3] [(.ref ar), (.int (7 : Int32))])) rfl rfl (hb hby d16_65) _ ?_
    rw [len_of Sa7 Na7]
    show Steps p.tables e below (T6.setTop (mkF m 66 #[rv a0_, rv a1_, rv t3] [(.int (8 : Int32)), (.int (7 : Int32))])) _
    refine XS.icmpYes X6.here hx rfl (pc0 := 66) (pc' := 86) rfl (hb hby d16_66) rfl (feq (by decide : ¬ ((7 : Int32) = (8 : Int32)))).2 (by decide) (by decide) ?_
    show Steps p.tables e below (T6.setTop (mkF m 86 #[rv a0_, rv a1_, rv t3] [])) _
    refine XS.aloadN X6.here hx rfl (hb hby d16_86) rfl rfl ?_
    show Steps p.tables e below (T6.setTop (mkF m 87 #[rv a0_, rv a1_, rv t3] [(.ref a0_)])) _
    refine st8 _ ?_
    show Steps p.tables e below (T8.setTop (mkF m 90 #[rv a0_, rv a1_, rv t3] [(.ref ar)])) _
    refine XS.aloadN X8.here hx rfl (hb hby d16_90) rfl rfl ?_
    show Steps p.tables e below (T8.setTop (mkF m 91 #[rv a0_, rv a1_, rv t3] [(.ref a0_), (.ref ar)])) _
    refine XS.dup X8.here hx rfl (hb hby d16_91) rfl rfl ?_
    show Steps p.tables e below (T8.setTop (mkF m 92 #[rv a0_, rv a1_, rv t3] [(.ref a0_), (.ref a0_), (.ref ar)])) _
    refine st9 _ ?_
    show Steps p.tables e below (T9.setTop (mkF m 95 #[rv a0_, rv a1_, rv t3] [(.int (7 : Int32)), (.ref a0_), (.ref ar)])) _
    refine XS.dupX1 X9.here hx rfl (hb hby d16_95) rfl rfl rfl ?_
    show Steps p.tables e below (T9.setTop (mkF m 96 #[rv a0_, rv a1_, rv t3] [(.int (7 : Int32)), (.ref a0_), (.int (7 : Int32)), (.ref ar)])) _
    refine XS.iconst X9.here hx rfl (hb hby d16_96) ?_
    show Steps p.tables e below (T9.setTop (mkF m 97 #[rv a0_, rv a1_, rv t3] [(.int (1 : Int32)), (.int (7 : Int32)), (.ref a0_), (.int (7 : Int32)), (.ref ar)])) _
    refine XS.iadd X9.here hx rfl (hb hby d16_97) rfl ?_
    show Steps p.tables e below (T9.setTop (mkF m 98 #[rv a0_, rv a1_, rv t3] [(.int (8 : Int32)), (.ref a0_), (.int (7 : Int32)), (.ref ar)])) _
    refine st10 _ ?_
    show Steps p.tables e below (T10.setTop (mkF m 101 #[rv a0_, rv a1_, rv t3] [(.int (7 : Int32)), (.ref ar)])) _
    refine XS.aloadN X10.here hx rfl (hb hby d16_101) rfl rfl ?_
    show Steps p.tables e below (T10.setTop (mkF m 102 #[rv a0_, rv a1_, rv t3] [(.ref a1_), (.int (7 : Int32)), (.ref ar)])) _
    refine st21.trans ?_
    show Steps p.tables e below (T21.setTop (mkF m 105 #[rv a0_, rv a1_, rv t3] [(.int tm), (.int (7 : Int32)), (.ref ar)])) _
    refine st23 _ ?_
    show Steps p.tables e below (T23.setTop (mkF m 106 #[rv a0_, rv a1_, rv t3] [])) _
    exact X23.returnOut hx Bd.returns (hb hby d16_106) hr
  · show QAdd7 Z a0_ a1_ t0 t1 t2 t3 d0 d1 d2 d3 oa oc tm h0 n0 _ T23.heap _
    rw [e23]
    exact ⟨rfl, N23, ⟨_, _, _, K23, gar, ArA⟩, ⟨f25, f26, ar, _, _, gar, nea, f27, V23, by rw [List.length_set, hlen]; try rfl⟩⟩
theorem d15_0 : decode prog_12_method_3_code 0 = .ok (.iconst 1, 1) := by decide +kernel
theorem d15_1 : decode prog_12_method_3_code 1 = .ok (.aload_n 0, 1) := by decide +kernel
theorem d15_2 : decode prog_12_method_3_code 2 = .ok (.getfield 29, 3) := by decide +kernel
theorem d15_5 : decode prog_12_method_3_code 5 = .ok (.getstatic 7, 3) := by decide +kernel
theorem d15_8 : decode prog_12_method_3_code 8 = .ok (.arraylength, 1) := by decide +kernel
theorem d15_9 : decode prog_12_method_3_code 9 = .ok (.idiv, 1) := by decide +kernel
theorem d15_10 : decode prog_12_method_3_code 10 = .ok (.iadd, 1) := by decide +kernel
theorem d15_11 : decode prog_12_method_3_code 11 = .ok (.ireturn, 1) := by decide +kernel
def QQ0 (Z : State) (a0_ : Addr) (t0 t1 t2 t3 d0 d1 d2 d3 oa : Addr) (oc : Cell) (h0 : Heap) (n0 : Nat) (v : Option Value) (h : Heap) (L : List Loc) : Prop := v = some (.int (1 : Int32)) ∧ Fr n0 L ∧ h = h0
theorem ef_rmQ0 (m : MethodId) (a0_ : Addr) : entryFrame m #[(.ref a0_)] 1 = mkF m 0 #[rv a0_] [] := by first | (simp [entryFrame, mkF, argsToLocals, Value.category]; done) | rfl
set_option maxRecDepth 65536 in
set_option maxHeartbeats 40000000 in
theorem rmQ0 (l : Launch) (Z : State) (a0 : Array Value) (hw : ∀ d ∈ tables_1, d.before a0 Z = true) (ws : List Jvm.Cond) (a0_ : Addr) (t0 t1 t2 t3 d0 d1 d2 d3 oa : Addr) (oc : Cell) (h0 : Heap) (n0 : Nat) (Z0 : n0 ≤ h0.size) (hO : Old Z n0 h0) (hst : own_St Z t0 t1 t2 t3 d0 d1 d2 d3 oa oc) (F0 : Fld Z h0 a0_ "com/example/reroutine/reroutine/replanning/ExecutedDay" "size" "I" (.int (0 : Int32))) :
    MetFree l (⟨"com/example/reroutine/reroutine/replanning/ExecutedDay", "activitiesReached", "()I"⟩ : MethodName) (head1 (Jvm.Cond.code (⟨"com/example/reroutine/reroutine/replanning/ExecutedDay", "activitiesReached", "()I"⟩ : MethodName) prog_12_method_3_code 1 (some .int) :: ws) ({ frames := 0, cells := 0, slots := 0, locals := 0 } : Room)) (fun a U => a = #[(.ref a0_)] ∧ Z.Warmed39 U.vm ∧ U.heap = h0) (fun _ _ _ _ _ => True) (fun _ U o U' => ∃ v L, o = .returned v ∧ QQ0 Z a0_ t0 t1 t2 t3 d0 d1 d2 d3 oa oc h0 n0 v U'.heap L ∧ FrameEnd U o U' L ({ frames := 0, cells := 0, slots := 0, locals := 0 } : Room).cells ({ frames := 0, cells := 0, slots := 0, locals := 0 } : Room).slots) := by
  refine MetFree.of_bodySF (plainFor_of_name pn_6) hisR ?_
  intro p e s m args below meth c s₁ Bd hml0 hP hK
  obtain ⟨rfl, hZ, hh⟩ := hP
  have hx := Bd.exec
  have hby := Bd.bytes
  have hml : c.maxLocals = 1 := hml0
  have hown : s.vm.findClass "com/example/reroutine/reroutine/replanning/ExecutedDay" = some m.cls := findClass_of_methodNamed Bd.named
  have hnm := (name_of_methodNamed Bd.named Bd.method).1
  have X0 : Stand p l e ({ frames := 0, cells := 0, slots := 0, locals := 0 } : Room) s m #[(.ref a0_)] below meth c s₁ [] 0 0 := Stand.of_body Bd
  have e0 : s₁.heap = h0 := by rw [← hh, Bd.state]; rfl
  have N0 := Fr.nil n0
  have S0 : ∀ t, Steps p.tables e below (s₁.setTop (mkF m 0 #[rv a0_] [])) t → Steps p.tables e below (s₁.setTop (entryFrame m #[(.ref a0_)] 1)) t := fun t k => castTop (ef_rmQ0 m a0_) k
  obtain ⟨⟨hs0, hx0, hd0⟩, ⟨hs1, hx1, hd1⟩, ⟨hs2, hx2, hd2⟩, ⟨hs3, hx3, hd3⟩, hso, hao, hsz, hq0, hq1, hq2, hq3⟩ := id hst
  obtain ⟨T1, X1, e1, st1⟩ := getF X0 hx hZ hown (host := "") (Or.inl (hw _ (List.mem_of_getElem? (i := 102) rfl))) Via.refl e0 F0 (g := (mkF m 2 #[rv a0_] [(.ref a0_), (.int (1 : Int32))])) rfl rfl (hb hby d15_2)
  obtain ⟨T2, X2, e2, st2⟩ := getS2 X1 hx hZ hown (host := "") (Or.inl (hw _ (List.mem_of_getElem? (i := 34) rfl))) Via.refl e1 (hso.ext hO.2) (g := (mkF m 5 #[rv a0_] [(.int (0 : Int32)), (.int (1 : Int32))])) rfl (hb hby d15_5)
  obtain ⟨fs, hr, hrun, hended, hW, hsame⟩ := X2.leave (v := some (.int (1 : Int32))) (fun h => by rw [Bd.returns] at h; cases h)
  refine ⟨_, _, S0 _ ?_, hrun, hended, _, _, rfl, ?_, ⟨_, rfl⟩, hW, hsame.mono (by decide) (by decide)⟩
  · skip
    show Steps p.tables e below (s₁.setTop (mkF m 0 #[rv a0_] [])) _
    refine XS.iconst X0.here hx rfl (hb hby d15_0) ?_
    show Steps p.tables e below (s₁.setTop (mkF m 1 #[rv a0_] [(.int (1 : Int32))])) _
    refine XS.aloadN X0.here hx rfl (hb hby d15_1) rfl rfl ?_
    show Steps p.tables e below (s₁.setTop (mkF m 2 #[rv a0_] [(.ref a0_), (.int (1 : Int32))])) _
    refine st1 _ ?_
    show Steps p.tables e below (T1.setTop (mkF m 5 #[rv a0_] [(.int (0 : Int32)), (.int (1 : Int32))])) _
    refine st2 _ ?_
    show Steps p.tables e below (T2.setTop (mkF m 8 #[rv a0_] [(.ref oa), (.int (0 : Int32)), (.int (1 : Int32))])) _
    refine X2.arraylength hx (by rw [e2]; exact (hao.ext hO.2).1) (State.isArrayOf_alike hZ.alike hao.2.1) (g := (mkF m 8 #[rv a0_] [(.ref oa), (.int (0 : Int32)), (.int (1 : Int32))])) rfl rfl (hb hby d15_8) _ ?_
    rw [len_of hsz (by decide)]
    show Steps p.tables e below (T2.setTop (mkF m 9 #[rv a0_] [(.int (4 : Int32)), (.int (0 : Int32)), (.int (1 : Int32))])) _
    refine XS.idiv X2.here hx rfl (hb hby d15_9) rfl (by decide) ?_
    show Steps p.tables e below (T2.setTop (mkF m 10 #[rv a0_] [(.int (0 : Int32)), (.int (1 : Int32))])) _
    refine XS.iadd X2.here hx rfl (hb hby d15_10) rfl ?_
    show Steps p.tables e below (T2.setTop (mkF m 11 #[rv a0_] [(.int (1 : Int32))])) _
    exact retI X2 hx Bd.returns (hb hby d15_11) hr
  · show QQ0 Z a0_ t0 t1 t2 t3 d0 d1 d2 d3 oa oc h0 n0 _ T2.heap _
    rw [e2]
    exact ⟨rfl, N0, rfl⟩
def QQ1 (Z : State) (a0_ : Addr) (t0 t1 t2 t3 d0 d1 d2 d3 oa : Addr) (oc : Cell) (h0 : Heap) (n0 : Nat) (v : Option Value) (h : Heap) (L : List Loc) : Prop := v = some (.int (1 : Int32)) ∧ Fr n0 L ∧ h = h0
theorem ef_rmQ1 (m : MethodId) (a0_ : Addr) : entryFrame m #[(.ref a0_)] 1 = mkF m 0 #[rv a0_] [] := by first | (simp [entryFrame, mkF, argsToLocals, Value.category]; done) | rfl
set_option maxRecDepth 65536 in
set_option maxHeartbeats 40000000 in
theorem rmQ1 (l : Launch) (Z : State) (a0 : Array Value) (hw : ∀ d ∈ tables_1, d.before a0 Z = true) (ws : List Jvm.Cond) (a0_ : Addr) (t0 t1 t2 t3 d0 d1 d2 d3 oa : Addr) (oc : Cell) (h0 : Heap) (n0 : Nat) (Z0 : n0 ≤ h0.size) (hO : Old Z n0 h0) (hst : own_St Z t0 t1 t2 t3 d0 d1 d2 d3 oa oc) (F0 : Fld Z h0 a0_ "com/example/reroutine/reroutine/replanning/ExecutedDay" "size" "I" (.int (1 : Int32))) :
    MetFree l (⟨"com/example/reroutine/reroutine/replanning/ExecutedDay", "activitiesReached", "()I"⟩ : MethodName) (head1 (Jvm.Cond.code (⟨"com/example/reroutine/reroutine/replanning/ExecutedDay", "activitiesReached", "()I"⟩ : MethodName) prog_12_method_3_code 1 (some .int) :: ws) ({ frames := 0, cells := 0, slots := 0, locals := 0 } : Room)) (fun a U => a = #[(.ref a0_)] ∧ Z.Warmed39 U.vm ∧ U.heap = h0) (fun _ _ _ _ _ => True) (fun _ U o U' => ∃ v L, o = .returned v ∧ QQ1 Z a0_ t0 t1 t2 t3 d0 d1 d2 d3 oa oc h0 n0 v U'.heap L ∧ FrameEnd U o U' L ({ frames := 0, cells := 0, slots := 0, locals := 0 } : Room).cells ({ frames := 0, cells := 0, slots := 0, locals := 0 } : Room).slots) := by
  refine MetFree.of_bodySF (plainFor_of_name pn_6) hisR ?_
  intro p e s m args below meth c s₁ Bd hml0 hP hK
  obtain ⟨rfl, hZ, hh⟩ := hP
  have hx := Bd.exec
  have hby := Bd.bytes
  have hml : c.maxLocals = 1 := hml0
  have hown : s.vm.findClass "com/example/reroutine/reroutine/replanning/ExecutedDay" = some m.cls := findClass_of_methodNamed Bd.named
  have hnm := (name_of_methodNamed Bd.named Bd.method).1
  have X0 : Stand p l e ({ frames := 0, cells := 0, slots := 0, locals := 0 } : Room) s m #[(.ref a0_)] below meth c s₁ [] 0 0 := Stand.of_body Bd
  have e0 : s₁.heap = h0 := by rw [← hh, Bd.state]; rfl
  have N0 := Fr.nil n0
  have S0 : ∀ t, Steps p.tables e below (s₁.setTop (mkF m 0 #[rv a0_] [])) t → Steps p.tables e below (s₁.setTop (entryFrame m #[(.ref a0_)] 1)) t := fun t k => castTop (ef_rmQ1 m a0_) k
  obtain ⟨⟨hs0, hx0, hd0⟩, ⟨hs1, hx1, hd1⟩, ⟨hs2, hx2, hd2⟩, ⟨hs3, hx3, hd3⟩, hso, hao, hsz, hq0, hq1, hq2, hq3⟩ := id hst
  obtain ⟨T1, X1, e1, st1⟩ := getF X0 hx hZ hown (host := "") (Or.inl (hw _ (List.mem_of_getElem? (i := 102) rfl))) Via.refl e0 F0 (g := (mkF m 2 #[rv a0_] [(.ref a0_), (.int (1 : Int32))])) rfl rfl (hb hby d15_2)
  obtain ⟨T2, X2, e2, st2⟩ := getS2 X1 hx hZ hown (host := "") (Or.inl (hw _ (List.mem_of_getElem? (i := 34) rfl))) Via.refl e1 (hso.ext hO.2) (g := (mkF m 5 #[rv a0_] [(.int (1 : Int32)), (.int (1 : Int32))])) rfl (hb hby d15_5)
  obtain ⟨fs, hr, hrun, hended, hW, hsame⟩ := X2.leave (v := some (.int (1 : Int32))) (fun h => by rw [Bd.returns] at h; cases h)
  refine ⟨_, _, S0 _ ?_, hrun, hended, _, _, rfl, ?_, ⟨_, rfl⟩, hW, hsame.mono (by decide) (by decide)⟩
  · skip
    show Steps p.tables e below (s₁.setTop (mkF m 0 #[rv a0_] [])) _
    refine XS.iconst X0.here hx rfl (hb hby d15_0) ?_
    show Steps p.tables e below (s₁.setTop (mkF m 1 #[rv a0_] [(.int (1 : Int32))])) _
    refine XS.aloadN X0.here hx rfl (hb hby d15_1) rfl rfl ?_
    show Steps p.tables e below (s₁.setTop (mkF m 2 #[rv a0_] [(.ref a0_), (.int (1 : Int32))])) _
    refine st1 _ ?_
    show Steps p.tables e below (T1.setTop (mkF m 5 #[rv a0_] [(.int (1 : Int32)), (.int (1 : Int32))])) _
    refine st2 _ ?_
    show Steps p.tables e below (T2.setTop (mkF m 8 #[rv a0_] [(.ref oa), (.int (1 : Int32)), (.int (1 : Int32))])) _
    refine X2.arraylength hx (by rw [e2]; exact (hao.ext hO.2).1) (State.isArrayOf_alike hZ.alike hao.2.1) (g := (mkF m 8 #[rv a0_] [(.ref oa), (.int (1 : Int32)), (.int (1 : Int32))])) rfl rfl (hb hby d15_8) _ ?_
    rw [len_of hsz (by decide)]
    show Steps p.tables e below (T2.setTop (mkF m 9 #[rv a0_] [(.int (4 : Int32)), (.int (1 : Int32)), (.int (1 : Int32))])) _
    refine XS.idiv X2.here hx rfl (hb hby d15_9) rfl (by decide) ?_
    show Steps p.tables e below (T2.setTop (mkF m 10 #[rv a0_] [(.int (0 : Int32)), (.int (1 : Int32))])) _
    refine XS.iadd X2.here hx rfl (hb hby d15_10) rfl ?_
    show Steps p.tables e below (T2.setTop (mkF m 11 #[rv a0_] [(.int (1 : Int32))])) _
    exact retI X2 hx Bd.returns (hb hby d15_11) hr
  · show QQ1 Z a0_ t0 t1 t2 t3 d0 d1 d2 d3 oa oc h0 n0 _ T2.heap _
    rw [e2]
    exact ⟨rfl, N0, rfl⟩
def QQ2 (Z : State) (a0_ : Addr) (t0 t1 t2 t3 d0 d1 d2 d3 oa : Addr) (oc : Cell) (h0 : Heap) (n0 : Nat) (v : Option Value) (h : Heap) (L : List Loc) : Prop := v = some (.int (1 : Int32)) ∧ Fr n0 L ∧ h = h0
theorem ef_rmQ2 (m : MethodId) (a0_ : Addr) : entryFrame m #[(.ref a0_)] 1 = mkF m 0 #[rv a0_] [] := by first | (simp [entryFrame, mkF, argsToLocals, Value.category]; done) | rfl
set_option maxRecDepth 65536 in
set_option maxHeartbeats 40000000 in
theorem rmQ2 (l : Launch) (Z : State) (a0 : Array Value) (hw : ∀ d ∈ tables_1, d.before a0 Z = true) (ws : List Jvm.Cond) (a0_ : Addr) (t0 t1 t2 t3 d0 d1 d2 d3 oa : Addr) (oc : Cell) (h0 : Heap) (n0 : Nat) (Z0 : n0 ≤ h0.size) (hO : Old Z n0 h0) (hst : own_St Z t0 t1 t2 t3 d0 d1 d2 d3 oa oc) (F0 : Fld Z h0 a0_ "com/example/reroutine/reroutine/replanning/ExecutedDay" "size" "I" (.int (2 : Int32))) :
    MetFree l (⟨"com/example/reroutine/reroutine/replanning/ExecutedDay", "activitiesReached", "()I"⟩ : MethodName) (head1 (Jvm.Cond.code (⟨"com/example/reroutine/reroutine/replanning/ExecutedDay", "activitiesReached", "()I"⟩ : MethodName) prog_12_method_3_code 1 (some .int) :: ws) ({ frames := 0, cells := 0, slots := 0, locals := 0 } : Room)) (fun a U => a = #[(.ref a0_)] ∧ Z.Warmed39 U.vm ∧ U.heap = h0) (fun _ _ _ _ _ => True) (fun _ U o U' => ∃ v L, o = .returned v ∧ QQ2 Z a0_ t0 t1 t2 t3 d0 d1 d2 d3 oa oc h0 n0 v U'.heap L ∧ FrameEnd U o U' L ({ frames := 0, cells := 0, slots := 0, locals := 0 } : Room).cells ({ frames := 0, cells := 0, slots := 0, locals := 0 } : Room).slots) := by
  refine MetFree.of_bodySF (plainFor_of_name pn_6) hisR ?_
  intro p e s m args below meth c s₁ Bd hml0 hP hK
  obtain ⟨rfl, hZ, hh⟩ := hP
  have hx := Bd.exec
  have hby := Bd.bytes
  have hml : c.maxLocals = 1 := hml0
  have hown : s.vm.findClass "com/example/reroutine/reroutine/replanning/ExecutedDay" = some m.cls := findClass_of_methodNamed Bd.named
  have hnm := (name_of_methodNamed Bd.named Bd.method).1
  have X0 : Stand p l e ({ frames := 0, cells := 0, slots := 0, locals := 0 } : Room) s m #[(.ref a0_)] below meth c s₁ [] 0 0 := Stand.of_body Bd
  have e0 : s₁.heap = h0 := by rw [← hh, Bd.state]; rfl
  have N0 := Fr.nil n0
  have S0 : ∀ t, Steps p.tables e below (s₁.setTop (mkF m 0 #[rv a0_] [])) t → Steps p.tables e below (s₁.setTop (entryFrame m #[(.ref a0_)] 1)) t := fun t k => castTop (ef_rmQ2 m a0_) k
  obtain ⟨⟨hs0, hx0, hd0⟩, ⟨hs1, hx1, hd1⟩, ⟨hs2, hx2, hd2⟩, ⟨hs3, hx3, hd3⟩, hso, hao, hsz, hq0, hq1, hq2, hq3⟩ := id hst
  obtain ⟨T1, X1, e1, st1⟩ := getF X0 hx hZ hown (host := "") (Or.inl (hw _ (List.mem_of_getElem? (i := 102) rfl))) Via.refl e0 F0 (g := (mkF m 2 #[rv a0_] [(.ref a0_), (.int (1 : Int32))])) rfl rfl (hb hby d15_2)
  obtain ⟨T2, X2, e2, st2⟩ := getS2 X1 hx hZ hown (host := "") (Or.inl (hw _ (List.mem_of_getElem? (i := 34) rfl))) Via.refl e1 (hso.ext hO.2) (g := (mkF m 5 #[rv a0_] [(.int (2 : Int32)), (.int (1 : Int32))])) rfl (hb hby d15_5)
  obtain ⟨fs, hr, hrun, hended, hW, hsame⟩ := X2.leave (v := some (.int (1 : Int32))) (fun h => by rw [Bd.returns] at h; cases h)
  refine ⟨_, _, S0 _ ?_, hrun, hended, _, _, rfl, ?_, ⟨_, rfl⟩, hW, hsame.mono (by decide) (by decide)⟩
  · skip
    show Steps p.tables e below (s₁.setTop (mkF m 0 #[rv a0_] [])) _
    refine XS.iconst X0.here hx rfl (hb hby d15_0) ?_
    show Steps p.tables e below (s₁.setTop (mkF m 1 #[rv a0_] [(.int (1 : Int32))])) _
    refine XS.aloadN X0.here hx rfl (hb hby d15_1) rfl rfl ?_
    show Steps p.tables e below (s₁.setTop (mkF m 2 #[rv a0_] [(.ref a0_), (.int (1 : Int32))])) _
    refine st1 _ ?_
    show Steps p.tables e below (T1.setTop (mkF m 5 #[rv a0_] [(.int (2 : Int32)), (.int (1 : Int32))])) _
    refine st2 _ ?_
    show Steps p.tables e below (T2.setTop (mkF m 8 #[rv a0_] [(.ref oa), (.int (2 : Int32)), (.int (1 : Int32))])) _
    refine X2.arraylength hx (by rw [e2]; exact (hao.ext hO.2).1) (State.isArrayOf_alike hZ.alike hao.2.1) (g := (mkF m 8 #[rv a0_] [(.ref oa), (.int (2 : Int32)), (.int (1 : Int32))])) rfl rfl (hb hby d15_8) _ ?_
    rw [len_of hsz (by decide)]
    show Steps p.tables e below (T2.setTop (mkF m 9 #[rv a0_] [(.int (4 : Int32)), (.int (2 : Int32)), (.int (1 : Int32))])) _
    refine XS.idiv X2.here hx rfl (hb hby d15_9) rfl (by decide) ?_
    show Steps p.tables e below (T2.setTop (mkF m 10 #[rv a0_] [(.int (0 : Int32)), (.int (1 : Int32))])) _
    refine XS.iadd X2.here hx rfl (hb hby d15_10) rfl ?_
    show Steps p.tables e below (T2.setTop (mkF m 11 #[rv a0_] [(.int (1 : Int32))])) _
    exact retI X2 hx Bd.returns (hb hby d15_11) hr
  · show QQ2 Z a0_ t0 t1 t2 t3 d0 d1 d2 d3 oa oc h0 n0 _ T2.heap _
    rw [e2]
    exact ⟨rfl, N0, rfl⟩
def QQ3 (Z : State) (a0_ : Addr) (t0 t1 t2 t3 d0 d1 d2 d3 oa : Addr) (oc : Cell) (h0 : Heap) (n0 : Nat) (v : Option Value) (h : Heap) (L : List Loc) : Prop := v = some (.int (1 : Int32)) ∧ Fr n0 L ∧ h = h0
theorem ef_rmQ3 (m : MethodId) (a0_ : Addr) : entryFrame m #[(.ref a0_)] 1 = mkF m 0 #[rv a0_] [] := by first | (simp [entryFrame, mkF, argsToLocals, Value.category]; done) | rfl
set_option maxRecDepth 65536 in
set_option maxHeartbeats 40000000 in
theorem rmQ3 (l : Launch) (Z : State) (a0 : Array Value) (hw : ∀ d ∈ tables_1, d.before a0 Z = true) (ws : List Jvm.Cond) (a0_ : Addr) (t0 t1 t2 t3 d0 d1 d2 d3 oa : Addr) (oc : Cell) (h0 : Heap) (n0 : Nat) (Z0 : n0 ≤ h0.size) (hO : Old Z n0 h0) (hst : own_St Z t0 t1 t2 t3 d0 d1 d2 d3 oa oc) (F0 : Fld Z h0 a0_ "com/example/reroutine/reroutine/replanning/ExecutedDay" "size" "I" (.int (3 : Int32))) :
    MetFree l (⟨"com/example/reroutine/reroutine/replanning/ExecutedDay", "activitiesReached", "()I"⟩ : MethodName) (head1 (Jvm.Cond.code (⟨"com/example/reroutine/reroutine/replanning/ExecutedDay", "activitiesReached", "()I"⟩ : MethodName) prog_12_method_3_code 1 (some .int) :: ws) ({ frames := 0, cells := 0, slots := 0, locals := 0 } : Room)) (fun a U => a = #[(.ref a0_)] ∧ Z.Warmed39 U.vm ∧ U.heap = h0) (fun _ _ _ _ _ => True) (fun _ U o U' => ∃ v L, o = .returned v ∧ QQ3 Z a0_ t0 t1 t2 t3 d0 d1 d2 d3 oa oc h0 n0 v U'.heap L ∧ FrameEnd U o U' L ({ frames := 0, cells := 0, slots := 0, locals := 0 } : Room).cells ({ frames := 0, cells := 0, slots := 0, locals := 0 } : Room).slots) := by
  refine MetFree.of_bodySF (plainFor_of_name pn_6) hisR ?_
  intro p e s m args below meth c s₁ Bd hml0 hP hK
  obtain ⟨rfl, hZ, hh⟩ := hP
  have hx := Bd.exec
  have hby := Bd.bytes
  have hml : c.maxLocals = 1 := hml0
  have hown : s.vm.findClass "com/example/reroutine/reroutine/replanning/ExecutedDay" = some m.cls := findClass_of_methodNamed Bd.named
  have hnm := (name_of_methodNamed Bd.named Bd.method).1
  have X0 : Stand p l e ({ frames := 0, cells := 0, slots := 0, locals := 0 } : Room) s m #[(.ref a0_)] below meth c s₁ [] 0 0 := Stand.of_body Bd
  have e0 : s₁.heap = h0 := by rw [← hh, Bd.state]; rfl
  have N0 := Fr.nil n0
  have S0 : ∀ t, Steps p.tables e below (s₁.setTop (mkF m 0 #[rv a0_] [])) t → Steps p.tables e below (s₁.setTop (entryFrame m #[(.ref a0_)] 1)) t := fun t k => castTop (ef_rmQ3 m a0_) k
  obtain ⟨⟨hs0, hx0, hd0⟩, ⟨hs1, hx1, hd1⟩, ⟨hs2, hx2, hd2⟩, ⟨hs3, hx3, hd3⟩, hso, hao, hsz, hq0, hq1, hq2, hq3⟩ := id hst
  obtain ⟨T1, X1, e1, st1⟩ := getF X0 hx hZ hown (host := "") (Or.inl (hw _ (List.mem_of_getElem? (i := 102) rfl))) Via.refl e0 F0 (g := (mkF m 2 #[rv a0_] [(.ref a0_), (.int (1 : Int32))])) rfl rfl (hb hby d15_2)
  obtain ⟨T2, X2, e2, st2⟩ := getS2 X1 hx hZ hown (host := "") (Or.inl (hw _ (List.mem_of_getElem? (i := 34) rfl))) Via.refl e1 (hso.ext hO.2) (g := (mkF m 5 #[rv a0_] [(.int (3 : Int32)), (.int (1 : Int32))])) rfl (hb hby d15_5)
  obtain ⟨fs, hr, hrun, hended, hW, hsame⟩ := X2.leave (v := some (.int (1 : Int32))) (fun h => by rw [Bd.returns] at h; cases h)
  refine ⟨_, _, S0 _ ?_, hrun, hended, _, _, rfl, ?_, ⟨_, rfl⟩, hW, hsame.mono (by decide) (by decide)⟩
  · skip
    show Steps p.tables e below (s₁.setTop (mkF m 0 #[rv a0_] [])) _
    refine XS.iconst X0.here hx rfl (hb hby d15_0) ?_
    show Steps p.tables e below (s₁.setTop (mkF m 1 #[rv a0_] [(.int (1 : Int32))])) _
    refine XS.aloadN X0.here hx rfl (hb hby d15_1) rfl rfl ?_
    show Steps p.tables e below (s₁.setTop (mkF m 2 #[rv a0_] [(.ref a0_), (.int (1 : Int32))])) _
    refine st1 _ ?_
    show Steps p.tables e below (T1.setTop (mkF m 5 #[rv a0_] [(.int (3 : Int32)), (.int (1 : Int32))])) _
    refine st2 _ ?_
    show Steps p.tables e below (T2.setTop (mkF m 8 #[rv a0_] [(.ref oa), (.int (3 : Int32)), (.int (1 : Int32))])) _
    refine X2.arraylength hx (by rw [e2]; exact (hao.ext hO.2).1) (State.isArrayOf_alike hZ.alike hao.2.1) (g := (mkF m 8 #[rv a0_] [(.ref oa), (.int (3 : Int32)), (.int (1 : Int32))])) rfl rfl (hb hby d15_8) _ ?_
    rw [len_of hsz (by decide)]
    show Steps p.tables e below (T2.setTop (mkF m 9 #[rv a0_] [(.int (4 : Int32)), (.int (3 : Int32)), (.int (1 : Int32))])) _
    refine XS.idiv X2.here hx rfl (hb hby d15_9) rfl (by decide) ?_
    show Steps p.tables e below (T2.setTop (mkF m 10 #[rv a0_] [(.int (0 : Int32)), (.int (1 : Int32))])) _
    refine XS.iadd X2.here hx rfl (hb hby d15_10) rfl ?_
    show Steps p.tables e below (T2.setTop (mkF m 11 #[rv a0_] [(.int (1 : Int32))])) _
    exact retI X2 hx Bd.returns (hb hby d15_11) hr
  · show QQ3 Z a0_ t0 t1 t2 t3 d0 d1 d2 d3 oa oc h0 n0 _ T2.heap _
    rw [e2]
    exact ⟨rfl, N0, rfl⟩
def QQ4 (Z : State) (a0_ : Addr) (t0 t1 t2 t3 d0 d1 d2 d3 oa : Addr) (oc : Cell) (h0 : Heap) (n0 : Nat) (v : Option Value) (h : Heap) (L : List Loc) : Prop := v = some (.int (2 : Int32)) ∧ Fr n0 L ∧ h = h0
theorem ef_rmQ4 (m : MethodId) (a0_ : Addr) : entryFrame m #[(.ref a0_)] 1 = mkF m 0 #[rv a0_] [] := by first | (simp [entryFrame, mkF, argsToLocals, Value.category]; done) | rfl
set_option maxRecDepth 65536 in
set_option maxHeartbeats 40000000 in
theorem rmQ4 (l : Launch) (Z : State) (a0 : Array Value) (hw : ∀ d ∈ tables_1, d.before a0 Z = true) (ws : List Jvm.Cond) (a0_ : Addr) (t0 t1 t2 t3 d0 d1 d2 d3 oa : Addr) (oc : Cell) (h0 : Heap) (n0 : Nat) (Z0 : n0 ≤ h0.size) (hO : Old Z n0 h0) (hst : own_St Z t0 t1 t2 t3 d0 d1 d2 d3 oa oc) (F0 : Fld Z h0 a0_ "com/example/reroutine/reroutine/replanning/ExecutedDay" "size" "I" (.int (4 : Int32))) :
    MetFree l (⟨"com/example/reroutine/reroutine/replanning/ExecutedDay", "activitiesReached", "()I"⟩ : MethodName) (head1 (Jvm.Cond.code (⟨"com/example/reroutine/reroutine/replanning/ExecutedDay", "activitiesReached", "()I"⟩ : MethodName) prog_12_method_3_code 1 (some .int) :: ws) ({ frames := 0, cells := 0, slots := 0, locals := 0 } : Room)) (fun a U => a = #[(.ref a0_)] ∧ Z.Warmed39 U.vm ∧ U.heap = h0) (fun _ _ _ _ _ => True) (fun _ U o U' => ∃ v L, o = .returned v ∧ QQ4 Z a0_ t0 t1 t2 t3 d0 d1 d2 d3 oa oc h0 n0 v U'.heap L ∧ FrameEnd U o U' L ({ frames := 0, cells := 0, slots := 0, locals := 0 } : Room).cells ({ frames := 0, cells := 0, slots := 0, locals := 0 } : Room).slots) := by
  refine MetFree.of_bodySF (plainFor_of_name pn_6) hisR ?_
  intro p e s m args below meth c s₁ Bd hml0 hP hK
  obtain ⟨rfl, hZ, hh⟩ := hP
  have hx := Bd.exec
  have hby := Bd.bytes
  have hml : c.maxLocals = 1 := hml0
  have hown : s.vm.findClass "com/example/reroutine/reroutine/replanning/ExecutedDay" = some m.cls := findClass_of_methodNamed Bd.named
  have hnm := (name_of_methodNamed Bd.named Bd.method).1
  have X0 : Stand p l e ({ frames := 0, cells := 0, slots := 0, locals := 0 } : Room) s m #[(.ref a0_)] below meth c s₁ [] 0 0 := Stand.of_body Bd
  have e0 : s₁.heap = h0 := by rw [← hh, Bd.state]; rfl
  have N0 := Fr.nil n0
  have S0 : ∀ t, Steps p.tables e below (s₁.setTop (mkF m 0 #[rv a0_] [])) t → Steps p.tables e below (s₁.setTop (entryFrame m #[(.ref a0_)] 1)) t := fun t k => castTop (ef_rmQ4 m a0_) k
  obtain ⟨⟨hs0, hx0, hd0⟩, ⟨hs1, hx1, hd1⟩, ⟨hs2, hx2, hd2⟩, ⟨hs3, hx3, hd3⟩, hso, hao, hsz, hq0, hq1, hq2, hq3⟩ := id hst
  obtain ⟨T1, X1, e1, st1⟩ := getF X0 hx hZ hown (host := "") (Or.inl (hw _ (List.mem_of_getElem? (i := 102) rfl))) Via.refl e0 F0 (g := (mkF m 2 #[rv a0_] [(.ref a0_), (.int (1 : Int32))])) rfl rfl (hb hby d15_2)
  obtain ⟨T2, X2, e2, st2⟩ := getS2 X1 hx hZ hown (host := "") (Or.inl (hw _ (List.mem_of_getElem? (i := 34) rfl))) Via.refl e1 (hso.ext hO.2) (g := (mkF m 5 #[rv a0_] [(.int (4 : Int32)), (.int (1 : Int32))])) rfl (hb hby d15_5)
  obtain ⟨fs, hr, hrun, hended, hW, hsame⟩ := X2.leave (v := some (.int (2 : Int32))) (fun h => by rw [Bd.returns] at h; cases h)
  refine ⟨_, _, S0 _ ?_, hrun, hended, _, _, rfl, ?_, ⟨_, rfl⟩, hW, hsame.mono (by decide) (by decide)⟩
  · skip
    show Steps p.tables e below (s₁.setTop (mkF m 0 #[rv a0_] [])) _
    refine XS.iconst X0.here hx rfl (hb hby d15_0) ?_
    show Steps p.tables e below (s₁.setTop (mkF m 1 #[rv a0_] [(.int (1 : Int32))])) _
    refine XS.aloadN X0.here hx rfl (hb hby d15_1) rfl rfl ?_
    show Steps p.tables e below (s₁.setTop (mkF m 2 #[rv a0_] [(.ref a0_), (.int (1 : Int32))])) _
    refine st1 _ ?_
    show Steps p.tables e below (T1.setTop (mkF m 5 #[rv a0_] [(.int (4 : Int32)), (.int (1 : Int32))])) _
    refine st2 _ ?_
    show Steps p.tables e below (T2.setTop (mkF m 8 #[rv a0_] [(.ref oa), (.int (4 : Int32)), (.int (1 : Int32))])) _
    refine X2.arraylength hx (by rw [e2]; exact (hao.ext hO.2).1) (State.isArrayOf_alike hZ.alike hao.2.1) (g := (mkF m 8 #[rv a0_] [(.ref oa), (.int (4 : Int32)), (.int (1 : Int32))])) rfl rfl (hb hby d15_8) _ ?_
    rw [len_of hsz (by decide)]
    show Steps p.tables e below (T2.setTop (mkF m 9 #[rv a0_] [(.int (4 : Int32)), (.int (4 : Int32)), (.int (1 : Int32))])) _
    refine XS.idiv X2.here hx rfl (hb hby d15_9) rfl (by decide) ?_
    show Steps p.tables e below (T2.setTop (mkF m 10 #[rv a0_] [(.int (1 : Int32)), (.int (1 : Int32))])) _
    refine XS.iadd X2.here hx rfl (hb hby d15_10) rfl ?_
    show Steps p.tables e below (T2.setTop (mkF m 11 #[rv a0_] [(.int (2 : Int32))])) _
    exact retI X2 hx Bd.returns (hb hby d15_11) hr
  · show QQ4 Z a0_ t0 t1 t2 t3 d0 d1 d2 d3 oa oc h0 n0 _ T2.heap _
    rw [e2]
    exact ⟨rfl, N0, rfl⟩
def QQ5 (Z : State) (a0_ : Addr) (t0 t1 t2 t3 d0 d1 d2 d3 oa : Addr) (oc : Cell) (h0 : Heap) (n0 : Nat) (v : Option Value) (h : Heap) (L : List Loc) : Prop := v = some (.int (2 : Int32)) ∧ Fr n0 L ∧ h = h0
theorem ef_rmQ5 (m : MethodId) (a0_ : Addr) : entryFrame m #[(.ref a0_)] 1 = mkF m 0 #[rv a0_] [] := by first | (simp [entryFrame, mkF, argsToLocals, Value.category]; done) | rfl
set_option maxRecDepth 65536 in
set_option maxHeartbeats 40000000 in
theorem rmQ5 (l : Launch) (Z : State) (a0 : Array Value) (hw : ∀ d ∈ tables_1, d.before a0 Z = true) (ws : List Jvm.Cond) (a0_ : Addr) (t0 t1 t2 t3 d0 d1 d2 d3 oa : Addr) (oc : Cell) (h0 : Heap) (n0 : Nat) (Z0 : n0 ≤ h0.size) (hO : Old Z n0 h0) (hst : own_St Z t0 t1 t2 t3 d0 d1 d2 d3 oa oc) (F0 : Fld Z h0 a0_ "com/example/reroutine/reroutine/replanning/ExecutedDay" "size" "I" (.int (5 : Int32))) :
    MetFree l (⟨"com/example/reroutine/reroutine/replanning/ExecutedDay", "activitiesReached", "()I"⟩ : MethodName) (head1 (Jvm.Cond.code (⟨"com/example/reroutine/reroutine/replanning/ExecutedDay", "activitiesReached", "()I"⟩ : MethodName) prog_12_method_3_code 1 (some .int) :: ws) ({ frames := 0, cells := 0, slots := 0, locals := 0 } : Room)) (fun a U => a = #[(.ref a0_)] ∧ Z.Warmed39 U.vm ∧ U.heap = h0) (fun _ _ _ _ _ => True) (fun _ U o U' => ∃ v L, o = .returned v ∧ QQ5 Z a0_ t0 t1 t2 t3 d0 d1 d2 d3 oa oc h0 n0 v U'.heap L ∧ FrameEnd U o U' L ({ frames := 0, cells := 0, slots := 0, locals := 0 } : Room).cells ({ frames := 0, cells := 0, slots := 0, locals := 0 } : Room).slots) := by
  refine MetFree.of_bodySF (plainFor_of_name pn_6) hisR ?_
  intro p e s m args below meth c s₁ Bd hml0 hP hK
  obtain ⟨rfl, hZ, hh⟩ := hP
  have hx := Bd.exec
  have hby := Bd.bytes
  have hml : c.maxLocals = 1 := hml0
  have hown : s.vm.findClass "com/example/reroutine/reroutine/replanning/ExecutedDay" = some m.cls := findClass_of_methodNamed Bd.named
  have hnm := (name_of_methodNamed Bd.named Bd.method).1
  have X0 : Stand p l e ({ frames := 0, cells := 0, slots := 0, locals := 0 } : Room) s m #[(.ref a0_)] below meth c s₁ [] 0 0 := Stand.of_body Bd
  have e0 : s₁.heap = h0 := by rw [← hh, Bd.state]; rfl
  have N0 := Fr.nil n0
  have S0 : ∀ t, Steps p.tables e below (s₁.setTop (mkF m 0 #[rv a0_] [])) t → Steps p.tables e below (s₁.setTop (entryFrame m #[(.ref a0_)] 1)) t := fun t k => castTop (ef_rmQ5 m a0_) k
  obtain ⟨⟨hs0, hx0, hd0⟩, ⟨hs1, hx1, hd1⟩, ⟨hs2, hx2, hd2⟩, ⟨hs3, hx3, hd3⟩, hso, hao, hsz, hq0, hq1, hq2, hq3⟩ := id hst
  obtain ⟨T1, X1, e1, st1⟩ := getF X0 hx hZ hown (host := "") (Or.inl (hw _ (List.mem_of_getElem? (i := 102) rfl))) Via.refl e0 F0 (g := (mkF m 2 #[rv a0_] [(.ref a0_), (.int (1 : Int32))])) rfl rfl (hb hby d15_2)
  obtain ⟨T2, X2, e2, st2⟩ := getS2 X1 hx hZ hown (host := "") (Or.inl (hw _ (List.mem_of_getElem? (i := 34) rfl))) Via.refl e1 (hso.ext hO.2) (g := (mkF m 5 #[rv a0_] [(.int (5 : Int32)), (.int (1 : Int32))])) rfl (hb hby d15_5)
  obtain ⟨fs, hr, hrun, hended, hW, hsame⟩ := X2.leave (v := some (.int (2 : Int32))) (fun h => by rw [Bd.returns] at h; cases h)
  refine ⟨_, _, S0 _ ?_, hrun, hended, _, _, rfl, ?_, ⟨_, rfl⟩, hW, hsame.mono (by decide) (by decide)⟩
  · skip
    show Steps p.tables e below (s₁.setTop (mkF m 0 #[rv a0_] [])) _
    refine XS.iconst X0.here hx rfl (hb hby d15_0) ?_
    show Steps p.tables e below (s₁.setTop (mkF m 1 #[rv a0_] [(.int (1 : Int32))])) _
    refine XS.aloadN X0.here hx rfl (hb hby d15_1) rfl rfl ?_
    show Steps p.tables e below (s₁.setTop (mkF m 2 #[rv a0_] [(.ref a0_), (.int (1 : Int32))])) _
    refine st1 _ ?_
    show Steps p.tables e below (T1.setTop (mkF m 5 #[rv a0_] [(.int (5 : Int32)), (.int (1 : Int32))])) _
    refine st2 _ ?_
    show Steps p.tables e below (T2.setTop (mkF m 8 #[rv a0_] [(.ref oa), (.int (5 : Int32)), (.int (1 : Int32))])) _
    refine X2.arraylength hx (by rw [e2]; exact (hao.ext hO.2).1) (State.isArrayOf_alike hZ.alike hao.2.1) (g := (mkF m 8 #[rv a0_] [(.ref oa), (.int (5 : Int32)), (.int (1 : Int32))])) rfl rfl (hb hby d15_8) _ ?_
    rw [len_of hsz (by decide)]
    show Steps p.tables e below (T2.setTop (mkF m 9 #[rv a0_] [(.int (4 : Int32)), (.int (5 : Int32)), (.int (1 : Int32))])) _
    refine XS.idiv X2.here hx rfl (hb hby d15_9) rfl (by decide) ?_
    show Steps p.tables e below (T2.setTop (mkF m 10 #[rv a0_] [(.int (1 : Int32)), (.int (1 : Int32))])) _
    refine XS.iadd X2.here hx rfl (hb hby d15_10) rfl ?_
    show Steps p.tables e below (T2.setTop (mkF m 11 #[rv a0_] [(.int (2 : Int32))])) _
    exact retI X2 hx Bd.returns (hb hby d15_11) hr
  · show QQ5 Z a0_ t0 t1 t2 t3 d0 d1 d2 d3 oa oc h0 n0 _ T2.heap _
    rw [e2]
    exact ⟨rfl, N0, rfl⟩
def QQ6 (Z : State) (a0_ : Addr) (t0 t1 t2 t3 d0 d1 d2 d3 oa : Addr) (oc : Cell) (h0 : Heap) (n0 : Nat) (v : Option Value) (h : Heap) (L : List Loc) : Prop := v = some (.int (2 : Int32)) ∧ Fr n0 L ∧ h = h0
theorem ef_rmQ6 (m : MethodId) (a0_ : Addr) : entryFrame m #[(.ref a0_)] 1 = mkF m 0 #[rv a0_] [] := by first | (simp [entryFrame, mkF, argsToLocals, Value.category]; done) | rfl
set_option maxRecDepth 65536 in
set_option maxHeartbeats 40000000 in
theorem rmQ6 (l : Launch) (Z : State) (a0 : Array Value) (hw : ∀ d ∈ tables_1, d.before a0 Z = true) (ws : List Jvm.Cond) (a0_ : Addr) (t0 t1 t2 t3 d0 d1 d2 d3 oa : Addr) (oc : Cell) (h0 : Heap) (n0 : Nat) (Z0 : n0 ≤ h0.size) (hO : Old Z n0 h0) (hst : own_St Z t0 t1 t2 t3 d0 d1 d2 d3 oa oc) (F0 : Fld Z h0 a0_ "com/example/reroutine/reroutine/replanning/ExecutedDay" "size" "I" (.int (6 : Int32))) :
    MetFree l (⟨"com/example/reroutine/reroutine/replanning/ExecutedDay", "activitiesReached", "()I"⟩ : MethodName) (head1 (Jvm.Cond.code (⟨"com/example/reroutine/reroutine/replanning/ExecutedDay", "activitiesReached", "()I"⟩ : MethodName) prog_12_method_3_code 1 (some .int) :: ws) ({ frames := 0, cells := 0, slots := 0, locals := 0 } : Room)) (fun a U => a = #[(.ref a0_)] ∧ Z.Warmed39 U.vm ∧ U.heap = h0) (fun _ _ _ _ _ => True) (fun _ U o U' => ∃ v L, o = .returned v ∧ QQ6 Z a0_ t0 t1 t2 t3 d0 d1 d2 d3 oa oc h0 n0 v U'.heap L ∧ FrameEnd U o U' L ({ frames := 0, cells := 0, slots := 0, locals := 0 } : Room).cells ({ frames := 0, cells := 0, slots := 0, locals := 0 } : Room).slots) := by
  refine MetFree.of_bodySF (plainFor_of_name pn_6) hisR ?_
  intro p e s m args below meth c s₁ Bd hml0 hP hK
  obtain ⟨rfl, hZ, hh⟩ := hP
  have hx := Bd.exec
  have hby := Bd.bytes
  have hml : c.maxLocals = 1 := hml0
  have hown : s.vm.findClass "com/example/reroutine/reroutine/replanning/ExecutedDay" = some m.cls := findClass_of_methodNamed Bd.named
  have hnm := (name_of_methodNamed Bd.named Bd.method).1
  have X0 : Stand p l e ({ frames := 0, cells := 0, slots := 0, locals := 0 } : Room) s m #[(.ref a0_)] below meth c s₁ [] 0 0 := Stand.of_body Bd
  have e0 : s₁.heap = h0 := by rw [← hh, Bd.state]; rfl
  have N0 := Fr.nil n0
  have S0 : ∀ t, Steps p.tables e below (s₁.setTop (mkF m 0 #[rv a0_] [])) t → Steps p.tables e below (s₁.setTop (entryFrame m #[(.ref a0_)] 1)) t := fun t k => castTop (ef_rmQ6 m a0_) k
  obtain ⟨⟨hs0, hx0, hd0⟩, ⟨hs1, hx1, hd1⟩, ⟨hs2, hx2, hd2⟩, ⟨hs3, hx3, hd3⟩, hso, hao, hsz, hq0, hq1, hq2, hq3⟩ := id hst
  obtain ⟨T1, X1, e1, st1⟩ := getF X0 hx hZ hown (host := "") (Or.inl (hw _ (List.mem_of_getElem? (i := 102) rfl))) Via.refl e0 F0 (g := (mkF m 2 #[rv a0_] [(.ref a0_), (.int (1 : Int32))])) rfl rfl (hb hby d15_2)
  obtain ⟨T2, X2, e2, st2⟩ := getS2 X1 hx hZ hown (host := "") (Or.inl (hw _ (List.mem_of_getElem? (i := 34) rfl))) Via.refl e1 (hso.ext hO.2) (g := (mkF m 5 #[rv a0_] [(.int (6 : Int32)), (.int (1 : Int32))])) rfl (hb hby d15_5)
  obtain ⟨fs, hr, hrun, hended, hW, hsame⟩ := X2.leave (v := some (.int (2 : Int32))) (fun h => by rw [Bd.returns] at h; cases h)
  refine ⟨_, _, S0 _ ?_, hrun, hended, _, _, rfl, ?_, ⟨_, rfl⟩, hW, hsame.mono (by decide) (by decide)⟩
  · skip
    show Steps p.tables e below (s₁.setTop (mkF m 0 #[rv a0_] [])) _
    refine XS.iconst X0.here hx rfl (hb hby d15_0) ?_
    show Steps p.tables e below (s₁.setTop (mkF m 1 #[rv a0_] [(.int (1 : Int32))])) _
    refine XS.aloadN X0.here hx rfl (hb hby d15_1) rfl rfl ?_
    show Steps p.tables e below (s₁.setTop (mkF m 2 #[rv a0_] [(.ref a0_), (.int (1 : Int32))])) _
    refine st1 _ ?_
    show Steps p.tables e below (T1.setTop (mkF m 5 #[rv a0_] [(.int (6 : Int32)), (.int (1 : Int32))])) _
    refine st2 _ ?_
    show Steps p.tables e below (T2.setTop (mkF m 8 #[rv a0_] [(.ref oa), (.int (6 : Int32)), (.int (1 : Int32))])) _
    refine X2.arraylength hx (by rw [e2]; exact (hao.ext hO.2).1) (State.isArrayOf_alike hZ.alike hao.2.1) (g := (mkF m 8 #[rv a0_] [(.ref oa), (.int (6 : Int32)), (.int (1 : Int32))])) rfl rfl (hb hby d15_8) _ ?_
    rw [len_of hsz (by decide)]
    show Steps p.tables e below (T2.setTop (mkF m 9 #[rv a0_] [(.int (4 : Int32)), (.int (6 : Int32)), (.int (1 : Int32))])) _
    refine XS.idiv X2.here hx rfl (hb hby d15_9) rfl (by decide) ?_
    show Steps p.tables e below (T2.setTop (mkF m 10 #[rv a0_] [(.int (1 : Int32)), (.int (1 : Int32))])) _
    refine XS.iadd X2.here hx rfl (hb hby d15_10) rfl ?_
    show Steps p.tables e below (T2.setTop (mkF m 11 #[rv a0_] [(.int (2 : Int32))])) _
    exact retI X2 hx Bd.returns (hb hby d15_11) hr
  · show QQ6 Z a0_ t0 t1 t2 t3 d0 d1 d2 d3 oa oc h0 n0 _ T2.heap _
    rw [e2]
    exact ⟨rfl, N0, rfl⟩
def QQ7 (Z : State) (a0_ : Addr) (t0 t1 t2 t3 d0 d1 d2 d3 oa : Addr) (oc : Cell) (h0 : Heap) (n0 : Nat) (v : Option Value) (h : Heap) (L : List Loc) : Prop := v = some (.int (2 : Int32)) ∧ Fr n0 L ∧ h = h0
theorem ef_rmQ7 (m : MethodId) (a0_ : Addr) : entryFrame m #[(.ref a0_)] 1 = mkF m 0 #[rv a0_] [] := by first | (simp [entryFrame, mkF, argsToLocals, Value.category]; done) | rfl
set_option maxRecDepth 65536 in
set_option maxHeartbeats 40000000 in
theorem rmQ7 (l : Launch) (Z : State) (a0 : Array Value) (hw : ∀ d ∈ tables_1, d.before a0 Z = true) (ws : List Jvm.Cond) (a0_ : Addr) (t0 t1 t2 t3 d0 d1 d2 d3 oa : Addr) (oc : Cell) (h0 : Heap) (n0 : Nat) (Z0 : n0 ≤ h0.size) (hO : Old Z n0 h0) (hst : own_St Z t0 t1 t2 t3 d0 d1 d2 d3 oa oc) (F0 : Fld Z h0 a0_ "com/example/reroutine/reroutine/replanning/ExecutedDay" "size" "I" (.int (7 : Int32))) :
    MetFree l (⟨"com/example/reroutine/reroutine/replanning/ExecutedDay", "activitiesReached", "()I"⟩ : MethodName) (head1 (Jvm.Cond.code (⟨"com/example/reroutine/reroutine/replanning/ExecutedDay", "activitiesReached", "()I"⟩ : MethodName) prog_12_method_3_code 1 (some .int) :: ws) ({ frames := 0, cells := 0, slots := 0, locals := 0 } : Room)) (fun a U => a = #[(.ref a0_)] ∧ Z.Warmed39 U.vm ∧ U.heap = h0) (fun _ _ _ _ _ => True) (fun _ U o U' => ∃ v L, o = .returned v ∧ QQ7 Z a0_ t0 t1 t2 t3 d0 d1 d2 d3 oa oc h0 n0 v U'.heap L ∧ FrameEnd U o U' L ({ frames := 0, cells := 0, slots := 0, locals := 0 } : Room).cells ({ frames := 0, cells := 0, slots := 0, locals := 0 } : Room).slots) := by
  refine MetFree.of_bodySF (plainFor_of_name pn_6) hisR ?_
  intro p e s m args below meth c s₁ Bd hml0 hP hK
  obtain ⟨rfl, hZ, hh⟩ := hP
  have hx := Bd.exec
  have hby := Bd.bytes
  have hml : c.maxLocals = 1 := hml0
  have hown : s.vm.findClass "com/example/reroutine/reroutine/replanning/ExecutedDay" = some m.cls := findClass_of_methodNamed Bd.named
  have hnm := (name_of_methodNamed Bd.named Bd.method).1
  have X0 : Stand p l e ({ frames := 0, cells := 0, slots := 0, locals := 0 } : Room) s m #[(.ref a0_)] below meth c s₁ [] 0 0 := Stand.of_body Bd
  have e0 : s₁.heap = h0 := by rw [← hh, Bd.state]; rfl
  have N0 := Fr.nil n0
  have S0 : ∀ t, Steps p.tables e below (s₁.setTop (mkF m 0 #[rv a0_] [])) t → Steps p.tables e below (s₁.setTop (entryFrame m #[(.ref a0_)] 1)) t := fun t k => castTop (ef_rmQ7 m a0_) k
  obtain ⟨⟨hs0, hx0, hd0⟩, ⟨hs1, hx1, hd1⟩, ⟨hs2, hx2, hd2⟩, ⟨hs3, hx3, hd3⟩, hso, hao, hsz, hq0, hq1, hq2, hq3⟩ := id hst
  obtain ⟨T1, X1, e1, st1⟩ := getF X0 hx hZ hown (host := "") (Or.inl (hw _ (List.mem_of_getElem? (i := 102) rfl))) Via.refl e0 F0 (g := (mkF m 2 #[rv a0_] [(.ref a0_), (.int (1 : Int32))])) rfl rfl (hb hby d15_2)
  obtain ⟨T2, X2, e2, st2⟩ := getS2 X1 hx hZ hown (host := "") (Or.inl (hw _ (List.mem_of_getElem? (i := 34) rfl))) Via.refl e1 (hso.ext hO.2) (g := (mkF m 5 #[rv a0_] [(.int (7 : Int32)), (.int (1 : Int32))])) rfl (hb hby d15_5)
  obtain ⟨fs, hr, hrun, hended, hW, hsame⟩ := X2.leave (v := some (.int (2 : Int32))) (fun h => by rw [Bd.returns] at h; cases h)
  refine ⟨_, _, S0 _ ?_, hrun, hended, _, _, rfl, ?_, ⟨_, rfl⟩, hW, hsame.mono (by decide) (by decide)⟩
  · skip
    show Steps p.tables e below (s₁.setTop (mkF m 0 #[rv a0_] [])) _
    refine XS.iconst X0.here hx rfl (hb hby d15_0) ?_
    show Steps p.tables e below (s₁.setTop (mkF m 1 #[rv a0_] [(.int (1 : Int32))])) _
    refine XS.aloadN X0.here hx rfl (hb hby d15_1) rfl rfl ?_
    show Steps p.tables e below (s₁.setTop (mkF m 2 #[rv a0_] [(.ref a0_), (.int (1 : Int32))])) _
    refine st1 _ ?_
    show Steps p.tables e below (T1.setTop (mkF m 5 #[rv a0_] [(.int (7 : Int32)), (.int (1 : Int32))])) _
    refine st2 _ ?_
    show Steps p.tables e below (T2.setTop (mkF m 8 #[rv a0_] [(.ref oa), (.int (7 : Int32)), (.int (1 : Int32))])) _
    refine X2.arraylength hx (by rw [e2]; exact (hao.ext hO.2).1) (State.isArrayOf_alike hZ.alike hao.2.1) (g := (mkF m 8 #[rv a0_] [(.ref oa), (.int (7 : Int32)), (.int (1 : Int32))])) rfl rfl (hb hby d15_8) _ ?_
    rw [len_of hsz (by decide)]
    show Steps p.tables e below (T2.setTop (mkF m 9 #[rv a0_] [(.int (4 : Int32)), (.int (7 : Int32)), (.int (1 : Int32))])) _
    refine XS.idiv X2.here hx rfl (hb hby d15_9) rfl (by decide) ?_
    show Steps p.tables e below (T2.setTop (mkF m 10 #[rv a0_] [(.int (1 : Int32)), (.int (1 : Int32))])) _
    refine XS.iadd X2.here hx rfl (hb hby d15_10) rfl ?_
    show Steps p.tables e below (T2.setTop (mkF m 11 #[rv a0_] [(.int (2 : Int32))])) _
    exact retI X2 hx Bd.returns (hb hby d15_11) hr
  · show QQ7 Z a0_ t0 t1 t2 t3 d0 d1 d2 d3 oa oc h0 n0 _ T2.heap _
    rw [e2]
    exact ⟨rfl, N0, rfl⟩
def QQ8 (Z : State) (a0_ : Addr) (t0 t1 t2 t3 d0 d1 d2 d3 oa : Addr) (oc : Cell) (h0 : Heap) (n0 : Nat) (v : Option Value) (h : Heap) (L : List Loc) : Prop := v = some (.int (3 : Int32)) ∧ Fr n0 L ∧ h = h0
theorem ef_rmQ8 (m : MethodId) (a0_ : Addr) : entryFrame m #[(.ref a0_)] 1 = mkF m 0 #[rv a0_] [] := by first | (simp [entryFrame, mkF, argsToLocals, Value.category]; done) | rfl
set_option maxRecDepth 65536 in
set_option maxHeartbeats 40000000 in
theorem rmQ8 (l : Launch) (Z : State) (a0 : Array Value) (hw : ∀ d ∈ tables_1, d.before a0 Z = true) (ws : List Jvm.Cond) (a0_ : Addr) (t0 t1 t2 t3 d0 d1 d2 d3 oa : Addr) (oc : Cell) (h0 : Heap) (n0 : Nat) (Z0 : n0 ≤ h0.size) (hO : Old Z n0 h0) (hst : own_St Z t0 t1 t2 t3 d0 d1 d2 d3 oa oc) (F0 : Fld Z h0 a0_ "com/example/reroutine/reroutine/replanning/ExecutedDay" "size" "I" (.int (8 : Int32))) :
    MetFree l (⟨"com/example/reroutine/reroutine/replanning/ExecutedDay", "activitiesReached", "()I"⟩ : MethodName) (head1 (Jvm.Cond.code (⟨"com/example/reroutine/reroutine/replanning/ExecutedDay", "activitiesReached", "()I"⟩ : MethodName) prog_12_method_3_code 1 (some .int) :: ws) ({ frames := 0, cells := 0, slots := 0, locals := 0 } : Room)) (fun a U => a = #[(.ref a0_)] ∧ Z.Warmed39 U.vm ∧ U.heap = h0) (fun _ _ _ _ _ => True) (fun _ U o U' => ∃ v L, o = .returned v ∧ QQ8 Z a0_ t0 t1 t2 t3 d0 d1 d2 d3 oa oc h0 n0 v U'.heap L ∧ FrameEnd U o U' L ({ frames := 0, cells := 0, slots := 0, locals := 0 } : Room).cells ({ frames := 0, cells := 0, slots := 0, locals := 0 } : Room).slots) := by
  refine MetFree.of_bodySF (plainFor_of_name pn_6) hisR ?_
  intro p e s m args below meth c s₁ Bd hml0 hP hK
  obtain ⟨rfl, hZ, hh⟩ := hP
  have hx := Bd.exec
  have hby := Bd.bytes
  have hml : c.maxLocals = 1 := hml0
  have hown : s.vm.findClass "com/example/reroutine/reroutine/replanning/ExecutedDay" = some m.cls := findClass_of_methodNamed Bd.named
  have hnm := (name_of_methodNamed Bd.named Bd.method).1
  have X0 : Stand p l e ({ frames := 0, cells := 0, slots := 0, locals := 0 } : Room) s m #[(.ref a0_)] below meth c s₁ [] 0 0 := Stand.of_body Bd
  have e0 : s₁.heap = h0 := by rw [← hh, Bd.state]; rfl
  have N0 := Fr.nil n0
  have S0 : ∀ t, Steps p.tables e below (s₁.setTop (mkF m 0 #[rv a0_] [])) t → Steps p.tables e below (s₁.setTop (entryFrame m #[(.ref a0_)] 1)) t := fun t k => castTop (ef_rmQ8 m a0_) k
  obtain ⟨⟨hs0, hx0, hd0⟩, ⟨hs1, hx1, hd1⟩, ⟨hs2, hx2, hd2⟩, ⟨hs3, hx3, hd3⟩, hso, hao, hsz, hq0, hq1, hq2, hq3⟩ := id hst
  obtain ⟨T1, X1, e1, st1⟩ := getF X0 hx hZ hown (host := "") (Or.inl (hw _ (List.mem_of_getElem? (i := 102) rfl))) Via.refl e0 F0 (g := (mkF m 2 #[rv a0_] [(.ref a0_), (.int (1 : Int32))])) rfl rfl (hb hby d15_2)
  obtain ⟨T2, X2, e2, st2⟩ := getS2 X1 hx hZ hown (host := "") (Or.inl (hw _ (List.mem_of_getElem? (i := 34) rfl))) Via.refl e1 (hso.ext hO.2) (g := (mkF m 5 #[rv a0_] [(.int (8 : Int32)), (.int (1 : Int32))])) rfl (hb hby d15_5)
  obtain ⟨fs, hr, hrun, hended, hW, hsame⟩ := X2.leave (v := some (.int (3 : Int32))) (fun h => by rw [Bd.returns] at h; cases h)
  refine ⟨_, _, S0 _ ?_, hrun, hended, _, _, rfl, ?_, ⟨_, rfl⟩, hW, hsame.mono (by decide) (by decide)⟩
  · skip
    show Steps p.tables e below (s₁.setTop (mkF m 0 #[rv a0_] [])) _
    refine XS.iconst X0.here hx rfl (hb hby d15_0) ?_
    show Steps p.tables e below (s₁.setTop (mkF m 1 #[rv a0_] [(.int (1 : Int32))])) _
    refine XS.aloadN X0.here hx rfl (hb hby d15_1) rfl rfl ?_
    show Steps p.tables e below (s₁.setTop (mkF m 2 #[rv a0_] [(.ref a0_), (.int (1 : Int32))])) _
    refine st1 _ ?_
    show Steps p.tables e below (T1.setTop (mkF m 5 #[rv a0_] [(.int (8 : Int32)), (.int (1 : Int32))])) _
    refine st2 _ ?_
    show Steps p.tables e below (T2.setTop (mkF m 8 #[rv a0_] [(.ref oa), (.int (8 : Int32)), (.int (1 : Int32))])) _
    refine X2.arraylength hx (by rw [e2]; exact (hao.ext hO.2).1) (State.isArrayOf_alike hZ.alike hao.2.1) (g := (mkF m 8 #[rv a0_] [(.ref oa), (.int (8 : Int32)), (.int (1 : Int32))])) rfl rfl (hb hby d15_8) _ ?_
    rw [len_of hsz (by decide)]
    show Steps p.tables e below (T2.setTop (mkF m 9 #[rv a0_] [(.int (4 : Int32)), (.int (8 : Int32)), (.int (1 : Int32))])) _
    refine XS.idiv X2.here hx rfl (hb hby d15_9) rfl (by decide) ?_
    show Steps p.tables e below (T2.setTop (mkF m 10 #[rv a0_] [(.int (2 : Int32)), (.int (1 : Int32))])) _
    refine XS.iadd X2.here hx rfl (hb hby d15_10) rfl ?_
    show Steps p.tables e below (T2.setTop (mkF m 11 #[rv a0_] [(.int (3 : Int32))])) _
    exact retI X2 hx Bd.returns (hb hby d15_11) hr
  · show QQ8 Z a0_ t0 t1 t2 t3 d0 d1 d2 d3 oa oc h0 n0 _ T2.heap _
    rw [e2]
    exact ⟨rfl, N0, rfl⟩
theorem pd_11 : parseMethodDescriptor "(C)Ljava/lang/String;" = some ⟨[.char], some (.object "java/lang/String")⟩ := by decide +kernel
theorem pd_12 : parseMethodDescriptor "(Ljava/lang/String;)V" = some ⟨[(.object "java/lang/String")], none⟩ := by decide +kernel
theorem pd_13 : parseMethodDescriptor "(ILjava/lang/String;Ljava/lang/String;Ljava/lang/String;)Lcom/example/reroutine/reroutine/scenario/Event;" = some ⟨[.int, (.object "java/lang/String"), (.object "java/lang/String"), (.object "java/lang/String")], some (.object "com/example/reroutine/reroutine/scenario/Event")⟩ := by decide +kernel
theorem pd_14 : parseMethodDescriptor "(Lcom/example/reroutine/reroutine/scenario/Event;)V" = some ⟨[(.object "com/example/reroutine/reroutine/scenario/Event")], none⟩ := by decide +kernel
theorem pn_8 : plainName "com/example/reroutine/reroutine/replanning/ExecutedDayActivitiesReachedPinLaw" = true := by first | (simp [plainName, overriddenIn]; done) | decide +kernel
def Q0 (Z : State) (u0 : Int32) (u1 : Int32) (u2 : Int32) (t0 t1 t2 t3 d0 d1 d2 d3 oa : Addr) (oc : Cell) (G1 : Int32) (h0 : Heap) (n0 : Nat) (v : Option Value) (h : Heap) (L : List Loc) : Prop := v = some (.int 1) ∧ Fr n0 L
theorem ef_rm0 (m : MethodId) (u0 : Int32) (u1 : Int32) (u2 : Int32) : entryFrame m #[(.int u0), (.int u1), (.int u2)] maxLocals = mkF m 0 #[iv u0, iv u1, iv u2, .unset, .unset, .unset, .unset, .unset, .unset, .unset, .unset, .unset, .unset, .unset] [] := by first | (simp [entryFrame, mkF, argsToLocals, Value.category, maxLocals]; done) | rfl
set_option maxRecDepth 65536 in
set_option maxHeartbeats 40000000 in
theorem rm0 (l : Launch) (Z : State) (a0 : Array Value) (hw : ∀ d ∈ tables_1, d.before a0 Z = true) (ws : List Jvm.Cond) (u0 : Int32) (u1 : Int32) (u2 : Int32) (t0 t1 t2 t3 d0 d1 d2 d3 oa : Addr) (oc : Cell) (G1 : Int32) (h0 : Heap) (n0 : Nat) (Z0 : n0 ≤ h0.size) (hO : Old Z n0 h0) (hst : own_St Z t0 t1 t2 t3 d0 d1 d2 d3 oa oc) (O2 : Sta Z Z.heap "java/lang/String" "COMPACT_STRINGS" "Z" (.int G1)) (P3 : ¬ (G1 = (0 : Int32))) :
    MetFree l x (head1 (Jvm.Cond.code x code maxLocals ret :: ws) room_1) (fun a U => a = #[(.int u0), (.int u1), (.int u2)] ∧ Z.Warmed39 U.vm ∧ U.heap = h0) (fun _ _ _ _ _ => True) (fun _ U o U' => ∃ v L, o = .returned v ∧ Q0 Z u0 u1 u2 t0 t1 t2 t3 d0 d1 d2 d3 oa oc G1 h0 n0 v U'.heap L ∧ FrameEnd U o U' L room_1.cells room_1.slots) := by
  refine MetFree.of_bodySF (plainFor_of_name pn_8) hisR ?_
  intro p e s m args below meth c s₁ Bd hml0 hP hK
  obtain ⟨rfl, hZ, hh⟩ := hP
  have hx := Bd.exec
  have hby := Bd.bytes
  have hml : c.maxLocals = 14 := hml0
  have hown : s.vm.findClass "com/example/reroutine/reroutine/replanning/ExecutedDayActivitiesReachedPinLaw" = some m.cls := findClass_of_methodNamed Bd.named
  have hnm := (name_of_methodNamed Bd.named Bd.method).1
  have X0 : Stand p l e room_1 s m #[(.int u0), (.int u1), (.int u2)] below meth c s₁ [] 0 0 := Stand.of_body Bd
  have e0 : s₁.heap = h0 := by rw [← hh, Bd.state]; rfl
  have N0 := Fr.nil n0
  have S0 : ∀ t, Steps p.tables e below (s₁.setTop (mkF m 0 #[iv u0, iv u1, iv u2, .unset, .unset, .unset, .unset, .unset, .unset, .unset, .unset, .unset, .unset, .unset] [])) t → Steps p.tables e below (s₁.setTop (entryFrame m #[(.int u0), (.int u1), (.int u2)] maxLocals)) t := fun t k => castTop (ef_rm0 m u0 u1 u2) k
  obtain ⟨_, _, ⟨T1, L1, k1, n1⟩, -, X1, ⟨Lc1, hQ1, l1, y1, z1⟩, st1⟩ := Jvm.LawKit.callS X0 hx (y := (⟨"java/lang/String", "valueOf", "(C)Ljava/lang/String;"⟩ : MethodName)) hown (mvT hZ (hw _ (List.mem_of_getElem? (i := 1) rfl))) (mvT hZ (hw _ (List.mem_of_getElem? (i := 2) rfl))) (mvT hZ (hw _ (List.mem_of_getElem? (i := 3) rfl))) (mvT hZ (hw _ (List.mem_of_getElem? (i := 4) rfl))) (by decide) (backOf (W := 0) (rmVal l Z a0 hw [] ((u2 &&& (255 : Int32)).toUInt32.toUInt16.toUInt32.toInt32) G1 h0 n0 Z0 hO O2 P3 (own_ch _)) hZ (hw _ (List.mem_of_getElem? (i := 4) rfl)) (hw _ (List.mem_of_getElem? (i := 3) rfl)) (by decide) (by decide)) (g := (mkF m 20 #[iv u0, iv u1, iv u2, iv ((u0 &&& (2147483647 : Int32)) % (9 : Int32)), iv (u1 &&& (2147483647 : Int32)), .unset, .unset, .unset, .unset, .unset, .unset, .unset, .unset, .unset] [(.int ((u2 &&& (255 : Int32)).toUInt32.toUInt16.toUInt32.toInt32))])) rfl (by rw [hml]; rfl) (argsL := [(.int ((u2 &&& (255 : Int32)).toUInt32.toUInt16.toUInt32.toInt32))]) (rest := []) (lenOf pd_11 rfl) rfl (by show 2 * 0 + _ ≤ _; exact Nat.le_of_eq rfl) (hb hby at_20) (fun _ _ => ⟨rfl, e0, (by decide : 0 + 2 ≤ _), (by decide : 0 + 5 ≤ _)⟩)
  dsimp only [Pt.U, Pt.locs, Pt.cells, Pt.slots] at X1 l1 y1 z1 st1 hQ1
  subst y1 z1
  obtain ⟨sv1, rfl, Nq1, Kq1, geq1, szq1, Eq1⟩ := hQ1
  have N1 : Fr n0 L1 := by rw [l1]; exact Fr.app N0 Nq1
  have Z1 : n0 ≤ T1.heap.size := Nat.le_trans Z0 Kq1.1
  have Od2 := hO.keep Kq1 all0
  obtain ⟨_, _, ⟨T3, L3, k3, n3⟩, -, X3, ⟨Lc3, hQ3, l3, y3, z3⟩, st3⟩ := Jvm.LawKit.callS X1 hx (y := (⟨"java/lang/String", "valueOf", "(C)Ljava/lang/String;"⟩ : MethodName)) hown (mvT hZ (hw _ (List.mem_of_getElem? (i := 1) rfl))) (mvT hZ (hw _ (List.mem_of_getElem? (i := 2) rfl))) (mvT hZ (hw _ (List.mem_of_getElem? (i := 3) rfl))) (mvT hZ (hw _ (List.mem_of_getElem? (i := 4) rfl))) (by decide) (backOf (W := 0) (rmVal l Z a0 hw [] ((((u2.toUInt32 >>> ((8 : Int32) &&& 31).toUInt32).toInt32) &&& (255 : Int32)).toUInt32.toUInt16.toUInt32.toInt32) G1 T1.heap n0 Z1 Od2 O2 P3 (own_ch _)) hZ (hw _ (List.mem_of_getElem? (i := 4) rfl)) (hw _ (List.mem_of_getElem? (i := 3) rfl)) (by decide) (by decide)) (g := (mkF m 34 #[iv u0, iv u1, iv u2, iv ((u0 &&& (2147483647 : Int32)) % (9 : Int32)), iv (u1 &&& (2147483647 : Int32)), rv sv1, .unset, .unset, .unset, .unset, .unset, .unset, .unset, .unset] [(.int ((((u2.toUInt32 >>> ((8 : Int32) &&& 31).toUInt32).toInt32) &&& (255 : Int32)).toUInt32.toUInt16.toUInt32.toInt32))])) rfl (by rw [hml]; rfl) (argsL := [(.int ((((u2.toUInt32 >>> ((8 : Int32) &&& 31).toUInt32).toInt32) &&& (255 : Int32)).toUInt32.toUInt16.toUInt32.toInt32))]) (rest := []) (lenOf pd_11 rfl) rfl (by show 2 * 0 + _ ≤ _; exact Nat.le_of_eq rfl) (hb hby at_34) (fun _ _ => ⟨rfl, rfl, (by decide : 2 + 2 ≤ _), (by decide : 5 + 5 ≤ _)⟩)
  dsimp only [Pt.U, Pt.locs, Pt.cells, Pt.slots] at X3 l3 y3 z3 st3 hQ3
  subst y3 z3
  obtain ⟨sv3, rfl, Nq3, Kq3, geq3, szq3, Eq3⟩ := hQ3
  have N3 : Fr n0 L3 := by rw [l3]; exact Fr.app N1 Nq3
  have Z3 : n0 ≤ T3.heap.size := Nat.le_trans Z1 Kq3.1
  have ne_sv1_sv3 : sv1 ≠ sv3 := Nat.ne_of_lt (Nat.lt_of_lt_of_le (Eq1).lt szq3)
  have Od4 := Od2.keep Kq3 all0
  have f5 := Eq1.keep Kq3
  obtain ⟨_, _, ⟨T6, L6, k6, n6⟩, -, X6, ⟨Lc6, hQ6, l6, y6, z6⟩, st6⟩ := Jvm.LawKit.callS X3 hx (y := (⟨"java/lang/String", "valueOf", "(C)Ljava/lang/String;"⟩ : MethodName)) hown (mvT hZ (hw _ (List.mem_of_getElem? (i := 1) rfl))) (mvT hZ (hw _ (List.mem_of_getElem? (i := 2) rfl))) (mvT hZ (hw _ (List.mem_of_getElem? (i := 3) rfl))) (mvT hZ (hw _ (List.mem_of_getElem? (i := 4) rfl))) (by decide) (backOf (W := 0) (rmVal l Z a0 hw [] ((((u2.toUInt32 >>> ((16 : Int32) &&& 31).toUInt32).toInt32) &&& (255 : Int32)).toUInt32.toUInt16.toUInt32.toInt32) G1 T3.heap n0 Z3 Od4 O2 P3 (own_ch _)) hZ (hw _ (List.mem_of_getElem? (i := 4) rfl)) (hw _ (List.mem_of_getElem? (i := 3) rfl)) (by decide) (by decide)) (g := (mkF m 48 #[iv u0, iv u1, iv u2, iv ((u0 &&& (2147483647 : Int32)) % (9 : Int32)), iv (u1 &&& (2147483647 : Int32)), rv sv1, rv sv3, .unset, .unset, .unset, .unset, .unset, .unset, .unset] [(.int ((((u2.toUInt32 >>> ((16 : Int32) &&& 31).toUInt32).toInt32) &&& (255 : Int32)).toUInt32.toUInt16.toUInt32.toInt32))])) rfl (by rw [hml]; rfl) (argsL := [(.int ((((u2.toUInt32 >>> ((16 : Int32) &&& 31).toUInt32).toInt32) &&& (255 : Int32)).toUInt32.toUInt16.toUInt32.toInt32))]) (rest := []) (lenOf pd_11 rfl) rfl (by show 2 * 0 + _ ≤ _; exact Nat.le_of_eq rfl) (hb hby at_48) (fun _ _ => ⟨rfl, rfl, (by decide : 4 + 2 ≤ _), (by decide : 10 + 5 ≤ _)⟩)
  dsimp only [Pt.U, Pt.locs, Pt.cells, Pt.slots] at X6 l6 y6 z6 st6 hQ6
  subst y6 z6
  obtain ⟨sv6, rfl, Nq6, Kq6, geq6, szq6, Eq6⟩ := hQ6
  have N6 : Fr n0 L6 := by rw [l6]; exact Fr.app N3 Nq6
  have Z6 : n0 ≤ T6.heap.size := Nat.le_trans Z3 Kq6.1
  have ne_sv1_sv6 : sv1 ≠ sv6 := Nat.ne_of_lt (Nat.lt_of_lt_of_le (f5).lt szq6)
  have ne_sv3_sv6 : sv3 ≠ sv6 := Nat.ne_of_lt (Nat.lt_of_lt_of_le (Eq3).lt szq6)
  have Od7 := Od4.keep Kq6 all0
  have f8 := f5.keep Kq6
  have f9 := Eq3.keep Kq6
  obtain ⟨T10, h10, X10, e10, E10, A10, D10, -, st10⟩ := newO X6 hx hZ hown (hw _ (List.mem_of_getElem? (i := 27) rfl)) (hw _ (List.mem_of_getElem? (i := 28) rfl)) (hw _ (List.mem_of_getElem? (i := 29) rfl)) rfl (g := (mkF m 53 #[iv u0, iv u1, iv u2, iv ((u0 &&& (2147483647 : Int32)) % (9 : Int32)), iv (u1 &&& (2147483647 : Int32)), rv sv1, rv sv3, rv sv6, .unset, .unset, .unset, .unset, .unset, .unset] [])) rfl (hb hby at_53) (by decide) (by decide)
  obtain ⟨b10, g10⟩ : ∃ z, z = T6.heap.size := ⟨_, rfl⟩
  rw [← g10] at A10 D10 st10
  have ge_b10 : n0 ≤ b10 := Nat.le_trans Z6 (Nat.le_of_eq g10.symm)
  have ne_sv1_b10 : sv1 ≠ b10 := Nat.ne_of_lt (Nat.lt_of_lt_of_le (f8).lt (Nat.le_of_eq g10.symm))
  have ne_sv3_b10 : sv3 ≠ b10 := Nat.ne_of_lt (Nat.lt_of_lt_of_le (f9).lt (Nat.le_of_eq g10.symm))
  have ne_sv6_b10 : sv6 ≠ b10 := Nat.ne_of_lt (Nat.lt_of_lt_of_le (Eq6).lt (Nat.le_of_eq g10.symm))
  have Od11 := Od7.ext E10
  have f12 := f8.ext E10
  have f13 := f9.ext E10
  have f14 := Eq6.ext E10
  have F10_times : Fld Z h10 b10 "com/example/reroutine/reroutine/replanning/ExecutedDay" "times" "[I" .null := D10 (Or.inl (hw _ (List.mem_of_getElem? (i := 38) rfl))) (ty := (.array .int)) (by decide)
  have F10_person : Fld Z h10 b10 "com/example/reroutine/reroutine/replanning/ExecutedDay" "person" "Ljava/lang/String;" .null := D10 (Or.inr (hw _ (List.mem_of_getElem? (i := 45) rfl))) (ty := (.object "java/lang/String")) (by decide)
  have F10_size : Fld Z h10 b10 "com/example/reroutine/reroutine/replanning/ExecutedDay" "size" "I" (.int (0 : Int32)) := D10 (Or.inl (hw _ (List.mem_of_getElem? (i := 103) rfl))) (ty := .int) (by decide)
  have Z10 : n0 ≤ h10.size := Nat.le_trans Z6 E10.1
  obtain ⟨_, _, ⟨T15, L15, k15, n15⟩, -, X15, ⟨Lc15, hQ15, l15, y15, z15⟩, st15⟩ := X10.specialBack hx (y := (⟨"com/example/reroutine/reroutine/replanning/ExecutedDay", "<init>", "(Ljava/lang/String;)V"⟩ : MethodName)) rfl hown (mvT hZ (hw _ (List.mem_of_getElem? (i := 30) rfl))) (mvT hZ (hw _ (List.mem_of_getElem? (i := 31) rfl))) (mvT hZ (hw _ (List.mem_of_getElem? (i := 32) rfl))) (by decide) (backOf (W := 1) (rmDayI l Z a0 hw [] b10 sv1 t0 t1 t2 t3 d0 d1 d2 d3 oa oc h10 n0 Z10 Od11 hst A10 F10_times F10_person F10_size ge_b10 f12) hZ (hw _ (List.mem_of_getElem? (i := 32) rfl)) (hw _ (List.mem_of_getElem? (i := 29) rfl)) (by decide) (by decide)) (g := (mkF m 59 #[iv u0, iv u1, iv u2, iv ((u0 &&& (2147483647 : Int32)) % (9 : Int32)), iv (u1 &&& (2147483647 : Int32)), rv sv1, rv sv3, rv sv6, .unset, .unset, .unset, .unset, .unset, .unset] [(.ref sv1), (.ref b10), (.ref b10)])) rfl (by rw [hml]; rfl) (Steps.refl _) (a := b10) (argsL := [(.ref sv1)]) (rest := [(.ref b10)]) (lenOf pd_12 rfl) rfl (by show 2 * 0 + _ ≤ _; exact Nat.le_of_eq rfl) (hb hby at_59) (fun _ _ => ⟨rfl, e10, (by decide : 7 + 1 ≤ _), (by decide : 18 + 4 ≤ _)⟩)
  dsimp only [Pt.U, Pt.locs, Pt.cells, Pt.slots] at X15 l15 y15 z15 st15 hQ15
  subst y15 z15
  obtain ⟨rfl, Nq15, Kq15, Bq15⟩ := hQ15
  have N15 : Fr n0 L15 := by rw [l15]; exact Fr.app N6 Nq15
  have Z15 : n0 ≤ T15.heap.size := Nat.le_trans Z10 Kq15.1
  have Od16 := Od11.keep Kq15 (allS ge_b10 all0)
  have f17 := f12.keep Kq15
  have f18 := f13.keep Kq15
  have f19 := f14.keep Kq15
  have f20 := A10.keep Kq15
  have oe15 := Bq15.1
  obtain ⟨_, _, ⟨T21, L21, k21, n21⟩, -, X21, ⟨Lc21, hQ21, l21, y21, z21⟩, st21⟩ := Jvm.LawKit.callS X15 hx (y := (⟨"com/example/reroutine/reroutine/scenario/Event", "actEnd", "(ILjava/lang/String;Ljava/lang/String;Ljava/lang/String;)Lcom/example/reroutine/reroutine/scenario/Event;"⟩ : MethodName)) hown (mvT hZ (hw _ (List.mem_of_getElem? (i := 46) rfl))) (mvT hZ (hw _ (List.mem_of_getElem? (i := 47) rfl))) (mvT hZ (hw _ (List.mem_of_getElem? (i := 48) rfl))) (mvT hZ (hw _ (List.mem_of_getElem? (i := 49) rfl))) (by decide) (backOf (W := 0) (rmEv0 l Z a0 hw [] (u1 &&& (2147483647 : Int32)) sv1 sv3 sv6 t0 t1 t2 t3 d0 d1 d2 d3 oa oc T15.heap n0 Z15 Od16 hst (own_tm _)) hZ (hw _ (List.mem_of_getElem? (i := 49) rfl)) (hw _ (List.mem_of_getElem? (i := 48) rfl)) (by decide) (by decide)) (g := (mkF m 72 #[iv u0, iv u1, iv u2, iv ((u0 &&& (2147483647 : Int32)) % (9 : Int32)), iv (u1 &&& (2147483647 : Int32)), rv sv1, rv sv3, rv sv6, rv b10, .unset, .unset, .unset, .unset, .unset] [(.ref sv6), (.ref sv3), (.ref sv1), (.int (u1 &&& (2147483647 : Int32)))])) rfl (by rw [hml]; rfl) (argsL := [(.int (u1 &&& (2147483647 : Int32))), (.ref sv1), (.ref sv3), (.ref sv6)]) (rest := []) (lenOf pd_13 rfl) rfl (by show 2 * 0 + _ ≤ _; exact Nat.le_of_eq rfl) (hb hby at_72) (fun _ _ => ⟨rfl, rfl, (by decide : 8 + 1 ≤ _), (by decide : 22 + 5 ≤ _)⟩)
  dsimp only [Pt.U, Pt.locs, Pt.cells, Pt.slots] at X21 l21 y21 z21 st21 hQ21
  subst y21 z21
  obtain ⟨ev21, rfl, Nq21, Kq21, geq21, szq21, Eq21, Fm21, Ft21⟩ := hQ21
  have N21 : Fr n0 L21 := by rw [l21]; exact Fr.app N15 Nq21
  have Z21 : n0 ≤ T21.heap.size := Nat.le_trans Z15 Kq21.1
  have ne_b10_ev21 : b10 ≠ ev21 := Nat.ne_of_lt (Nat.lt_of_lt_of_le (oe15).lt szq21)
  have ne_sv1_ev21 : sv1 ≠ ev21 := Nat.ne_of_lt (Nat.lt_of_lt_of_le (f17).lt szq21)
  have ne_sv3_ev21 : sv3 ≠ ev21 := Nat.ne_of_lt (Nat.lt_of_lt_of_le (f18).lt szq21)
  have ne_sv6_ev21 : sv6 ≠ ev21 := Nat.ne_of_lt (Nat.lt_of_lt_of_le (f19).lt szq21)
  have Od22 := Od16.keep Kq21 all0
  have f23 := f17.keep Kq21
  have f24 := f18.keep Kq21
  have f25 := f19.keep Kq21
  have f26 := oe15.keep Kq21
  have f27 := Bq15.keep0 Kq21
  obtain ⟨_, _, ⟨T28, L28, k28, n28⟩, -, X28, ⟨Lc28, hQ28, l28, y28, z28⟩, st28⟩ := Jvm.LawKit.callS X21 hx (y := (⟨"com/example/reroutine/reroutine/scenario/Event", "departure", "(ILjava/lang/String;Ljava/lang/String;Ljava/lang/String;)Lcom/example/reroutine/reroutine/scenario/Event;"⟩ : MethodName)) hown (mvT hZ (hw _ (List.mem_of_getElem? (i := 82) rfl))) (mvT hZ (hw _ (List.mem_of_getElem? (i := 83) rfl))) (mvT hZ (hw _ (List.mem_of_getElem? (i := 48) rfl))) (mvT hZ (hw _ (List.mem_of_getElem? (i := 84) rfl))) (by decide) (backOf (W := 0) (rmEv1 l Z a0 hw [] (u1 &&& (2147483647 : Int32)) sv1 sv3 sv6 t0 t1 t2 t3 d0 d1 d2 d3 oa oc T21.heap n0 Z21 Od22 hst (own_tm _)) hZ (hw _ (List.mem_of_getElem? (i := 84) rfl)) (hw _ (List.mem_of_getElem? (i := 48) rfl)) (by decide) (by decide)) (g := (mkF m 85 #[iv u0, iv u1, iv u2, iv ((u0 &&& (2147483647 : Int32)) % (9 : Int32)), iv (u1 &&& (2147483647 : Int32)), rv sv1, rv sv3, rv sv6, rv b10, rv ev21, .unset, .unset, .unset, .unset] [(.ref sv6), (.ref sv3), (.ref sv1), (.int (u1 &&& (2147483647 : Int32)))])) rfl (by rw [hml]; rfl) (argsL := [(.int (u1 &&& (2147483647 : Int32))), (.ref sv1), (.ref sv3), (.ref sv6)]) (rest := []) (lenOf pd_13 rfl) rfl (by show 2 * 0 + _ ≤ _; exact Nat.le_of_eq rfl) (hb hby at_85) (fun _ _ => ⟨rfl, rfl, (by decide : 9 + 1 ≤ _), (by decide : 27 + 5 ≤ _)⟩)
  dsimp only [Pt.U, Pt.locs, Pt.cells, Pt.slots] at X28 l28 y28 z28 st28 hQ28
  subst y28 z28
  obtain ⟨ev28, rfl, Nq28, Kq28, geq28, szq28, Eq28, Fm28, Ft28⟩ := hQ28
  have N28 : Fr n0 L28 := by rw [l28]; exact Fr.app N21 Nq28
  have Z28 : n0 ≤ T28.heap.size := Nat.le_trans Z21 Kq28.1
  have ne_b10_ev28 : b10 ≠ ev28 := Nat.ne_of_lt (Nat.lt_of_lt_of_le (f26).lt szq28)
  have ne_ev21_ev28 : ev21 ≠ ev28 := Nat.ne_of_lt (Nat.lt_of_lt_of_le (Eq21).lt szq28)
  have ne_sv1_ev28 : sv1 ≠ ev28 := Nat.ne_of_lt (Nat.lt_of_lt_of_le (f23).lt szq28)
  have ne_sv3_ev28 : sv3 ≠ ev28 := Nat.ne_of_lt (Nat.lt_of_lt_of_le (f24).lt szq28)
  have ne_sv6_ev28 : sv6 ≠ ev28 := Nat.ne_of_lt (Nat.lt_of_lt_of_le (f25).lt szq28)
  have Od29 := Od22.keep Kq28 all0
  have f30 := f23.keep Kq28
  have f31 := f24.keep Kq28
  have f32 := f25.keep Kq28
  have f33 := f26.keep Kq28
  have f34 := Eq21.keep Kq28
  have f35 := Fm21.keep Kq28 nin0
  have f36 := Ft21.keep Kq28 nin0
  have f37 := f27.keep0 Kq28
  obtain ⟨_, _, ⟨T38, L38, k38, n38⟩, -, X38, ⟨Lc38, hQ38, l38, y38, z38⟩, st38⟩ := Jvm.LawKit.callS X28 hx (y := (⟨"com/example/reroutine/reroutine/scenario/Event", "arrival", "(ILjava/lang/String;Ljava/lang/String;Ljava/lang/String;)Lcom/example/reroutine/reroutine/scenario/Event;"⟩ : MethodName)) hown (mvT hZ (hw _ (List.mem_of_getElem? (i := 87) rfl))) (mvT hZ (hw _ (List.mem_of_getElem? (i := 88) rfl))) (mvT hZ (hw _ (List.mem_of_getElem? (i := 48) rfl))) (mvT hZ (hw _ (List.mem_of_getElem? (i := 89) rfl))) (by decide) (backOf (W := 0) (rmEv2 l Z a0 hw [] (u1 &&& (2147483647 : Int32)) sv1 sv3 sv6 t0 t1 t2 t3 d0 d1 d2 d3 oa oc T28.heap n0 Z28 Od29 hst (own_tm _)) hZ (hw _ (List.mem_of_getElem? (i := 89) rfl)) (hw _ (List.mem_of_getElem? (i := 48) rfl)) (by decide) (by decide)) (g := (mkF m 98 #[iv u0, iv u1, iv u2, iv ((u0 &&& (2147483647 : Int32)) % (9 : Int32)), iv (u1 &&& (2147483647 : Int32)), rv sv1, rv sv3, rv sv6, rv b10, rv ev21, rv ev28, .unset, .unset, .unset] [(.ref sv6), (.ref sv3), (.ref sv1), (.int (u1 &&& (2147483647 : Int32)))])) rfl (by rw [hml]; rfl) (argsL := [(.int (u1 &&& (2147483647 : Int32))), (.ref sv1), (.ref sv3), (.ref sv6)]) (rest := []) (lenOf pd_13 rfl) rfl (by show 2 * 0 + _ ≤ _; exact Nat.le_of_eq rfl) (hb hby at_98) (fun _ _ => ⟨rfl, rfl, (by decide : 10 + 1 ≤ _), (by decide : 32 + 5 ≤ _)⟩)
  dsimp only [Pt.U, Pt.locs, Pt.cells, Pt.slots] at X38 l38 y38 z38 st38 hQ38
  subst y38 z38
  obtain ⟨ev38, rfl, Nq38, Kq38, geq38, szq38, Eq38, Fm38, Ft38⟩ := hQ38
  have N38 : Fr n0 L38 := by rw [l38]; exact Fr.app N28 Nq38
  have Z38 : n0 ≤ T38.heap.size := Nat.le_trans Z28 Kq38.1
  have ne_b10_ev38 : b10 ≠ ev38 := Nat.ne_of_lt (Nat.lt_of_lt_of_le (f33).lt szq38)
  have ne_ev21_ev38 : ev21 ≠ ev38 := Nat.ne_of_lt (Nat.lt_of_lt_of_le (f34).lt szq38)
  have ne_ev28_ev38 : ev28 ≠ ev38 := Nat.ne_of_lt (Nat.lt_of_lt_of_le (Eq28).lt szq38)
  have ne_sv1_ev38 : sv1 ≠ ev38 := Nat.ne_of_lt (Nat.lt_of_lt_of_le (f30).lt szq38)
  have ne_sv3_ev38 : sv3 ≠ ev38 := Nat.ne_of_lt (Nat.lt_of_lt_of_le (f31).lt szq38)
  have ne_sv6_ev38 : sv6 ≠ ev38 := Nat.ne_of_lt (Nat.lt_of_lt_of_le (f32).lt szq38)
  have Od39 := Od29.keep Kq38 all0
  have f40 := f30.keep Kq38
  have f41 := f31.keep Kq38
  have f42 := f32.keep Kq38
  have f43 := f33.keep Kq38
  have f44 := f34.keep Kq38
  have f45 := f35.keep Kq38 nin0
  have f46 := f36.keep Kq38 nin0
  have f47 := Eq28.keep Kq38
  have f48 := Fm28.keep Kq38 nin0
  have f49 := Ft28.keep Kq38 nin0
  have f50 := f37.keep0 Kq38
  obtain ⟨_, _, ⟨T51, L51, k51, n51⟩, -, X51, ⟨Lc51, hQ51, l51, y51, z51⟩, st51⟩ := Jvm.LawKit.callS X38 hx (y := (⟨"com/example/reroutine/reroutine/scenario/Event", "actStart", "(ILjava/lang/String;Ljava/lang/String;Ljava/lang/String;)Lcom/example/reroutine/reroutine/scenario/Event;"⟩ : MethodName)) hown (mvT hZ (hw _ (List.mem_of_getElem? (i := 92) rfl))) (mvT hZ (hw _ (List.mem_of_getElem? (i := 93) rfl))) (mvT hZ (hw _ (List.mem_of_getElem? (i := 48) rfl))) (mvT hZ (hw _ (List.mem_of_getElem? (i := 94) rfl))) (by decide) (backOf (W := 0) (rmEv3 l Z a0 hw [] (u1 &&& (2147483647 : Int32)) sv1 sv3 sv6 t0 t1 t2 t3 d0 d1 d2 d3 oa oc T38.heap n0 Z38 Od39 hst (own_tm _)) hZ (hw _ (List.mem_of_getElem? (i := 94) rfl)) (hw _ (List.mem_of_getElem? (i := 48) rfl)) (by decide) (by decide)) (g := (mkF m 111 #[iv u0, iv u1, iv u2, iv ((u0 &&& (2147483647 : Int32)) % (9 : Int32)), iv (u1 &&& (2147483647 : Int32)), rv sv1, rv sv3, rv sv6, rv b10, rv ev21, rv ev28, rv ev38, .unset, .unset] [(.ref sv6), (.ref sv3), (.ref sv1), (.int (u1 &&& (2147483647 : Int32)))])) rfl (by rw [hml]; rfl) (argsL := [(.int (u1 &&& (2147483647 : Int32))), (.ref sv1), (.ref sv3), (.ref sv6)]) (rest := []) (lenOf pd_13 rfl) rfl (by show 2 * 0 + _ ≤ _; exact Nat.le_of_eq rfl) (hb hby at_111) (fun _ _ => ⟨rfl, rfl, (by decide : 11 + 1 ≤ _), (by decide : 37 + 5 ≤ _)⟩)
  dsimp only [Pt.U, Pt.locs, Pt.cells, Pt.slots] at X51 l51 y51 z51 st51 hQ51
  subst y51 z51
  obtain ⟨ev51, rfl, Nq51, Kq51, geq51, szq51, Eq51, Fm51, Ft51⟩ := hQ51
  have N51 : Fr n0 L51 := by rw [l51]; exact Fr.app N38 Nq51
  have Z51 : n0 ≤ T51.heap.size := Nat.le_trans Z38 Kq51.1
  have ne_b10_ev51 : b10 ≠ ev51 := Nat.ne_of_lt (Nat.lt_of_lt_of_le (f43).lt szq51)
  have ne_ev21_ev51 : ev21 ≠ ev51 := Nat.ne_of_lt (Nat.lt_of_lt_of_le (f44).lt szq51)
  have ne_ev28_ev51 : ev28 ≠ ev51 := Nat.ne_of_lt (Nat.lt_of_lt_of_le (f47).lt szq51)
  have ne_ev38_ev51 : ev38 ≠ ev51 := Nat.ne_of_lt (Nat.lt_of_lt_of_le (Eq38).lt szq51)
  have ne_sv1_ev51 : sv1 ≠ ev51 := Nat.ne_of_lt (Nat.lt_of_lt_of_le (f40).lt szq51)
  have ne_sv3_ev51 : sv3 ≠ ev51 := Nat.ne_of_lt (Nat.lt_of_lt_of_le (f41).lt szq51)
  have ne_sv6_ev51 : sv6 ≠ ev51 := Nat.ne_of_lt (Nat.lt_of_lt_of_le (f42).lt szq51)
  have Od52 := Od39.keep Kq51 all0
  have f53 := f40.keep Kq51
  have f54 := f41.keep Kq51
  have f55 := f42.keep Kq51
  have f56 := f43.keep Kq51
  have f57 := f44.keep Kq51
  have f58 := f45.keep Kq51 nin0
  have f59 := f46.keep Kq51 nin0
  have f60 := f47.keep Kq51
  have f61 := f48.keep Kq51 nin0
  have f62 := f49.keep Kq51 nin0
  have f63 := Eq38.keep Kq51
  have f64 := Fm38.keep Kq51 nin0
  have f65 := Ft38.keep Kq51 nin0
  have f66 := f50.keep0 Kq51
  have S67 : ∀ t, Steps p.tables e below (T51.setTop (mkF m 117 #[iv u0, iv u1, iv u2, iv ((u0 &&& (2147483647 : Int32)) % (9 : Int32)), iv (u1 &&& (2147483647 : Int32)), rv sv1, rv sv3, rv sv6, rv b10, rv ev21, rv ev28, rv ev38, rv ev51, .unset] [(.int ((u0 &&& (2147483647 : Int32)) % (9 : Int32)))])) t → Steps p.tables e below (s₁.setTop (entryFrame m #[(.int u0), (.int u1), (.int u2)] maxLocals)) t := by
    intro t k
    refine S0 t ?_
    show Steps p.tables e below (s₁.setTop (mkF m 0 #[iv u0, iv u1, iv u2, .unset, .unset, .unset, .unset, .unset, .unset, .unset, .unset, .unset, .unset, .unset] [])) _
    refine XS.iloadN X0.here hx rfl (hb hby at_0) rfl ?_
    show Steps p.tables e below (s₁.setTop (mkF m 1 #[iv u0, iv u1, iv u2, .unset, .unset, .unset, .unset, .unset, .unset, .unset, .unset, .unset, .unset, .unset] [(.int u0)])) _
    refine X0.ldcInt hx hown (mvT hZ (hw _ (List.mem_of_getElem? (i := 0) rfl))) (g := (mkF m 1 #[iv u0, iv u1, iv u2, .unset, .unset, .unset, .unset, .unset, .unset, .unset, .unset, .unset, .unset, .unset] [(.int u0)])) rfl (hb hby at_1) _ ?_
    show Steps p.tables e below (s₁.setTop (mkF m 3 #[iv u0, iv u1, iv u2, .unset, .unset, .unset, .unset, .unset, .unset, .unset, .unset, .unset, .unset, .unset] [(.int (2147483647 : Int32)), (.int u0)])) _
    refine XS.iand X0.here hx rfl (hb hby at_3) rfl ?_
    show Steps p.tables e below (s₁.setTop (mkF m 4 #[iv u0, iv u1, iv u2, .unset, .unset, .unset, .unset, .unset, .unset, .unset, .unset, .unset, .unset, .unset] [(.int (u0 &&& (2147483647 : Int32)))])) _
    refine XS.bipush X0.here hx rfl (hb hby at_4) ?_
    show Steps p.tables e below (s₁.setTop (mkF m 6 #[iv u0, iv u1, iv u2, .unset, .unset, .unset, .unset, .unset, .unset, .unset, .unset, .unset, .unset, .unset] [(.int (9 : Int32)), (.int (u0 &&& (2147483647 : Int32)))])) _
    refine iremM X0 hx rfl (hb hby at_6) rfl (by decide) ?_
    show Steps p.tables e below (s₁.setTop (mkF m 7 #[iv u0, iv u1, iv u2, .unset, .unset, .unset, .unset, .unset, .unset, .unset, .unset, .unset, .unset, .unset] [(.int ((u0 &&& (2147483647 : Int32)) % (9 : Int32)))])) _
    refine XS.istoreN X0.here hx rfl (hb hby at_7) rfl (l' := #[iv u0, iv u1, iv u2, iv ((u0 &&& (2147483647 : Int32)) % (9 : Int32)), .unset, .unset, .unset, .unset, .unset, .unset, .unset, .unset, .unset, .unset]) rfl ?_
    show Steps p.tables e below (s₁.setTop (mkF m 8 #[iv u0, iv u1, iv u2, iv ((u0 &&& (2147483647 : Int32)) % (9 : Int32)), .unset, .unset, .unset, .unset, .unset, .unset, .unset, .unset, .unset, .unset] [])) _
    refine XS.iloadN X0.here hx rfl (hb hby at_8) rfl ?_
    show Steps p.tables e below (s₁.setTop (mkF m 9 #[iv u0, iv u1, iv u2, iv ((u0 &&& (2147483647 : Int32)) % (9 : Int32)), .unset, .unset, .unset, .unset, .unset, .unset, .unset, .unset, .unset, .unset] [(.int u1)])) _
    refine X0.ldcInt hx hown (mvT hZ (hw _ (List.mem_of_getElem? (i := 0) rfl))) (g := (mkF m 9 #[iv u0, iv u1, iv u2, iv ((u0 &&& (2147483647 : Int32)) % (9 : Int32)), .unset, .unset, .unset, .unset, .unset, .unset, .unset, .unset, .unset, .unset] [(.int u1)])) rfl (hb hby at_9) _ ?_
    show Steps p.tables e below (s₁.setTop (mkF m 11 #[iv u0, iv u1, iv u2, iv ((u0 &&& (2147483647 : Int32)) % (9 : Int32)), .unset, .unset, .unset, .unset, .unset, .unset, .unset, .unset, .unset, .unset] [(.int (2147483647 : Int32)), (.int u1)])) _
    refine XS.iand X0.here hx rfl (hb hby at_11) rfl ?_
    show Steps p.tables e below (s₁.setTop (mkF m 12 #[iv u0, iv u1, iv u2, iv ((u0 &&& (2147483647 : Int32)) % (9 : Int32)), .unset, .unset, .unset, .unset, .unset, .unset, .unset, .unset, .unset, .unset] [(.int (u1 &&& (2147483647 : Int32)))])) _
    refine XS.istore X0.here hx rfl (hb hby at_12) rfl (l' := #[iv u0, iv u1, iv u2, iv ((u0 &&& (2147483647 : Int32)) % (9 : Int32)), iv (u1 &&& (2147483647 : Int32)), .unset, .unset, .unset, .unset, .unset, .unset, .unset, .unset, .unset]) rfl ?_
    show Steps p.tables e below (s₁.setTop (mkF m 14 #[iv u0, iv u1, iv u2, iv ((u0 &&& (2147483647 : Int32)) % (9 : Int32)), iv (u1 &&& (2147483647 : Int32)), .unset, .unset, .unset, .unset, .unset, .unset, .unset, .unset, .unset] [])) _
    refine XS.iloadN X0.here hx rfl (hb hby at_14) rfl ?_
    show Steps p.tables e below (s₁.setTop (mkF m 15 #[iv u0, iv u1, iv u2, iv ((u0 &&& (2147483647 : Int32)) % (9 : Int32)), iv (u1 &&& (2147483647 : Int32)), .unset, .unset, .unset, .unset, .unset, .unset, .unset, .unset, .unset] [(.int u2)])) _
    refine XS.sipush X0.here hx rfl (hb hby at_15) ?_
    show Steps p.tables e below (s₁.setTop (mkF m 18 #[iv u0, iv u1, iv u2, iv ((u0 &&& (2147483647 : Int32)) % (9 : Int32)), iv (u1 &&& (2147483647 : Int32)), .unset, .unset, .unset, .unset, .unset, .unset, .unset, .unset, .unset] [(.int (255 : Int32)), (.int u2)])) _
    refine XS.iand X0.here hx rfl (hb hby at_18) rfl ?_
    show Steps p.tables e below (s₁.setTop (mkF m 19 #[iv u0, iv u1, iv u2, iv ((u0 &&& (2147483647 : Int32)) % (9 : Int32)), iv (u1 &&& (2147483647 : Int32)), .unset, .unset, .unset, .unset, .unset, .unset, .unset, .unset, .unset] [(.int (u2 &&& (255 : Int32)))])) _
    refine XS.i2c X0.here hx rfl (hb hby at_19) rfl ?_
    show Steps p.tables e below (s₁.setTop (mkF m 20 #[iv u0, iv u1, iv u2, iv ((u0 &&& (2147483647 : Int32)) % (9 : Int32)), iv (u1 &&& (2147483647 : Int32)), .unset, .unset, .unset, .unset, .unset, .unset, .unset, .unset, .unset] [(.int ((u2 &&& (255 : Int32)).toUInt32.toUInt16.toUInt32.toInt32))])) _
    refine st1 _ ?_
    show Steps p.tables e below (T1.setTop (mkF m 23 #[iv u0, iv u1, iv u2, iv ((u0 &&& (2147483647 : Int32)) % (9 : Int32)), iv (u1 &&& (2147483647 : Int32)), .unset, .unset, .unset, .unset, .unset, .unset, .unset, .unset, .unset] [(.ref sv1)])) _
    refine XS.astore X1.here hx rfl (hb hby at_23) rfl rfl (l' := #[iv u0, iv u1, iv u2, iv ((u0 &&& (2147483647 : Int32)) % (9 : Int32)), iv (u1 &&& (2147483647 : Int32)), rv sv1, .unset, .unset, .unset, .unset, .unset, .unset, .unset, .unset]) rfl ?_
    show Steps p.tables e below (T1.setTop (mkF m 25 #[iv u0, iv u1, iv u2, iv ((u0 &&& (2147483647 : Int32)) % (9 : Int32)), iv (u1 &&& (2147483647 : Int32)), rv sv1, .unset, .unset, .unset, .unset, .unset, .unset, .unset, .unset] [])) _
    refine XS.iloadN X1.here hx rfl (hb hby at_25) rfl ?_
    show Steps p.tables e below (T1.setTop (mkF m 26 #[iv u0, iv u1, iv u2, iv ((u0 &&& (2147483647 : Int32)) % (9 : Int32)), iv (u1 &&& (2147483647 : Int32)), rv sv1, .unset, .unset, .unset, .unset, .unset, .unset, .unset, .unset] [(.int u2)])) _
    refine XS.bipush X1.here hx rfl (hb hby at_26) ?_
    show Steps p.tables e below (T1.setTop (mkF m 28 #[iv u0, iv u1, iv u2, iv ((u0 &&& (2147483647 : Int32)) % (9 : Int32)), iv (u1 &&& (2147483647 : Int32)), rv sv1, .unset, .unset, .unset, .unset, .unset, .unset, .unset, .unset] [(.int (8 : Int32)), (.int u2)])) _
    refine XS.iushr X1.here hx rfl (hb hby at_28) rfl ?_
    show Steps p.tables e below (T1.setTop (mkF m 29 #[iv u0, iv u1, iv u2, iv ((u0 &&& (2147483647 : Int32)) % (9 : Int32)), iv (u1 &&& (2147483647 : Int32)), rv sv1, .unset, .unset, .unset, .unset, .unset, .unset, .unset, .unset] [(.int ((u2.toUInt32 >>> ((8 : Int32) &&& 31).toUInt32).toInt32))])) _
    refine XS.sipush X1.here hx rfl (hb hby at_29) ?_
    show Steps p.tables e below (T1.setTop (mkF m 32 #[iv u0, iv u1, iv u2, iv ((u0 &&& (2147483647 : Int32)) % (9 : Int32)), iv (u1 &&& (2147483647 : Int32)), rv sv1, .unset, .unset, .unset, .unset, .unset, .unset, .unset, .unset] [(.int (255 : Int32)), (.int ((u2.toUInt32 >>> ((8 : Int32) &&& 31).toUInt32).toInt32))])) _
    refine XS.iand X1.here hx rfl (hb hby at_32) rfl ?_
    show Steps p.tables e below (T1.setTop (mkF m 33 #[iv u0, iv u1, iv u2, iv ((u0 &&& (2147483647 : Int32)) % (9 : Int32)), iv (u1 &&& (2147483647 : Int32)), rv sv1, .unset, .unset, .unset, .unset, .unset, .unset, .unset, .unset] [(.int (((u2.toUInt32 >>> ((8 : Int32) &&& 31).toUInt32).toInt32) &&& (255 : Int32)))])) _
    refine XS.i2c X1.here hx rfl (hb hby at_33) rfl ?_
    show Steps p.tables e below (T1.setTop (mkF m 34 #[iv u0, iv u1, iv u2, iv ((u0 &&& (2147483647 : Int32)) % (9 : Int32)), iv (u1 &&& (2147483647 : Int32)), rv sv1, .unset, .unset, .unset, .unset, .unset, .unset, .unset, .unset] [(.int ((((u2.toUInt32 >>> ((8 : Int32) &&& 31).toUInt32).toInt32) &&& (255 : Int32)).toUInt32.toUInt16.toUInt32.toInt32))])) _
    refine st3 _ ?_
    show Steps p.tables e below (T3.setTop (mkF m 37 #[iv u0, iv u1, iv u2, iv ((u0 &&& (2147483647 : Int32)) % (9 : Int32)), iv (u1 &&& (2147483647 : Int32)), rv sv1, .unset, .unset, .unset, .unset, .unset, .unset, .unset, .unset] [(.ref sv3)])) _
    refine XS.astore X3.here hx rfl (hb hby at_37) rfl rfl (l' := #[iv u0, iv u1, iv u2, iv ((u0 &&& (2147483647 : Int32)) % (9 : Int32)), iv (u1 &&& (2147483647 : Int32)), rv sv1, rv sv3, .unset, .unset, .unset, .unset, .unset, .unset, .unset]) rfl ?_
    show Steps p.tables e below (T3.setTop (mkF m 39 #[iv u0, iv u1, iv u2, iv ((u0 &&& (2147483647 : Int32)) % (9 : Int32)), iv (u1 &&& (2147483647 : Int32)), rv sv1, rv sv3, .unset, .unset, .unset, .unset, .unset, .unset, .unset] [])) _
    refine XS.iloadN X3.here hx rfl (hb hby at_39) rfl ?_
    show Steps p.tables e below (T3.setTop (mkF m 40 #[iv u0, iv u1, iv u2, iv ((u0 &&& (2147483647 : Int32)) % (9 : Int32)), iv (u1 &&& (2147483647 : Int32)), rv sv1, rv sv3, .unset, .unset, .unset, .unset, .unset, .unset, .unset] [(.int u2)])) _
    refine XS.bipush X3.here hx rfl (hb hby at_40) ?_
    show Steps p.tables e below (T3.setTop (mkF m 42 #[iv u0, iv u1, iv u2, iv ((u0 &&& (2147483647 : Int32)) % (9 : Int32)), iv (u1 &&& (2147483647 : Int32)), rv sv1, rv sv3, .unset, .unset, .unset, .unset, .unset, .unset, .unset] [(.int (16 : Int32)), (.int u2)])) _
    refine XS.iushr X3.here hx rfl (hb hby at_42) rfl ?_
    show Steps p.tables e below (T3.setTop (mkF m 43 #[iv u0, iv u1, iv u2, iv ((u0 &&& (2147483647 : Int32)) % (9 : Int32)), iv (u1 &&& (2147483647 : Int32)), rv sv1, rv sv3, .unset, .unset, .unset, .unset, .unset, .unset, .unset] [(.int ((u2.toUInt32 >>> ((16 : Int32) &&& 31).toUInt32).toInt32))])) _
    refine XS.sipush X3.here hx rfl (hb hby at_43) ?_
    show Steps p.tables e below (T3.setTop (mkF m 46 #[iv u0, iv u1, iv u2, iv ((u0 &&& (2147483647 : Int32)) % (9 : Int32)), iv (u1 &&& (2147483647 : Int32)), rv sv1, rv sv3, .unset, .unset, .unset, .unset, .unset, .unset, .unset] [(.int (255 : Int32)), (.int ((u2.toUInt32 >>> ((16 : Int32) &&& 31).toUInt32).toInt32))])) _
    refine XS.iand X3.here hx rfl (hb hby at_46) rfl ?_
    show Steps p.tables e below (T3.setTop (mkF m 47 #[iv u0, iv u1, iv u2, iv ((u0 &&& (2147483647 : Int32)) % (9 : Int32)), iv (u1 &&& (2147483647 : Int32)), rv sv1, rv sv3, .unset, .unset, .unset, .unset, .unset, .unset, .unset] [(.int (((u2.toUInt32 >>> ((16 : Int32) &&& 31).toUInt32).toInt32) &&& (255 : Int32)))])) _
    refine XS.i2c X3.here hx rfl (hb hby at_47) rfl ?_
    show Steps p.tables e below (T3.setTop (mkF m 48 #[iv u0, iv u1, iv u2, iv ((u0 &&& (2147483647 : Int32)) % (9 : Int32)), iv (u1 &&& (2147483647 : Int32)), rv sv1, rv sv3, .unset, .unset, .unset, .unset, .unset, .unset, .unset] [(.int ((((u2.toUInt32 >>> ((16 : Int32) &&& 31).toUInt32).toInt32) &&& (255 : Int32)).toUInt32.toUInt16.toUInt32.toInt32))])) _
    refine st6 _ ?_
    show Steps p.tables e below (T6.setTop (mkF m 51 #[iv u0, iv u1, iv u2, iv ((u0 &&& (2147483647 : Int32)) % (9 : Int32)), iv (u1 &&& (2147483647 : Int32)), rv sv1, rv sv3, .unset, .unset, .unset, .unset, .unset, .unset, .unset] [(.ref sv6)])) _
    refine XS.astore X6.here hx rfl (hb hby at_51) rfl rfl (l' := #[iv u0, iv u1, iv u2, iv ((u0 &&& (2147483647 : Int32)) % (9 : Int32)), iv (u1 &&& (2147483647 : Int32)), rv sv1, rv sv3, rv sv6, .unset, .unset, .unset, .unset, .unset, .unset]) rfl ?_
    show Steps p.tables e below (T6.setTop (mkF m 53 #[iv u0, iv u1, iv u2, iv ((u0 &&& (2147483647 : Int32)) % (9 : Int32)), iv (u1 &&& (2147483647 : Int32)), rv sv1, rv sv3, rv sv6, .unset, .unset, .unset, .unset, .unset, .unset] [])) _
    refine st10 _ ?_
    show Steps p.tables e below (T10.setTop (mkF m 56 #[iv u0, iv u1, iv u2, iv ((u0 &&& (2147483647 : Int32)) % (9 : Int32)), iv (u1 &&& (2147483647 : Int32)), rv sv1, rv sv3, rv sv6, .unset, .unset, .unset, .unset, .unset, .unset] [(.ref b10)])) _
    refine XS.dup X10.here hx rfl (hb hby at_56) rfl rfl ?_
    show Steps p.tables e below (T10.setTop (mkF m 57 #[iv u0, iv u1, iv u2, iv ((u0 &&& (2147483647 : Int32)) % (9 : Int32)), iv (u1 &&& (2147483647 : Int32)), rv sv1, rv sv3, rv sv6, .unset, .unset, .unset, .unset, .unset, .unset] [(.ref b10), (.ref b10)])) _
    refine XS.aload X10.here hx rfl (hb hby at_57) rfl rfl ?_
    show Steps p.tables e below (T10.setTop (mkF m 59 #[iv u0, iv u1, iv u2, iv ((u0 &&& (2147483647 : Int32)) % (9 : Int32)), iv (u1 &&& (2147483647 : Int32)), rv sv1, rv sv3, rv sv6, .unset, .unset, .unset, .unset, .unset, .unset] [(.ref sv1), (.ref b10), (.ref b10)])) _
    refine st15.trans ?_
    show Steps p.tables e below (T15.setTop (mkF m 62 #[iv u0, iv u1, iv u2, iv ((u0 &&& (2147483647 : Int32)) % (9 : Int32)), iv (u1 &&& (2147483647 : Int32)), rv sv1, rv sv3, rv sv6, .unset, .unset, .unset, .unset, .unset, .unset] [(.ref b10)])) _
    refine XS.astore X15.here hx rfl (hb hby at_62) rfl rfl (l' := #[iv u0, iv u1, iv u2, iv ((u0 &&& (2147483647 : Int32)) % (9 : Int32)), iv (u1 &&& (2147483647 : Int32)), rv sv1, rv sv3, rv sv6, rv b10, .unset, .unset, .unset, .unset, .unset]) rfl ?_
    show Steps p.tables e below (T15.setTop (mkF m 64 #[iv u0, iv u1, iv u2, iv ((u0 &&& (2147483647 : Int32)) % (9 : Int32)), iv (u1 &&& (2147483647 : Int32)), rv sv1, rv sv3, rv sv6, rv b10, .unset, .unset, .unset, .unset, .unset] [])) _
    refine XS.iload X15.here hx rfl (hb hby at_64) rfl ?_
    show Steps p.tables e below (T15.setTop (mkF m 66 #[iv u0, iv u1, iv u2, iv ((u0 &&& (2147483647 : Int32)) % (9 : Int32)), iv (u1 &&& (2147483647 : Int32)), rv sv1, rv sv3, rv sv6, rv b10, .unset, .unset, .unset, .unset, .unset] [(.int (u1 &&& (2147483647 : Int32)))])) _
    refine XS.aload X15.here hx rfl (hb hby at_66) rfl rfl ?_
    show Steps p.tables e below (T15.setTop (mkF m 68 #[iv u0, iv u1, iv u2, iv ((u0 &&& (2147483647 : Int32)) % (9 : Int32)), iv (u1 &&& (2147483647 : Int32)), rv sv1, rv sv3, rv sv6, rv b10, .unset, .unset, .unset, .unset, .unset] [(.ref sv1), (.int (u1 &&& (2147483647 : Int32)))])) _
    refine XS.aload X15.here hx rfl (hb hby at_68) rfl rfl ?_
    show Steps p.tables e below (T15.setTop (mkF m 70 #[iv u0, iv u1, iv u2, iv ((u0 &&& (2147483647 : Int32)) % (9 : Int32)), iv (u1 &&& (2147483647 : Int32)), rv sv1, rv sv3, rv sv6, rv b10, .unset, .unset, .unset, .unset, .unset] [(.ref sv3), (.ref sv1), (.int (u1 &&& (2147483647 : Int32)))])) _
    refine XS.aload X15.here hx rfl (hb hby at_70) rfl rfl ?_
    show Steps p.tables e below (T15.setTop (mkF m 72 #[iv u0, iv u1, iv u2, iv ((u0 &&& (2147483647 : Int32)) % (9 : Int32)), iv (u1 &&& (2147483647 : Int32)), rv sv1, rv sv3, rv sv6, rv b10, .unset, .unset, .unset, .unset, .unset] [(.ref sv6), (.ref sv3), (.ref sv1), (.int (u1 &&& (2147483647 : Int32)))])) _
    refine st21 _ ?_
    show Steps p.tables e below (T21.setTop (mkF m 75 #[iv u0, iv u1, iv u2, iv ((u0 &&& (2147483647 : Int32)) % (9 : Int32)), iv (u1 &&& (2147483647 : Int32)), rv sv1, rv sv3, rv sv6, rv b10, .unset, .unset, .unset, .unset, .unset] [(.ref ev21)])) _
    refine XS.astore X21.here hx rfl (hb hby at_75) rfl rfl (l' := #[iv u0, iv u1, iv u2, iv ((u0 &&& (2147483647 : Int32)) % (9 : Int32)), iv (u1 &&& (2147483647 : Int32)), rv sv1, rv sv3, rv sv6, rv b10, rv ev21, .unset, .unset, .unset, .unset]) rfl ?_
    show Steps p.tables e below (T21.setTop (mkF m 77 #[iv u0, iv u1, iv u2, iv ((u0 &&& (2147483647 : Int32)) % (9 : Int32)), iv (u1 &&& (2147483647 : Int32)), rv sv1, rv sv3, rv sv6, rv b10, rv ev21, .unset, .unset, .unset, .unset] [])) _
    refine XS.iload X21.here hx rfl (hb hby at_77) rfl ?_
    show Steps p.tables e below (T21.setTop (mkF m 79 #[iv u0, iv u1, iv u2, iv ((u0 &&& (2147483647 : Int32)) % (9 : Int32)), iv (u1 &&& (2147483647 : Int32)), rv sv1, rv sv3, rv sv6, rv b10, rv ev21, .unset, .unset, .unset, .unset] [(.int (u1 &&& (2147483647 : Int32)))])) _
    refine XS.aload X21.here hx rfl (hb hby at_79) rfl rfl ?_
    show Steps p.tables e below (T21.setTop (mkF m 81 #[iv u0, iv u1, iv u2, iv ((u0 &&& (2147483647 : Int32)) % (9 : Int32)), iv (u1 &&& (2147483647 : Int32)), rv sv1, rv sv3, rv sv6, rv b10, rv ev21, .unset, .unset, .unset, .unset] [(.ref sv1), (.int (u1 &&& (2147483647 : Int32)))])) _
    refine XS.aload X21.here hx rfl (hb hby at_81) rfl rfl ?_
    show Steps p.tables e below (T21.setTop (mkF m 83 #[iv u0, iv u1, iv u2, iv ((u0 &&& (2147483647 : Int32)) % (9 : Int32)), iv (u1 &&& (2147483647 : Int32)), rv sv1, rv sv3, rv sv6, rv b10, rv ev21, .unset, .unset, .unset, .unset] [(.ref sv3), (.ref sv1), (.int (u1 &&& (2147483647 : Int32)))])) _
    refine XS.aload X21.here hx rfl (hb hby at_83) rfl rfl ?_
    show Steps p.tables e below (T21.setTop (mkF m 85 #[iv u0, iv u1, iv u2, iv ((u0 &&& (2147483647 : Int32)) % (9 : Int32)), iv (u1 &&& (2147483647 : Int32)), rv sv1, rv sv3, rv sv6, rv b10, rv ev21, .unset, .unset, .unset, .unset] [(.ref sv6), (.ref sv3), (.ref sv1), (.int (u1 &&& (2147483647 : Int32)))])) _
    refine st28 _ ?_
    show Steps p.tables e below (T28.setTop (mkF m 88 #[iv u0, iv u1, iv u2, iv ((u0 &&& (2147483647 : Int32)) % (9 : Int32)), iv (u1 &&& (2147483647 : Int32)), rv sv1, rv sv3, rv sv6, rv b10, rv ev21, .unset, .unset, .unset, .unset] [(.ref ev28)])) _
    refine XS.astore X28.here hx rfl (hb hby at_88) rfl rfl (l' := #[iv u0, iv u1, iv u2, iv ((u0 &&& (2147483647 : Int32)) % (9 : Int32)), iv (u1 &&& (2147483647 : Int32)), rv sv1, rv sv3, rv sv6, rv b10, rv ev21, rv ev28, .unset, .unset, .unset]) rfl ?_
    show Steps p.tables e below (T28.setTop (mkF m 90 #[iv u0, iv u1, iv u2, iv ((u0 &&& (2147483647 : Int32)) % (9 : Int32)), iv (u1 &&& (2147483647 : Int32)), rv sv1, rv sv3, rv sv6, rv b10, rv ev21, rv ev28, .unset, .unset, .unset] [])) _
    refine XS.iload X28.here hx rfl (hb hby at_90) rfl ?_
    show Steps p.tables e below (T28.setTop (mkF m 92 #[iv u0, iv u1, iv u2, iv ((u0 &&& (2147483647 : Int32)) % (9 : Int32)), iv (u1 &&& (2147483647 : Int32)), rv sv1, rv sv3, rv sv6, rv b10, rv ev21, rv ev28, .unset, .unset, .unset] [(.int (u1 &&& (2147483647 : Int32)))])) _
    refine XS.aload X28.here hx rfl (hb hby at_92) rfl rfl ?_
    show Steps p.tables e below (T28.setTop (mkF m 94 #[iv u0, iv u1, iv u2, iv ((u0 &&& (2147483647 : Int32)) % (9 : Int32)), iv (u1 &&& (2147483647 : Int32)), rv sv1, rv sv3, rv sv6, rv b10, rv ev21, rv ev28, .unset, .unset, .unset] [(.ref sv1), (.int (u1 &&& (2147483647 : Int32)))])) _
    refine XS.aload X28.here hx rfl (hb hby at_94) rfl rfl ?_
    show Steps p.tables e below (T28.setTop (mkF m 96 #[iv u0, iv u1, iv u2, iv ((u0 &&& (2147483647 : Int32)) % (9 : Int32)), iv (u1 &&& (2147483647 : Int32)), rv sv1, rv sv3, rv sv6, rv b10, rv ev21, rv ev28, .unset, .unset, .unset] [(.ref sv3), (.ref sv1), (.int (u1 &&& (2147483647 : Int32)))])) _
    refine XS.aload X28.here hx rfl (hb hby at_96) rfl rfl ?_
    show Steps p.tables e below (T28.setTop (mkF m 98 #[iv u0, iv u1, iv u2, iv ((u0 &&& (2147483647 : Int32)) % (9 : Int32)), iv (u1 &&& (2147483647 : Int32)), rv sv1, rv sv3, rv sv6, rv b10, rv ev21, rv ev28, .unset, .unset, .unset] [(.ref sv6), (.ref sv3), (.ref sv1), (.int (u1 &&& (2147483647 : Int32)))])) _
    refine st38 _ ?_
    show Steps p.tables e below (T38.setTop (mkF m 101 #[iv u0, iv u1, iv u2, iv ((u0 &&& (2147483647 : Int32)) % (9 : Int32)), iv (u1 &&& (2147483647 : Int32)), rv sv1, rv sv3, rv sv6, rv b10, rv ev21, rv ev28, .unset, .unset, .unset] [(.ref ev38)])) _
    refine XS.astore X38.here hx rfl (hb hby at_101) rfl rfl (l' := #[iv u0, iv u1, iv u2, iv ((u0 &&& (2147483647 : Int32)) % (9 : Int32)), iv (u1 &&& (2147483647 : Int32)), rv sv1, rv sv3, rv sv6, rv b10, rv ev21, rv ev28, rv ev38, .unset, .unset]) rfl ?_
    show Steps p.tables e below (T38.setTop (mkF m 103 #[iv u0, iv u1, iv u2, iv ((u0 &&& (2147483647 : Int32)) % (9 : Int32)), iv (u1 &&& (2147483647 : Int32)), rv sv1, rv sv3, rv sv6, rv b10, rv ev21, rv ev28, rv ev38, .unset, .unset] [])) _
    refine XS.iload X38.here hx rfl (hb hby at_103) rfl ?_
    show Steps p.tables e below (T38.setTop (mkF m 105 #[iv u0, iv u1, iv u2, iv ((u0 &&& (2147483647 : Int32)) % (9 : Int32)), iv (u1 &&& (2147483647 : Int32)), rv sv1, rv sv3, rv sv6, rv b10, rv ev21, rv ev28, rv ev38, .unset, .unset] [(.int (u1 &&& (2147483647 : Int32)))])) _
    refine XS.aload X38.here hx rfl (hb hby at_105) rfl rfl ?_
    show Steps p.tables e below (T38.setTop (mkF m 107 #[iv u0, iv u1, iv u2, iv ((u0 &&& (2147483647 : Int32)) % (9 : Int32)), iv (u1 &&& (2147483647 : Int32)), rv sv1, rv sv3, rv sv6, rv b10, rv ev21, rv ev28, rv ev38, .unset, .unset] [(.ref sv1), (.int (u1 &&& (2147483647 : Int32)))])) _
    refine XS.aload X38.here hx rfl (hb hby at_107) rfl rfl ?_
    show Steps p.tables e below (T38.setTop (mkF m 109 #[iv u0, iv u1, iv u2, iv ((u0 &&& (2147483647 : Int32)) % (9 : Int32)), iv (u1 &&& (2147483647 : Int32)), rv sv1, rv sv3, rv sv6, rv b10, rv ev21, rv ev28, rv ev38, .unset, .unset] [(.ref sv3), (.ref sv1), (.int (u1 &&& (2147483647 : Int32)))])) _
    refine XS.aload X38.here hx rfl (hb hby at_109) rfl rfl ?_
    show Steps p.tables e below (T38.setTop (mkF m 111 #[iv u0, iv u1, iv u2, iv ((u0 &&& (2147483647 : Int32)) % (9 : Int32)), iv (u1 &&& (2147483647 : Int32)), rv sv1, rv sv3, rv sv6, rv b10, rv ev21, rv ev28, rv ev38, .unset, .unset] [(.ref sv6), (.ref sv3), (.ref sv1), (.int (u1 &&& (2147483647 : Int32)))])) _
    refine st51 _ ?_
    show Steps p.tables e below (T51.setTop (mkF m 114 #[iv u0, iv u1, iv u2, iv ((u0 &&& (2147483647 : Int32)) % (9 : Int32)), iv (u1 &&& (2147483647 : Int32)), rv sv1, rv sv3, rv sv6, rv b10, rv ev21, rv ev28, rv ev38, .unset, .unset] [(.ref ev51)])) _
    refine XS.astore X51.here hx rfl (hb hby at_114) rfl rfl (l' := #[iv u0, iv u1, iv u2, iv ((u0 &&& (2147483647 : Int32)) % (9 : Int32)), iv (u1 &&& (2147483647 : Int32)), rv sv1, rv sv3, rv sv6, rv b10, rv ev21, rv ev28, rv ev38, rv ev51, .unset]) rfl ?_
    show Steps p.tables e below (T51.setTop (mkF m 116 #[iv u0, iv u1, iv u2, iv ((u0 &&& (2147483647 : Int32)) % (9 : Int32)), iv (u1 &&& (2147483647 : Int32)), rv sv1, rv sv3, rv sv6, rv b10, rv ev21, rv ev28, rv ev38, rv ev51, .unset] [])) _
    refine XS.iloadN X51.here hx rfl (hb hby at_116) rfl ?_
    exact k
  rcases own_ns u0 with hn_ | hn_ | hn_ | hn_ | hn_ | hn_ | hn_ | hn_ | hn_
  · skip
    rw [hn_] at S67
    obtain ⟨cq68, kq68, q68a, q68b, q68c⟩ := isOf hZ rfl f56
    obtain ⟨_, _, ⟨T68, L68, k68, n68⟩, -, X68, ⟨Lc68, hQ68, l68, y68, z68⟩, st68⟩ := X51.virtualBack hx (y := (⟨"com/example/reroutine/reroutine/replanning/ExecutedDay", "activitiesReached", "()I"⟩ : MethodName)) (z := (⟨"com/example/reroutine/reroutine/replanning/ExecutedDay", "activitiesReached", "()I"⟩ : MethodName)) hown (mvT hZ (hw _ (List.mem_of_getElem? (i := 97) rfl))) (mvT hZ (hw _ (List.mem_of_getElem? (i := 98) rfl))) (notFace_of_selects (args := #[]) (mvT hZ (hw _ (List.mem_of_getElem? (i := 100) rfl)))) (mvT hZ (hw _ (List.mem_of_getElem? (i := 100) rfl))) (mvT hZ (hw _ (List.mem_of_getElem? (i := 99) rfl))) (by decide) (backOf (W := 0) (rmQ0 l Z a0 hw [] b10 t0 t1 t2 t3 d0 d1 d2 d3 oa oc T51.heap n0 Z51 Od52 hst f66.2.1) hZ (hw _ (List.mem_of_getElem? (i := 101) rfl)) (hw _ (List.mem_of_getElem? (i := 29) rfl)) (by decide) (by decide)) q68a q68c (g := (mkF m 241 #[iv u0, iv u1, iv u2, iv (0 : Int32), iv (u1 &&& (2147483647 : Int32)), rv sv1, rv sv3, rv sv6, rv b10, rv ev21, rv ev28, rv ev38, rv ev51, iv (1 : Int32)] [(.ref b10)])) rfl (by rw [hml]; rfl) (Steps.refl _) (argsL := []) (rest := []) (lenOf pd_9 rfl) rfl (by show 2 * 0 + _ ≤ _; exact Nat.le_of_eq rfl) (hb hby at_241) (fun _ _ => ⟨rfl, rfl, (by decide : 12 + 0 ≤ _), (by decide : 42 + 0 ≤ _)⟩)
    dsimp only [Pt.U, Pt.locs, Pt.cells, Pt.slots] at X68 l68 y68 z68 st68 hQ68
    subst y68 z68
    obtain ⟨rfl, Nq68, eq68⟩ := hQ68
    have N68 : Fr n0 L68 := by rw [l68]; exact Fr.app N51 Nq68
    obtain ⟨fs, hr, hrun, hended, hW, hsame⟩ := X68.leave (v := some (.int (1 : Int32))) (fun h => by rw [Bd.returns] at h; cases h)
    refine ⟨_, _, S67 _ ?_, hrun, hended, _, _, rfl, ?_, ⟨_, rfl⟩, hW, hsame.mono (by decide) (by decide)⟩
    · skip
      show Steps p.tables e below (T51.setTop (mkF m 117 #[iv u0, iv u1, iv u2, iv (0 : Int32), iv (u1 &&& (2147483647 : Int32)), rv sv1, rv sv3, rv sv6, rv b10, rv ev21, rv ev28, rv ev38, rv ev51, .unset] [(.int (0 : Int32))])) _
      refine XS.ifYes X51.here hx rfl (pc0 := 117) (pc' := 127) rfl (hb hby at_117) rfl ((if0 _ _).trans (flt (by decide : ¬ ((0 : Int32) < (0 : Int32)))).2.2.2) (by decide) (by decide) ?_
      show Steps p.tables e below (T51.setTop (mkF m 127 #[iv u0, iv u1, iv u2, iv (0 : Int32), iv (u1 &&& (2147483647 : Int32)), rv sv1, rv sv3, rv sv6, rv b10, rv ev21, rv ev28, rv ev38, rv ev51, .unset] [])) _
      refine XS.iloadN X51.here hx rfl (hb hby at_127) rfl ?_
      show Steps p.tables e below (T51.setTop (mkF m 128 #[iv u0, iv u1, iv u2, iv (0 : Int32), iv (u1 &&& (2147483647 : Int32)), rv sv1, rv sv3, rv sv6, rv b10, rv ev21, rv ev28, rv ev38, rv ev51, .unset] [(.int (0 : Int32))])) _
      refine XS.iconst X51.here hx rfl (hb hby at_128) ?_
      show Steps p.tables e below (T51.setTop (mkF m 129 #[iv u0, iv u1, iv u2, iv (0 : Int32), iv (u1 &&& (2147483647 : Int32)), rv sv1, rv sv3, rv sv6, rv b10, rv ev21, rv ev28, rv ev38, rv ev51, .unset] [(.int (1 : Int32)), (.int (0 : Int32))])) _
      refine XS.icmpYes X51.here hx rfl (pc0 := 129) (pc' := 139) rfl (hb hby at_129) rfl (flt (by decide : ¬ ((1 : Int32) < (0 : Int32)))).2.2.2 (by decide) (by decide) ?_
      show Steps p.tables e below (T51.setTop (mkF m 139 #[iv u0, iv u1, iv u2, iv (0 : Int32), iv (u1 &&& (2147483647 : Int32)), rv sv1, rv sv3, rv sv6, rv b10, rv ev21, rv ev28, rv ev38, rv ev51, .unset] [])) _
      refine XS.iloadN X51.here hx rfl (hb hby at_139) rfl ?_
      show Steps p.tables e below (T51.setTop (mkF m 140 #[iv u0, iv u1, iv u2, iv (0 : Int32), iv (u1 &&& (2147483647 : Int32)), rv sv1, rv sv3, rv sv6, rv b10, rv ev21, rv ev28, rv ev38, rv ev51, .unset] [(.int (0 : Int32))])) _
      refine XS.iconst X51.here hx rfl (hb hby at_140) ?_
      show Steps p.tables e below (T51.setTop (mkF m 141 #[iv u0, iv u1, iv u2, iv (0 : Int32), iv (u1 &&& (2147483647 : Int32)), rv sv1, rv sv3, rv sv6, rv b10, rv ev21, rv ev28, rv ev38, rv ev51, .unset] [(.int (2 : Int32)), (.int (0 : Int32))])) _
      refine XS.icmpYes X51.here hx rfl (pc0 := 141) (pc' := 151) rfl (hb hby at_141) rfl (flt (by decide : ¬ ((2 : Int32) < (0 : Int32)))).2.2.2 (by decide) (by decide) ?_
      show Steps p.tables e below (T51.setTop (mkF m 151 #[iv u0, iv u1, iv u2, iv (0 : Int32), iv (u1 &&& (2147483647 : Int32)), rv sv1, rv sv3, rv sv6, rv b10, rv ev21, rv ev28, rv ev38, rv ev51, .unset] [])) _
      refine XS.iloadN X51.here hx rfl (hb hby at_151) rfl ?_
      show Steps p.tables e below (T51.setTop (mkF m 152 #[iv u0, iv u1, iv u2, iv (0 : Int32), iv (u1 &&& (2147483647 : Int32)), rv sv1, rv sv3, rv sv6, rv b10, rv ev21, rv ev28, rv ev38, rv ev51, .unset] [(.int (0 : Int32))])) _
      refine XS.iconst X51.here hx rfl (hb hby at_152) ?_
      show Steps p.tables e below (T51.setTop (mkF m 153 #[iv u0, iv u1, iv u2, iv (0 : Int32), iv (u1 &&& (2147483647 : Int32)), rv sv1, rv sv3, rv sv6, rv b10, rv ev21, rv ev28, rv ev38, rv ev51, .unset] [(.int (3 : Int32)), (.int (0 : Int32))])) _
      refine XS.icmpYes X51.here hx rfl (pc0 := 153) (pc' := 163) rfl (hb hby at_153) rfl (flt (by decide : ¬ ((3 : Int32) < (0 : Int32)))).2.2.2 (by decide) (by decide) ?_
      show Steps p.tables e below (T51.setTop (mkF m 163 #[iv u0, iv u1, iv u2, iv (0 : Int32), iv (u1 &&& (2147483647 : Int32)), rv sv1, rv sv3, rv sv6, rv b10, rv ev21, rv ev28, rv ev38, rv ev51, .unset] [])) _
      refine XS.iloadN X51.here hx rfl (hb hby at_163) rfl ?_
      show Steps p.tables e below (T51.setTop (mkF m 164 #[iv u0, iv u1, iv u2, iv (0 : Int32), iv (u1 &&& (2147483647 : Int32)), rv sv1, rv sv3, rv sv6, rv b10, rv ev21, rv ev28, rv ev38, rv ev51, .unset] [(.int (0 : Int32))])) _
      refine XS.iconst X51.here hx rfl (hb hby at_164) ?_
      show Steps p.tables e below (T51.setTop (mkF m 165 #[iv u0, iv u1, iv u2, iv (0 : Int32), iv (u1 &&& (2147483647 : Int32)), rv sv1, rv sv3, rv sv6, rv b10, rv ev21, rv ev28, rv ev38, rv ev51, .unset] [(.int (4 : Int32)), (.int (0 : Int32))])) _
      refine XS.icmpYes X51.here hx rfl (pc0 := 165) (pc' := 175) rfl (hb hby at_165) rfl (flt (by decide : ¬ ((4 : Int32) < (0 : Int32)))).2.2.2 (by decide) (by decide) ?_
      show Steps p.tables e below (T51.setTop (mkF m 175 #[iv u0, iv u1, iv u2, iv (0 : Int32), iv (u1 &&& (2147483647 : Int32)), rv sv1, rv sv3, rv sv6, rv b10, rv ev21, rv ev28, rv ev38, rv ev51, .unset] [])) _
      refine XS.iloadN X51.here hx rfl (hb hby at_175) rfl ?_
      show Steps p.tables e below (T51.setTop (mkF m 176 #[iv u0, iv u1, iv u2, iv (0 : Int32), iv (u1 &&& (2147483647 : Int32)), rv sv1, rv sv3, rv sv6, rv b10, rv ev21, rv ev28, rv ev38, rv ev51, .unset] [(.int (0 : Int32))])) _
      refine XS.iconst X51.here hx rfl (hb hby at_176) ?_
      show Steps p.tables e below (T51.setTop (mkF m 177 #[iv u0, iv u1, iv u2, iv (0 : Int32), iv (u1 &&& (2147483647 : Int32)), rv sv1, rv sv3, rv sv6, rv b10, rv ev21, rv ev28, rv ev38, rv ev51, .unset] [(.int (5 : Int32)), (.int (0 : Int32))])) _
      refine XS.icmpYes X51.here hx rfl (pc0 := 177) (pc' := 187) rfl (hb hby at_177) rfl (flt (by decide : ¬ ((5 : Int32) < (0 : Int32)))).2.2.2 (by decide) (by decide) ?_
      show Steps p.tables e below (T51.setTop (mkF m 187 #[iv u0, iv u1, iv u2, iv (0 : Int32), iv (u1 &&& (2147483647 : Int32)), rv sv1, rv sv3, rv sv6, rv b10, rv ev21, rv ev28, rv ev38, rv ev51, .unset] [])) _
      refine XS.iloadN X51.here hx rfl (hb hby at_187) rfl ?_
      show Steps p.tables e below (T51.setTop (mkF m 188 #[iv u0, iv u1, iv u2, iv (0 : Int32), iv (u1 &&& (2147483647 : Int32)), rv sv1, rv sv3, rv sv6, rv b10, rv ev21, rv ev28, rv ev38, rv ev51, .unset] [(.int (0 : Int32))])) _
      refine XS.bipush X51.here hx rfl (hb hby at_188) ?_
      show Steps p.tables e below (T51.setTop (mkF m 190 #[iv u0, iv u1, iv u2, iv (0 : Int32), iv (u1 &&& (2147483647 : Int32)), rv sv1, rv sv3, rv sv6, rv b10, rv ev21, rv ev28, rv ev38, rv ev51, .unset] [(.int (6 : Int32)), (.int (0 : Int32))])) _
      refine XS.icmpYes X51.here hx rfl (pc0 := 190) (pc' := 200) rfl (hb hby at_190) rfl (flt (by decide : ¬ ((6 : Int32) < (0 : Int32)))).2.2.2 (by decide) (by decide) ?_
      show Steps p.tables e below (T51.setTop (mkF m 200 #[iv u0, iv u1, iv u2, iv (0 : Int32), iv (u1 &&& (2147483647 : Int32)), rv sv1, rv sv3, rv sv6, rv b10, rv ev21, rv ev28, rv ev38, rv ev51, .unset] [])) _
      refine XS.iloadN X51.here hx rfl (hb hby at_200) rfl ?_
      show Steps p.tables e below (T51.setTop (mkF m 201 #[iv u0, iv u1, iv u2, iv (0 : Int32), iv (u1 &&& (2147483647 : Int32)), rv sv1, rv sv3, rv sv6, rv b10, rv ev21, rv ev28, rv ev38, rv ev51, .unset] [(.int (0 : Int32))])) _
      refine XS.bipush X51.here hx rfl (hb hby at_201) ?_
      show Steps p.tables e below (T51.setTop (mkF m 203 #[iv u0, iv u1, iv u2, iv (0 : Int32), iv (u1 &&& (2147483647 : Int32)), rv sv1, rv sv3, rv sv6, rv b10, rv ev21, rv ev28, rv ev38, rv ev51, .unset] [(.int (7 : Int32)), (.int (0 : Int32))])) _
      refine XS.icmpYes X51.here hx rfl (pc0 := 203) (pc' := 213) rfl (hb hby at_203) rfl (flt (by decide : ¬ ((7 : Int32) < (0 : Int32)))).2.2.2 (by decide) (by decide) ?_
      show Steps p.tables e below (T51.setTop (mkF m 213 #[iv u0, iv u1, iv u2, iv (0 : Int32), iv (u1 &&& (2147483647 : Int32)), rv sv1, rv sv3, rv sv6, rv b10, rv ev21, rv ev28, rv ev38, rv ev51, .unset] [])) _
      refine XS.iloadN X51.here hx rfl (hb hby at_213) rfl ?_
      show Steps p.tables e below (T51.setTop (mkF m 214 #[iv u0, iv u1, iv u2, iv (0 : Int32), iv (u1 &&& (2147483647 : Int32)), rv sv1, rv sv3, rv sv6, rv b10, rv ev21, rv ev28, rv ev38, rv ev51, .unset] [(.int (0 : Int32))])) _
      refine XS.iconst X51.here hx rfl (hb hby at_214) ?_
      show Steps p.tables e below (T51.setTop (mkF m 215 #[iv u0, iv u1, iv u2, iv (0 : Int32), iv (u1 &&& (2147483647 : Int32)), rv sv1, rv sv3, rv sv6, rv b10, rv ev21, rv ev28, rv ev38, rv ev51, .unset] [(.int (4 : Int32)), (.int (0 : Int32))])) _
      refine XS.icmpNo X51.here hx rfl (hb hby at_215) rfl (tlt (by decide : (0 : Int32) < (4 : Int32))).2.1 ?_
      show Steps p.tables e below (T51.setTop (mkF m 218 #[iv u0, iv u1, iv u2, iv (0 : Int32), iv (u1 &&& (2147483647 : Int32)), rv sv1, rv sv3, rv sv6, rv b10, rv ev21, rv ev28, rv ev38, rv ev51, .unset] [])) _
      refine XS.iconst X51.here hx rfl (hb hby at_218) ?_
      show Steps p.tables e below (T51.setTop (mkF m 219 #[iv u0, iv u1, iv u2, iv (0 : Int32), iv (u1 &&& (2147483647 : Int32)), rv sv1, rv sv3, rv sv6, rv b10, rv ev21, rv ev28, rv ev38, rv ev51, .unset] [(.int (1 : Int32))])) _
      refine XS.istore X51.here hx rfl (hb hby at_219) rfl (l' := #[iv u0, iv u1, iv u2, iv (0 : Int32), iv (u1 &&& (2147483647 : Int32)), rv sv1, rv sv3, rv sv6, rv b10, rv ev21, rv ev28, rv ev38, rv ev51, iv (1 : Int32)]) rfl ?_
      show Steps p.tables e below (T51.setTop (mkF m 221 #[iv u0, iv u1, iv u2, iv (0 : Int32), iv (u1 &&& (2147483647 : Int32)), rv sv1, rv sv3, rv sv6, rv b10, rv ev21, rv ev28, rv ev38, rv ev51, iv (1 : Int32)] [])) _
      refine XS.goto X51.here hx rfl (pc0 := 221) (pc' := 239) rfl (hb hby at_221) (by decide) (by decide) ?_
      show Steps p.tables e below (T51.setTop (mkF m 239 #[iv u0, iv u1, iv u2, iv (0 : Int32), iv (u1 &&& (2147483647 : Int32)), rv sv1, rv sv3, rv sv6, rv b10, rv ev21, rv ev28, rv ev38, rv ev51, iv (1 : Int32)] [])) _
      refine XS.aload X51.here hx rfl (hb hby at_239) rfl rfl ?_
      show Steps p.tables e below (T51.setTop (mkF m 241 #[iv u0, iv u1, iv u2, iv (0 : Int32), iv (u1 &&& (2147483647 : Int32)), rv sv1, rv sv3, rv sv6, rv b10, rv ev21, rv ev28, rv ev38, rv ev51, iv (1 : Int32)] [(.ref b10)])) _
      refine st68.trans ?_
      show Steps p.tables e below (T68.setTop (mkF m 244 #[iv u0, iv u1, iv u2, iv (0 : Int32), iv (u1 &&& (2147483647 : Int32)), rv sv1, rv sv3, rv sv6, rv b10, rv ev21, rv ev28, rv ev38, rv ev51, iv (1 : Int32)] [(.int (1 : Int32))])) _
      refine XS.iload X68.here hx rfl (hb hby at_244) rfl ?_
      show Steps p.tables e below (T68.setTop (mkF m 246 #[iv u0, iv u1, iv u2, iv (0 : Int32), iv (u1 &&& (2147483647 : Int32)), rv sv1, rv sv3, rv sv6, rv b10, rv ev21, rv ev28, rv ev38, rv ev51, iv (1 : Int32)] [(.int (1 : Int32)), (.int (1 : Int32))])) _
      refine XS.icmpNo X68.here hx rfl (hb hby at_246) rfl (teq (by decide : (1 : Int32) = (1 : Int32))).2 ?_
      show Steps p.tables e below (T68.setTop (mkF m 249 #[iv u0, iv u1, iv u2, iv (0 : Int32), iv (u1 &&& (2147483647 : Int32)), rv sv1, rv sv3, rv sv6, rv b10, rv ev21, rv ev28, rv ev38, rv ev51, iv (1 : Int32)] [])) _
      refine XS.iconst X68.here hx rfl (hb hby at_249) ?_
      show Steps p.tables e below (T68.setTop (mkF m 250 #[iv u0, iv u1, iv u2, iv (0 : Int32), iv (u1 &&& (2147483647 : Int32)), rv sv1, rv sv3, rv sv6, rv b10, rv ev21, rv ev28, rv ev38, rv ev51, iv (1 : Int32)] [(.int (1 : Int32))])) _
      refine XS.goto X68.here hx rfl (pc0 := 250) (pc' := 254) rfl (hb hby at_250) (by decide) (by decide) ?_
      show Steps p.tables e below (T68.setTop (mkF m 254 #[iv u0, iv u1, iv u2, iv (0 : Int32), iv (u1 &&& (2147483647 : Int32)), rv sv1, rv sv3, rv sv6, rv b10, rv ev21, rv ev28, rv ev38, rv ev51, iv (1 : Int32)] [(.int (1 : Int32))])) _
      exact retN X68 hx (t := .boolean) Bd.returns (by simp) (hb hby at_254) hr
    · show Q0 Z u0 u1 u2 t0 t1 t2 t3 d0 d1 d2 d3 oa oc G1 h0 n0 _ T68.heap _
      rw [eq68]
      exact ⟨rfl, N68⟩
  · skip
    rw [hn_] at S67
    obtain ⟨cq69, kq69, q69a, q69b, q69c⟩ := isOf hZ rfl f56
    obtain ⟨_, _, ⟨T69, L69, k69, n69⟩, -, X69, ⟨Lc69, hQ69, l69, y69, z69⟩, st69⟩ := X51.virtualBack hx (y := (⟨"com/example/reroutine/reroutine/replanning/ExecutedDay", "add", "(Lcom/example/reroutine/reroutine/scenario/Event;)V"⟩ : MethodName)) (z := (⟨"com/example/reroutine/reroutine/replanning/ExecutedDay", "add", "(Lcom/example/reroutine/reroutine/scenario/Event;)V"⟩ : MethodName)) hown (mvT hZ (hw _ (List.mem_of_getElem? (i := 104) rfl))) (mvT hZ (hw _ (List.mem_of_getElem? (i := 105) rfl))) (notFace_of_selects (args := #[]) (mvT hZ (hw _ (List.mem_of_getElem? (i := 107) rfl)))) (mvT hZ (hw _ (List.mem_of_getElem? (i := 107) rfl))) (mvT hZ (hw _ (List.mem_of_getElem? (i := 106) rfl))) (by decide) (backOf (W := 0) (rmAdd0 l Z a0 hw [] b10 ev21 t0 t1 t2 t3 d0 d1 d2 d3 oa oc (u1 &&& (2147483647 : Int32)) T51.heap n0 Z51 Od52 hst f66 ge_b10 ne_b10_ev21 f57 f58 f59) hZ (hw _ (List.mem_of_getElem? (i := 108) rfl)) (hw _ (List.mem_of_getElem? (i := 29) rfl)) (by decide) (by decide)) q69a q69c (g := (mkF m 124 #[iv u0, iv u1, iv u2, iv (1 : Int32), iv (u1 &&& (2147483647 : Int32)), rv sv1, rv sv3, rv sv6, rv b10, rv ev21, rv ev28, rv ev38, rv ev51, .unset] [(.ref ev21), (.ref b10)])) rfl (by rw [hml]; rfl) (Steps.refl _) (argsL := [(.ref ev21)]) (rest := []) (lenOf pd_14 rfl) rfl (by show 2 * 0 + _ ≤ _; exact Nat.le_of_eq rfl) (hb hby at_124) (fun _ _ => ⟨rfl, rfl, (by decide : 12 + 0 ≤ _), (by decide : 42 + 0 ≤ _)⟩)
    dsimp only [Pt.U, Pt.locs, Pt.cells, Pt.slots] at X69 l69 y69 z69 st69 hQ69
    subst y69 z69
    obtain ⟨rfl, Nq69, Kx69, Bq69⟩ := hQ69
    have N69 : Fr n0 L69 := by rw [l69]; exact Fr.app N51 Nq69
    obtain ⟨ar69, cl69, ty69, Kq69, gar69, Arq69⟩ := Kx69
    have Z69 : n0 ≤ T69.heap.size := Nat.le_trans Z51 Kq69.1
    have f70 := f58.keep Kq69 (ninS (Ne.symm ne_b10_ev21) (ninS (ne_arr f57 (hw _ (List.mem_of_getElem? (i := 51) rfl)) Arq69) nin0))
    have f71 := f59.keep Kq69 (ninS (Ne.symm ne_b10_ev21) (ninS (ne_arr f57 (hw _ (List.mem_of_getElem? (i := 51) rfl)) Arq69) nin0))
    have f72 := f61.keep Kq69 (ninS (Ne.symm ne_b10_ev28) (ninS (ne_arr f60 (hw _ (List.mem_of_getElem? (i := 51) rfl)) Arq69) nin0))
    have f73 := f62.keep Kq69 (ninS (Ne.symm ne_b10_ev28) (ninS (ne_arr f60 (hw _ (List.mem_of_getElem? (i := 51) rfl)) Arq69) nin0))
    have f74 := f64.keep Kq69 (ninS (Ne.symm ne_b10_ev38) (ninS (ne_arr f63 (hw _ (List.mem_of_getElem? (i := 51) rfl)) Arq69) nin0))
    have f75 := f65.keep Kq69 (ninS (Ne.symm ne_b10_ev38) (ninS (ne_arr f63 (hw _ (List.mem_of_getElem? (i := 51) rfl)) Arq69) nin0))
    have f76 := Fm51.keep Kq69 (ninS (Ne.symm ne_b10_ev51) (ninS (ne_arr Eq51 (hw _ (List.mem_of_getElem? (i := 51) rfl)) Arq69) nin0))
    have f77 := Ft51.keep Kq69 (ninS (Ne.symm ne_b10_ev51) (ninS (ne_arr Eq51 (hw _ (List.mem_of_getElem? (i := 51) rfl)) Arq69) nin0))
    have f78 := f56.keep Kq69
    have f79 := f57.keep Kq69
    have f80 := f60.keep Kq69
    have f81 := f63.keep Kq69
    have f82 := Eq51.keep Kq69
    have Od69 := Od52.keep Kq69 (allS ge_b10 (allS gar69 all0))
    obtain ⟨cq83, kq83, q83a, q83b, q83c⟩ := isOf hZ rfl f78
    obtain ⟨_, _, ⟨T83, L83, k83, n83⟩, -, X83, ⟨Lc83, hQ83, l83, y83, z83⟩, st83⟩ := X69.virtualBack hx (y := (⟨"com/example/reroutine/reroutine/replanning/ExecutedDay", "activitiesReached", "()I"⟩ : MethodName)) (z := (⟨"com/example/reroutine/reroutine/replanning/ExecutedDay", "activitiesReached", "()I"⟩ : MethodName)) hown (mvT hZ (hw _ (List.mem_of_getElem? (i := 97) rfl))) (mvT hZ (hw _ (List.mem_of_getElem? (i := 98) rfl))) (notFace_of_selects (args := #[]) (mvT hZ (hw _ (List.mem_of_getElem? (i := 100) rfl)))) (mvT hZ (hw _ (List.mem_of_getElem? (i := 100) rfl))) (mvT hZ (hw _ (List.mem_of_getElem? (i := 99) rfl))) (by decide) (backOf (W := 0) (rmQ1 l Z a0 hw [] b10 t0 t1 t2 t3 d0 d1 d2 d3 oa oc T69.heap n0 Z69 Od69 hst Bq69.2.1) hZ (hw _ (List.mem_of_getElem? (i := 101) rfl)) (hw _ (List.mem_of_getElem? (i := 29) rfl)) (by decide) (by decide)) q83a q83c (g := (mkF m 241 #[iv u0, iv u1, iv u2, iv (1 : Int32), iv (u1 &&& (2147483647 : Int32)), rv sv1, rv sv3, rv sv6, rv b10, rv ev21, rv ev28, rv ev38, rv ev51, iv (1 : Int32)] [(.ref b10)])) rfl (by rw [hml]; rfl) (Steps.refl _) (argsL := []) (rest := []) (lenOf pd_9 rfl) rfl (by show 2 * 0 + _ ≤ _; exact Nat.le_of_eq rfl) (hb hby at_241) (fun _ _ => ⟨rfl, rfl, (by decide : 12 + 0 ≤ _), (by decide : 42 + 0 ≤ _)⟩)
    dsimp only [Pt.U, Pt.locs, Pt.cells, Pt.slots] at X83 l83 y83 z83 st83 hQ83
    subst y83 z83
    obtain ⟨rfl, Nq83, eq83⟩ := hQ83
    have N83 : Fr n0 L83 := by rw [l83]; exact Fr.app N69 Nq83
    obtain ⟨fs, hr, hrun, hended, hW, hsame⟩ := X83.leave (v := some (.int (1 : Int32))) (fun h => by rw [Bd.returns] at h; cases h)
    refine ⟨_, _, S67 _ ?_, hrun, hended, _, _, rfl, ?_, ⟨_, rfl⟩, hW, hsame.mono (by decide) (by decide)⟩
    · skip
      show Steps p.tables e below (T51.setTop (mkF m 117 #[iv u0, iv u1, iv u2, iv (1 : Int32), iv (u1 &&& (2147483647 : Int32)), rv sv1, rv sv3, rv sv6, rv b10, rv ev21, rv ev28, rv ev38, rv ev51, .unset] [(.int (1 : Int32))])) _
      refine XS.ifNo X51.here hx rfl (hb hby at_117) rfl ((if0 _ _).trans (tlt (by decide : (0 : Int32) < (1 : Int32))).2.2.2) ?_
      show Steps p.tables e below (T51.setTop (mkF m 120 #[iv u0, iv u1, iv u2, iv (1 : Int32), iv (u1 &&& (2147483647 : Int32)), rv sv1, rv sv3, rv sv6, rv b10, rv ev21, rv ev28, rv ev38, rv ev51, .unset] [])) _
      refine XS.aload X51.here hx rfl (hb hby at_120) rfl rfl ?_
      show Steps p.tables e below (T51.setTop (mkF m 122 #[iv u0, iv u1, iv u2, iv (1 : Int32), iv (u1 &&& (2147483647 : Int32)), rv sv1, rv sv3, rv sv6, rv b10, rv ev21, rv ev28, rv ev38, rv ev51, .unset] [(.ref b10)])) _
      refine XS.aload X51.here hx rfl (hb hby at_122) rfl rfl ?_
      show Steps p.tables e below (T51.setTop (mkF m 124 #[iv u0, iv u1, iv u2, iv (1 : Int32), iv (u1 &&& (2147483647 : Int32)), rv sv1, rv sv3, rv sv6, rv b10, rv ev21, rv ev28, rv ev38, rv ev51, .unset] [(.ref ev21), (.ref b10)])) _
      refine st69.trans ?_
      show Steps p.tables e below (T69.setTop (mkF m 127 #[iv u0, iv u1, iv u2, iv (1 : Int32), iv (u1 &&& (2147483647 : Int32)), rv sv1, rv sv3, rv sv6, rv b10, rv ev21, rv ev28, rv ev38, rv ev51, .unset] [])) _
      refine XS.iloadN X69.here hx rfl (hb hby at_127) rfl ?_
      show Steps p.tables e below (T69.setTop (mkF m 128 #[iv u0, iv u1, iv u2, iv (1 : Int32), iv (u1 &&& (2147483647 : Int32)), rv sv1, rv sv3, rv sv6, rv b10, rv ev21, rv ev28, rv ev38, rv ev51, .unset] [(.int (1 : Int32))])) _
      refine XS.iconst X69.here hx rfl (hb hby at_128) ?_
      show Steps p.tables e below (T69.setTop (mkF m 129 #[iv u0, iv u1, iv u2, iv (1 : Int32), iv (u1 &&& (2147483647 : Int32)), rv sv1, rv sv3, rv sv6, rv b10, rv ev21, rv ev28, rv ev38, rv ev51, .unset] [(.int (1 : Int32)), (.int (1 : Int32))])) _
      refine XS.icmpYes X69.here hx rfl (pc0 := 129) (pc' := 139) rfl (hb hby at_129) rfl (flt (by decide : ¬ ((1 : Int32) < (1 : Int32)))).2.2.2 (by decide) (by decide) ?_
      show Steps p.tables e below (T69.setTop (mkF m 139 #[iv u0, iv u1, iv u2, iv (1 : Int32), iv (u1 &&& (2147483647 : Int32)), rv sv1, rv sv3, rv sv6, rv b10, rv ev21, rv ev28, rv ev38, rv ev51, .unset] [])) _
      refine XS.iloadN X69.here hx rfl (hb hby at_139) rfl ?_
      show Steps p.tables e below (T69.setTop (mkF m 140 #[iv u0, iv u1, iv u2, iv (1 : Int32), iv (u1 &&& (2147483647 : Int32)), rv sv1, rv sv3, rv sv6, rv b10, rv ev21, rv ev28, rv ev38, rv ev51, .unset] [(.int (1 : Int32))])) _
      refine XS.iconst X69.here hx rfl (hb hby at_140) ?_
      show Steps p.tables e below (T69.setTop (mkF m 141 #[iv u0, iv u1, iv u2, iv (1 : Int32), iv (u1 &&& (2147483647 : Int32)), rv sv1, rv sv3, rv sv6, rv b10, rv ev21, rv ev28, rv ev38, rv ev51, .unset] [(.int (2 : Int32)), (.int (1 : Int32))])) _
      refine XS.icmpYes X69.here hx rfl (pc0 := 141) (pc' := 151) rfl (hb hby at_141) rfl (flt (by decide : ¬ ((2 : Int32) < (1 : Int32)))).2.2.2 (by decide) (by decide) ?_
      show Steps p.tables e below (T69.setTop (mkF m 151 #[iv u0, iv u1, iv u2, iv (1 : Int32), iv (u1 &&& (2147483647 : Int32)), rv sv1, rv sv3, rv sv6, rv b10, rv ev21, rv ev28, rv ev38, rv ev51, .unset] [])) _
      refine XS.iloadN X69.here hx rfl (hb hby at_151) rfl ?_
      show Steps p.tables e below (T69.setTop (mkF m 152 #[iv u0, iv u1, iv u2, iv (1 : Int32), iv (u1 &&& (2147483647 : Int32)), rv sv1, rv sv3, rv sv6, rv b10, rv ev21, rv ev28, rv ev38, rv ev51, .unset] [(.int (1 : Int32))])) _
      refine XS.iconst X69.here hx rfl (hb hby at_152) ?_
      show Steps p.tables e below (T69.setTop (mkF m 153 #[iv u0, iv u1, iv u2, iv (1 : Int32), iv (u1 &&& (2147483647 : Int32)), rv sv1, rv sv3, rv sv6, rv b10, rv ev21, rv ev28, rv ev38, rv ev51, .unset] [(.int (3 : Int32)), (.int (1 : Int32))])) _
      refine XS.icmpYes X69.here hx rfl (pc0 := 153) (pc' := 163) rfl (hb hby at_153) rfl (flt (by decide : ¬ ((3 : Int32) < (1 : Int32)))).2.2.2 (by decide) (by decide) ?_
      show Steps p.tables e below (T69.setTop (mkF m 163 #[iv u0, iv u1, iv u2, iv (1 : Int32), iv (u1 &&& (2147483647 : Int32)), rv sv1, rv sv3, rv sv6, rv b10, rv ev21, rv ev28, rv ev38, rv ev51, .unset] [])) _
      refine XS.iloadN X69.here hx rfl (hb hby at_163) rfl ?_
      show Steps p.tables e below (T69.setTop (mkF m 164 #[iv u0, iv u1, iv u2, iv (1 : Int32), iv (u1 &&& (2147483647 : Int32)), rv sv1, rv sv3, rv sv6, rv b10, rv ev21, rv ev28, rv ev38, rv ev51, .unset] [(.int (1 : Int32))])) _
      refine XS.iconst X69.here hx rfl (hb hby at_164) ?_
      show Steps p.tables e below (T69.setTop (mkF m 165 #[iv u0, iv u1, iv u2, iv (1 : Int32), iv (u1 &&& (2147483647 : Int32)), rv sv1, rv sv3, rv sv6, rv b10, rv ev21, rv ev28, rv ev38, rv ev51, .unset] [(.int (4 : Int32)), (.int (1 : Int32))])) _
      refine XS.icmpYes X69.here hx rfl (pc0 := 165) (pc' := 175) rfl (hb hby at_165) rfl (flt (by decide : ¬ ((4 : Int32) < (1 : Int32)))).2.2.2 (by decide) (by decide) ?_
      show Steps p.tables e below (T69.setTop (mkF m 175 #[iv u0, iv u1, iv u2, iv (1 : Int32), iv (u1 &&& (2147483647 : Int32)), rv sv1, rv sv3, rv sv6, rv b10, rv ev21, rv ev28, rv ev38, rv ev51, .unset] [])) _
      refine XS.iloadN X69.here hx rfl (hb hby at_175) rfl ?_
      show Steps p.tables e below (T69.setTop (mkF m 176 #[iv u0, iv u1, iv u2, iv (1 : Int32), iv (u1 &&& (2147483647 : Int32)), rv sv1, rv sv3, rv sv6, rv b10, rv ev21, rv ev28, rv ev38, rv ev51, .unset] [(.int (1 : Int32))])) _
      refine XS.iconst X69.here hx rfl (hb hby at_176) ?_
      show Steps p.tables e below (T69.setTop (mkF m 177 #[iv u0, iv u1, iv u2, iv (1 : Int32), iv (u1 &&& (2147483647 : Int32)), rv sv1, rv sv3, rv sv6, rv b10, rv ev21, rv ev28, rv ev38, rv ev51, .unset] [(.int (5 : Int32)), (.int (1 : Int32))])) _
      refine XS.icmpYes X69.here hx rfl (pc0 := 177) (pc' := 187) rfl (hb hby at_177) rfl (flt (by decide : ¬ ((5 : Int32) < (1 : Int32)))).2.2.2 (by decide) (by decide) ?_
      show Steps p.tables e below (T69.setTop (mkF m 187 #[iv u0, iv u1, iv u2, iv (1 : Int32), iv (u1 &&& (2147483647 : Int32)), rv sv1, rv sv3, rv sv6, rv b10, rv ev21, rv ev28, rv ev38, rv ev51, .unset] [])) _
      refine XS.iloadN X69.here hx rfl (hb hby at_187) rfl ?_
      show Steps p.tables e below (T69.setTop (mkF m 188 #[iv u0, iv u1, iv u2, iv (1 : Int32), iv (u1 &&& (2147483647 : Int32)), rv sv1, rv sv3, rv sv6, rv b10, rv ev21, rv ev28, rv ev38, rv ev51, .unset] [(.int (1 : Int32))])) _
      refine XS.bipush X69.here hx rfl (hb hby at_188) ?_
      show Steps p.tables e below (T69.setTop (mkF m 190 #[iv u0, iv u1, iv u2, iv (1 : Int32), iv (u1 &&& (2147483647 : Int32)), rv sv1, rv sv3, rv sv6, rv b10, rv ev21, rv ev28, rv ev38, rv ev51, .unset] [(.int (6 : Int32)), (.int (1 : Int32))])) _
      refine XS.icmpYes X69.here hx rfl (pc0 := 190) (pc' := 200) rfl (hb hby at_190) rfl (flt (by decide : ¬ ((6 : Int32) < (1 : Int32)))).2.2.2 (by decide) (by decide) ?_
      show Steps p.tables e below (T69.setTop (mkF m 200 #[iv u0, iv u1, iv u2, iv (1 : Int32), iv (u1 &&& (2147483647 : Int32)), rv sv1, rv sv3, rv sv6, rv b10, rv ev21, rv ev28, rv ev38, rv ev51, .unset] [])) _
      refine XS.iloadN X69.here hx rfl (hb hby at_200) rfl ?_
      show Steps p.tables e below (T69.setTop (mkF m 201 #[iv u0, iv u1, iv u2, iv (1 : Int32), iv (u1 &&& (2147483647 : Int32)), rv sv1, rv sv3, rv sv6, rv b10, rv ev21, rv ev28, rv ev38, rv ev51, .unset] [(.int (1 : Int32))])) _
      refine XS.bipush X69.here hx rfl (hb hby at_201) ?_
      show Steps p.tables e below (T69.setTop (mkF m 203 #[iv u0, iv u1, iv u2, iv (1 : Int32), iv (u1 &&& (2147483647 : Int32)), rv sv1, rv sv3, rv sv6, rv b10, rv ev21, rv ev28, rv ev38, rv ev51, .unset] [(.int (7 : Int32)), (.int (1 : Int32))])) _
      refine XS.icmpYes X69.here hx rfl (pc0 := 203) (pc' := 213) rfl (hb hby at_203) rfl (flt (by decide : ¬ ((7 : Int32) < (1 : Int32)))).2.2.2 (by decide) (by decide) ?_
      show Steps p.tables e below (T69.setTop (mkF m 213 #[iv u0, iv u1, iv u2, iv (1 : Int32), iv (u1 &&& (2147483647 : Int32)), rv sv1, rv sv3, rv sv6, rv b10, rv ev21, rv ev28, rv ev38, rv ev51, .unset] [])) _
      refine XS.iloadN X69.here hx rfl (hb hby at_213) rfl ?_
      show Steps p.tables e below (T69.setTop (mkF m 214 #[iv u0, iv u1, iv u2, iv (1 : Int32), iv (u1 &&& (2147483647 : Int32)), rv sv1, rv sv3, rv sv6, rv b10, rv ev21, rv ev28, rv ev38, rv ev51, .unset] [(.int (1 : Int32))])) _
      refine XS.iconst X69.here hx rfl (hb hby at_214) ?_
      show Steps p.tables e below (T69.setTop (mkF m 215 #[iv u0, iv u1, iv u2, iv (1 : Int32), iv (u1 &&& (2147483647 : Int32)), rv sv1, rv sv3, rv sv6, rv b10, rv ev21, rv ev28, rv ev38, rv ev51, .unset] [(.int (4 : Int32)), (.int (1 : Int32))])) _
      refine XS.icmpNo X69.here hx rfl (hb hby at_215) rfl (tlt (by decide : (1 : Int32) < (4 : Int32))).2.1 ?_
      show Steps p.tables e below (T69.setTop (mkF m 218 #[iv u0, iv u1, iv u2, iv (1 : Int32), iv (u1 &&& (2147483647 : Int32)), rv sv1, rv sv3, rv sv6, rv b10, rv ev21, rv ev28, rv ev38, rv ev51, .unset] [])) _
      refine XS.iconst X69.here hx rfl (hb hby at_218) ?_
      show Steps p.tables e below (T69.setTop (mkF m 219 #[iv u0, iv u1, iv u2, iv (1 : Int32), iv (u1 &&& (2147483647 : Int32)), rv sv1, rv sv3, rv sv6, rv b10, rv ev21, rv ev28, rv ev38, rv ev51, .unset] [(.int (1 : Int32))])) _
      refine XS.istore X69.here hx rfl (hb hby at_219) rfl (l' := #[iv u0, iv u1, iv u2, iv (1 : Int32), iv (u1 &&& (2147483647 : Int32)), rv sv1, rv sv3, rv sv6, rv b10, rv ev21, rv ev28, rv ev38, rv ev51, iv (1 : Int32)]) rfl ?_
      show Steps p.tables e below (T69.setTop (mkF m 221 #[iv u0, iv u1, iv u2, iv (1 : Int32), iv (u1 &&& (2147483647 : Int32)), rv sv1, rv sv3, rv sv6, rv b10, rv ev21, rv ev28, rv ev38, rv ev51, iv (1 : Int32)] [])) _
      refine XS.goto X69.here hx rfl (pc0 := 221) (pc' := 239) rfl (hb hby at_221) (by decide) (by decide) ?_
      show Steps p.tables e below (T69.setTop (mkF m 239 #[iv u0, iv u1, iv u2, iv (1 : Int32), iv (u1 &&& (2147483647 : Int32)), rv sv1, rv sv3, rv sv6, rv b10, rv ev21, rv ev28, rv ev38, rv ev51, iv (1 : Int32)] [])) _
      refine XS.aload X69.here hx rfl (hb hby at_239) rfl rfl ?_
      show Steps p.tables e below (T69.setTop (mkF m 241 #[iv u0, iv u1, iv u2, iv (1 : Int32), iv (u1 &&& (2147483647 : Int32)), rv sv1, rv sv3, rv sv6, rv b10, rv ev21, rv ev28, rv ev38, rv ev51, iv (1 : Int32)] [(.ref b10)])) _
      refine st83.trans ?_
      show Steps p.tables e below (T83.setTop (mkF m 244 #[iv u0, iv u1, iv u2, iv (1 : Int32), iv (u1 &&& (2147483647 : Int32)), rv sv1, rv sv3, rv sv6, rv b10, rv ev21, rv ev28, rv ev38, rv ev51, iv (1 : Int32)] [(.int (1 : Int32))])) _
      refine XS.iload X83.here hx rfl (hb hby at_244) rfl ?_
      show Steps p.tables e below (T83.setTop (mkF m 246 #[iv u0, iv u1, iv u2, iv (1 : Int32), iv (u1 &&& (2147483647 : Int32)), rv sv1, rv sv3, rv sv6, rv b10, rv ev21, rv ev28, rv ev38, rv ev51, iv (1 : Int32)] [(.int (1 : Int32)), (.int (1 : Int32))])) _
      refine XS.icmpNo X83.here hx rfl (hb hby at_246) rfl (teq (by decide : (1 : Int32) = (1 : Int32))).2 ?_
      show Steps p.tables e below (T83.setTop (mkF m 249 #[iv u0, iv u1, iv u2, iv (1 : Int32), iv (u1 &&& (2147483647 : Int32)), rv sv1, rv sv3, rv sv6, rv b10, rv ev21, rv ev28, rv ev38, rv ev51, iv (1 : Int32)] [])) _
      refine XS.iconst X83.here hx rfl (hb hby at_249) ?_
      show Steps p.tables e below (T83.setTop (mkF m 250 #[iv u0, iv u1, iv u2, iv (1 : Int32), iv (u1 &&& (2147483647 : Int32)), rv sv1, rv sv3, rv sv6, rv b10, rv ev21, rv ev28, rv ev38, rv ev51, iv (1 : Int32)] [(.int (1 : Int32))])) _
      refine XS.goto X83.here hx rfl (pc0 := 250) (pc' := 254) rfl (hb hby at_250) (by decide) (by decide) ?_
      show Steps p.tables e below (T83.setTop (mkF m 254 #[iv u0, iv u1, iv u2, iv (1 : Int32), iv (u1 &&& (2147483647 : Int32)), rv sv1, rv sv3, rv sv6, rv b10, rv ev21, rv ev28, rv ev38, rv ev51, iv (1 : Int32)] [(.int (1 : Int32))])) _
      exact retN X83 hx (t := .boolean) Bd.returns (by simp) (hb hby at_254) hr
    · show Q0 Z u0 u1 u2 t0 t1 t2 t3 d0 d1 d2 d3 oa oc G1 h0 n0 _ T83.heap _
      rw [eq83]
      exact ⟨rfl, N83⟩
  · skip
    rw [hn_] at S67
    obtain ⟨cq84, kq84, q84a, q84b, q84c⟩ := isOf hZ rfl f56
    obtain ⟨_, _, ⟨T84, L84, k84, n84⟩, -, X84, ⟨Lc84, hQ84, l84, y84, z84⟩, st84⟩ := X51.virtualBack hx (y := (⟨"com/example/reroutine/reroutine/replanning/ExecutedDay", "add", "(Lcom/example/reroutine/reroutine/scenario/Event;)V"⟩ : MethodName)) (z := (⟨"com/example/reroutine/reroutine/replanning/ExecutedDay", "add", "(Lcom/example/reroutine/reroutine/scenario/Event;)V"⟩ : MethodName)) hown (mvT hZ (hw _ (List.mem_of_getElem? (i := 104) rfl))) (mvT hZ (hw _ (List.mem_of_getElem? (i := 105) rfl))) (notFace_of_selects (args := #[]) (mvT hZ (hw _ (List.mem_of_getElem? (i := 107) rfl)))) (mvT hZ (hw _ (List.mem_of_getElem? (i := 107) rfl))) (mvT hZ (hw _ (List.mem_of_getElem? (i := 106) rfl))) (by decide) (backOf (W := 0) (rmAdd0 l Z a0 hw [] b10 ev21 t0 t1 t2 t3 d0 d1 d2 d3 oa oc (u1 &&& (2147483647 : Int32)) T51.heap n0 Z51 Od52 hst f66 ge_b10 ne_b10_ev21 f57 f58 f59) hZ (hw _ (List.mem_of_getElem? (i := 108) rfl)) (hw _ (List.mem_of_getElem? (i := 29) rfl)) (by decide) (by decide)) q84a q84c (g := (mkF m 124 #[iv u0, iv u1, iv u2, iv (2 : Int32), iv (u1 &&& (2147483647 : Int32)), rv sv1, rv sv3, rv sv6, rv b10, rv ev21, rv ev28, rv ev38, rv ev51, .unset] [(.ref ev21), (.ref b10)])) rfl (by rw [hml]; rfl) (Steps.refl _) (argsL := [(.ref ev21)]) (rest := []) (lenOf pd_14 rfl) rfl (by show 2 * 0 + _ ≤ _; exact Nat.le_of_eq rfl) (hb hby at_124) (fun _ _ => ⟨rfl, rfl, (by decide : 12 + 0 ≤ _), (by decide : 42 + 0 ≤ _)⟩)
    dsimp only [Pt.U, Pt.locs, Pt.cells, Pt.slots] at X84 l84 y84 z84 st84 hQ84
    subst y84 z84
    obtain ⟨rfl, Nq84, Kx84, Bq84⟩ := hQ84
    have N84 : Fr n0 L84 := by rw [l84]; exact Fr.app N51 Nq84
    obtain ⟨ar84, cl84, ty84, Kq84, gar84, Arq84⟩ := Kx84
    have Z84 : n0 ≤ T84.heap.size := Nat.le_trans Z51 Kq84.1
    have f85 := f58.keep Kq84 (ninS (Ne.symm ne_b10_ev21) (ninS (ne_arr f57 (hw _ (List.mem_of_getElem? (i := 51) rfl)) Arq84) nin0))
    have f86 := f59.keep Kq84 (ninS (Ne.symm ne_b10_ev21) (ninS (ne_arr f57 (hw _ (List.mem_of_getElem? (i := 51) rfl)) Arq84) nin0))
    have f87 := f61.keep Kq84 (ninS (Ne.symm ne_b10_ev28) (ninS (ne_arr f60 (hw _ (List.mem_of_getElem? (i := 51) rfl)) Arq84) nin0))
    have f88 := f62.keep Kq84 (ninS (Ne.symm ne_b10_ev28) (ninS (ne_arr f60 (hw _ (List.mem_of_getElem? (i := 51) rfl)) Arq84) nin0))
    have f89 := f64.keep Kq84 (ninS (Ne.symm ne_b10_ev38) (ninS (ne_arr f63 (hw _ (List.mem_of_getElem? (i := 51) rfl)) Arq84) nin0))
    have f90 := f65.keep Kq84 (ninS (Ne.symm ne_b10_ev38) (ninS (ne_arr f63 (hw _ (List.mem_of_getElem? (i := 51) rfl)) Arq84) nin0))
    have f91 := Fm51.keep Kq84 (ninS (Ne.symm ne_b10_ev51) (ninS (ne_arr Eq51 (hw _ (List.mem_of_getElem? (i := 51) rfl)) Arq84) nin0))
    have f92 := Ft51.keep Kq84 (ninS (Ne.symm ne_b10_ev51) (ninS (ne_arr Eq51 (hw _ (List.mem_of_getElem? (i := 51) rfl)) Arq84) nin0))
    have f93 := f56.keep Kq84
    have f94 := f57.keep Kq84
    have f95 := f60.keep Kq84
    have f96 := f63.keep Kq84
    have f97 := Eq51.keep Kq84
    have Od84 := Od52.keep Kq84 (allS ge_b10 (allS gar84 all0))
    obtain ⟨cq98, kq98, q98a, q98b, q98c⟩ := isOf hZ rfl f93
    obtain ⟨_, _, ⟨T98, L98, k98, n98⟩, -, X98, ⟨Lc98, hQ98, l98, y98, z98⟩, st98⟩ := X84.virtualBack hx (y := (⟨"com/example/reroutine/reroutine/replanning/ExecutedDay", "add", "(Lcom/example/reroutine/reroutine/scenario/Event;)V"⟩ : MethodName)) (z := (⟨"com/example/reroutine/reroutine/replanning/ExecutedDay", "add", "(Lcom/example/reroutine/reroutine/scenario/Event;)V"⟩ : MethodName)) hown (mvT hZ (hw _ (List.mem_of_getElem? (i := 104) rfl))) (mvT hZ (hw _ (List.mem_of_getElem? (i := 105) rfl))) (notFace_of_selects (args := #[]) (mvT hZ (hw _ (List.mem_of_getElem? (i := 107) rfl)))) (mvT hZ (hw _ (List.mem_of_getElem? (i := 107) rfl))) (mvT hZ (hw _ (List.mem_of_getElem? (i := 106) rfl))) (by decide) (backOf (W := 0) (rmAdd1 l Z a0 hw [] b10 ev28 t0 t1 t2 t3 d0 d1 d2 d3 oa oc (u1 &&& (2147483647 : Int32)) T84.heap n0 Z84 Od84 hst Bq84 ge_b10 ne_b10_ev28 f95 f87 f88) hZ (hw _ (List.mem_of_getElem? (i := 108) rfl)) (hw _ (List.mem_of_getElem? (i := 29) rfl)) (by decide) (by decide)) q98a q98c (g := (mkF m 136 #[iv u0, iv u1, iv u2, iv (2 : Int32), iv (u1 &&& (2147483647 : Int32)), rv sv1, rv sv3, rv sv6, rv b10, rv ev21, rv ev28, rv ev38, rv ev51, .unset] [(.ref ev28), (.ref b10)])) rfl (by rw [hml]; rfl) (Steps.refl _) (argsL := [(.ref ev28)]) (rest := []) (lenOf pd_14 rfl) rfl (by show 2 * 0 + _ ≤ _; exact Nat.le_of_eq rfl) (hb hby at_136) (fun _ _ => ⟨rfl, rfl, (by decide : 12 + 0 ≤ _), (by decide : 42 + 0 ≤ _)⟩)
    dsimp only [Pt.U, Pt.locs, Pt.cells, Pt.slots] at X98 l98 y98 z98 st98 hQ98
    subst y98 z98
    obtain ⟨rfl, Nq98, Kx98, Bq98⟩ := hQ98
    have N98 : Fr n0 L98 := by rw [l98]; exact Fr.app N84 Nq98
    obtain ⟨ar98, cl98, ty98, Kq98, gar98, Arq98⟩ := Kx98
    have Z98 : n0 ≤ T98.heap.size := Nat.le_trans Z84 Kq98.1
    have f99 := f85.keep Kq98 (ninS (Ne.symm ne_b10_ev21) (ninS (ne_arr f94 (hw _ (List.mem_of_getElem? (i := 51) rfl)) Arq98) nin0))
    have f100 := f86.keep Kq98 (ninS (Ne.symm ne_b10_ev21) (ninS (ne_arr f94 (hw _ (List.mem_of_getElem? (i := 51) rfl)) Arq98) nin0))
    have f101 := f87.keep Kq98 (ninS (Ne.symm ne_b10_ev28) (ninS (ne_arr f95 (hw _ (List.mem_of_getElem? (i := 51) rfl)) Arq98) nin0))
    have f102 := f88.keep Kq98 (ninS (Ne.symm ne_b10_ev28) (ninS (ne_arr f95 (hw _ (List.mem_of_getElem? (i := 51) rfl)) Arq98) nin0))
    have f103 := f89.keep Kq98 (ninS (Ne.symm ne_b10_ev38) (ninS (ne_arr f96 (hw _ (List.mem_of_getElem? (i := 51) rfl)) Arq98) nin0))
    have f104 := f90.keep Kq98 (ninS (Ne.symm ne_b10_ev38) (ninS (ne_arr f96 (hw _ (List.mem_of_getElem? (i := 51) rfl)) Arq98) nin0))
    have f105 := f91.keep Kq98 (ninS (Ne.symm ne_b10_ev51) (ninS (ne_arr f97 (hw _ (List.mem_of_getElem? (i := 51) rfl)) Arq98) nin0))
    have f106 := f92.keep Kq98 (ninS (Ne.symm ne_b10_ev51) (ninS (ne_arr f97 (hw _ (List.mem_of_getElem? (i := 51) rfl)) Arq98) nin0))
    have f107 := f93.keep Kq98
    have f108 := f94.keep Kq98
    have f109 := f95.keep Kq98
    have f110 := f96.keep Kq98
    have f111 := f97.keep Kq98
    have Od98 := Od84.keep Kq98 (allS ge_b10 (allS gar98 all0))
    obtain ⟨cq112, kq112, q112a, q112b, q112c⟩ := isOf hZ rfl f107
    obtain ⟨_, _, ⟨T112, L112, k112, n112⟩, -, X112, ⟨Lc112, hQ112, l112, y112, z112⟩, st112⟩ := X98.virtualBack hx (y := (⟨"com/example/reroutine/reroutine/replanning/ExecutedDay", "activitiesReached", "()I"⟩ : MethodName)) (z := (⟨"com/example/reroutine/reroutine/replanning/ExecutedDay", "activitiesReached", "()I"⟩ : MethodName)) hown (mvT hZ (hw _ (List.mem_of_getElem? (i := 97) rfl))) (mvT hZ (hw _ (List.mem_of_getElem? (i := 98) rfl))) (notFace_of_selects (args := #[]) (mvT hZ (hw _ (List.mem_of_getElem? (i := 100) rfl)))) (mvT hZ (hw _ (List.mem_of_getElem? (i := 100) rfl))) (mvT hZ (hw _ (List.mem_of_getElem? (i := 99) rfl))) (by decide) (backOf (W := 0) (rmQ2 l Z a0 hw [] b10 t0 t1 t2 t3 d0 d1 d2 d3 oa oc T98.heap n0 Z98 Od98 hst Bq98.2.1) hZ (hw _ (List.mem_of_getElem? (i := 101) rfl)) (hw _ (List.mem_of_getElem? (i := 29) rfl)) (by decide) (by decide)) q112a q112c (g := (mkF m 241 #[iv u0, iv u1, iv u2, iv (2 : Int32), iv (u1 &&& (2147483647 : Int32)), rv sv1, rv sv3, rv sv6, rv b10, rv ev21, rv ev28, rv ev38, rv ev51, iv (1 : Int32)] [(.ref b10)])) rfl (by rw [hml]; rfl) (Steps.refl _) (argsL := []) (rest := []) (lenOf pd_9 rfl) rfl (by show 2 * 0 + _ ≤ _; exact Nat.le_of_eq rfl) (hb hby at_241) (fun _ _ => ⟨rfl, rfl, (by decide : 12 + 0 ≤ _), (by decide : 42 + 0 ≤ _)⟩)
    dsimp only [Pt.U, Pt.locs, Pt.cells, Pt.slots] at X112 l112 y112 z112 st112 hQ112
    subst y112 z112
    obtain ⟨rfl, Nq112, eq112⟩ := hQ112
    have N112 : Fr n0 L112 := by rw [l112]; exact Fr.app N98 Nq112
    obtain ⟨fs, hr, hrun, hended, hW, hsame⟩ := X112.leave (v := some (.int (1 : Int32))) (fun h => by rw [Bd.returns] at h; cases h)
    refine ⟨_, _, S67 _ ?_, hrun, hended, _, _, rfl, ?_, ⟨_, rfl⟩, hW, hsame.mono (by decide) (by decide)⟩
    · skip
      show Steps p.tables e below (T51.setTop (mkF m 117 #[iv u0, iv u1, iv u2, iv (2 : Int32), iv (u1 &&& (2147483647 : Int32)), rv sv1, rv sv3, rv sv6, rv b10, rv ev21, rv ev28, rv ev38, rv ev51, .unset] [(.int (2 : Int32))])) _
      refine XS.ifNo X51.here hx rfl (hb hby at_117) rfl ((if0 _ _).trans (tlt (by decide : (0 : Int32) < (2 : Int32))).2.2.2) ?_
      show Steps p.tables e below (T51.setTop (mkF m 120 #[iv u0, iv u1, iv u2, iv (2 : Int32), iv (u1 &&& (2147483647 : Int32)), rv sv1, rv sv3, rv sv6, rv b10, rv ev21, rv ev28, rv ev38, rv ev51, .unset] [])) _
      refine XS.aload X51.here hx rfl (hb hby at_120) rfl rfl ?_
      show Steps p.tables e below (T51.setTop (mkF m 122 #[iv u0, iv u1, iv u2, iv (2 : Int32), iv (u1 &&& (2147483647 : Int32)), rv sv1, rv sv3, rv sv6, rv b10, rv ev21, rv ev28, rv ev38, rv ev51, .unset] [(.ref b10)])) _
      refine XS.aload X51.here hx rfl (hb hby at_122) rfl rfl ?_
      show Steps p.tables e below (T51.setTop (mkF m 124 #[iv u0, iv u1, iv u2, iv (2 : Int32), iv (u1 &&& (2147483647 : Int32)), rv sv1, rv sv3, rv sv6, rv b10, rv ev21, rv ev28, rv ev38, rv ev51, .unset] [(.ref ev21), (.ref b10)])) _
      refine st84.trans ?_
      show Steps p.tables e below (T84.setTop (mkF m 127 #[iv u0, iv u1, iv u2, iv (2 : Int32), iv (u1 &&& (2147483647 : Int32)), rv sv1, rv sv3, rv sv6, rv b10, rv ev21, rv ev28, rv ev38, rv ev51, .unset] [])) _
      refine XS.iloadN X84.here hx rfl (hb hby at_127) rfl ?_
      show Steps p.tables e below (T84.setTop (mkF m 128 #[iv u0, iv u1, iv u2, iv (2 : Int32), iv (u1 &&& (2147483647 : Int32)), rv sv1, rv sv3, rv sv6, rv b10, rv ev21, rv ev28, rv ev38, rv ev51, .unset] [(.int (2 : Int32))])) _
      refine XS.iconst X84.here hx rfl (hb hby at_128) ?_
      show Steps p.tables e below (T84.setTop (mkF m 129 #[iv u0, iv u1, iv u2, iv (2 : Int32), iv (u1 &&& (2147483647 : Int32)), rv sv1, rv sv3, rv sv6, rv b10, rv ev21, rv ev28, rv ev38, rv ev51, .unset] [(.int (1 : Int32)), (.int (2 : Int32))])) _
      refine XS.icmpNo X84.here hx rfl (hb hby at_129) rfl (tlt (by decide : (1 : Int32) < (2 : Int32))).2.2.2 ?_
      show Steps p.tables e below (T84.setTop (mkF m 132 #[iv u0, iv u1, iv u2, iv (2 : Int32), iv (u1 &&& (2147483647 : Int32)), rv sv1, rv sv3, rv sv6, rv b10, rv ev21, rv ev28, rv ev38, rv ev51, .unset] [])) _
      refine XS.aload X84.here hx rfl (hb hby at_132) rfl rfl ?_
      show Steps p.tables e below (T84.setTop (mkF m 134 #[iv u0, iv u1, iv u2, iv (2 : Int32), iv (u1 &&& (2147483647 : Int32)), rv sv1, rv sv3, rv sv6, rv b10, rv ev21, rv ev28, rv ev38, rv ev51, .unset] [(.ref b10)])) _
      refine XS.aload X84.here hx rfl (hb hby at_134) rfl rfl ?_
      show Steps p.tables e below (T84.setTop (mkF m 136 #[iv u0, iv u1, iv u2, iv (2 : Int32), iv (u1 &&& (2147483647 : Int32)), rv sv1, rv sv3, rv sv6, rv b10, rv ev21, rv ev28, rv ev38, rv ev51, .unset] [(.ref ev28), (.ref b10)])) _
      refine st98.trans ?_
      show Steps p.tables e below (T98.setTop (mkF m 139 #[iv u0, iv u1, iv u2, iv (2 : Int32), iv (u1 &&& (2147483647 : Int32)), rv sv1, rv sv3, rv sv6, rv b10, rv ev21, rv ev28, rv ev38, rv ev51, .unset] [])) _
      refine XS.iloadN X98.here hx rfl (hb hby at_139) rfl ?_
      show Steps p.tables e below (T98.setTop (mkF m 140 #[iv u0, iv u1, iv u2, iv (2 : Int32), iv (u1 &&& (2147483647 : Int32)), rv sv1, rv sv3, rv sv6, rv b10, rv ev21, rv ev28, rv ev38, rv ev51, .unset] [(.int (2 : Int32))])) _
      refine XS.iconst X98.here hx rfl (hb hby at_140) ?_
      show Steps p.tables e below (T98.setTop (mkF m 141 #[iv u0, iv u1, iv u2, iv (2 : Int32), iv (u1 &&& (2147483647 : Int32)), rv sv1, rv sv3, rv sv6, rv b10, rv ev21, rv ev28, rv ev38, rv ev51, .unset] [(.int (2 : Int32)), (.int (2 : Int32))])) _
      refine XS.icmpYes X98.here hx rfl (pc0 := 141) (pc' := 151) rfl (hb hby at_141) rfl (flt (by decide : ¬ ((2 : Int32) < (2 : Int32)))).2.2.2 (by decide) (by decide) ?_
      show Steps p.tables e below (T98.setTop (mkF m 151 #[iv u0, iv u1, iv u2, iv (2 : Int32), iv (u1 &&& (2147483647 : Int32)), rv sv1, rv sv3, rv sv6, rv b10, rv ev21, rv ev28, rv ev38, rv ev51, .unset] [])) _
      refine XS.iloadN X98.here hx rfl (hb hby at_151) rfl ?_
      show Steps p.tables e below (T98.setTop (mkF m 152 #[iv u0, iv u1, iv u2, iv (2 : Int32), iv (u1 &&& (2147483647 : Int32)), rv sv1, rv sv3, rv sv6, rv b10, rv ev21, rv ev28, rv ev38, rv ev51, .unset] [(.int (2 : Int32))])) _
      refine XS.iconst X98.here hx rfl (hb hby at_152) ?_
      show Steps p.tables e below (T98.setTop (mkF m 153 #[iv u0, iv u1, iv u2, iv (2 : Int32), iv (u1 &&& (2147483647 : Int32)), rv sv1, rv sv3, rv sv6, rv b10, rv ev21, rv ev28, rv ev38, rv ev51, .unset] [(.int (3 : Int32)), (.int (2 : Int32))])) _
      refine XS.icmpYes X98.here hx rfl (pc0 := 153) (pc' := 163) rfl (hb hby at_153) rfl (flt (by decide : ¬ ((3 : Int32) < (2 : Int32)))).2.2.2 (by decide) (by decide) ?_
      show Steps p.tables e below (T98.setTop (mkF m 163 #[iv u0, iv u1, iv u2, iv (2 : Int32), iv (u1 &&& (2147483647 : Int32)), rv sv1, rv sv3, rv sv6, rv b10, rv ev21, rv ev28, rv ev38, rv ev51, .unset] [])) _
      refine XS.iloadN X98.here hx rfl (hb hby at_163) rfl ?_
      show Steps p.tables e below (T98.setTop (mkF m 164 #[iv u0, iv u1, iv u2, iv (2 : Int32), iv (u1 &&& (2147483647 : Int32)), rv sv1, rv sv3, rv sv6, rv b10, rv ev21, rv ev28, rv ev38, rv ev51, .unset] [(.int (2 : Int32))])) _
      refine XS.iconst X98.here hx rfl (hb hby at_164) ?_
      show Steps p.tables e below (T98.setTop (mkF m 165 #[iv u0, iv u1, iv u2, iv (2 : Int32), iv (u1 &&& (2147483647 : Int32)), rv sv1, rv sv3, rv sv6, rv b10, rv ev21, rv ev28, rv ev38, rv ev51, .unset] [(.int (4 : Int32)), (.int (2 : Int32))])) _
      refine XS.icmpYes X98.here hx rfl (pc0 := 165) (pc' := 175) rfl (hb hby at_165) rfl (flt (by decide : ¬ ((4 : Int32) < (2 : Int32)))).2.2.2 (by decide) (by decide) ?_
      show Steps p.tables e below (T98.setTop (mkF m 175 #[iv u0, iv u1, iv u2, iv (2 : Int32), iv (u1 &&& (2147483647 : Int32)), rv sv1, rv sv3, rv sv6, rv b10, rv ev21, rv ev28, rv ev38, rv ev51, .unset] [])) _
      refine XS.iloadN X98.here hx rfl (hb hby at_175) rfl ?_
      show Steps p.tables e below (T98.setTop (mkF m 176 #[iv u0, iv u1, iv u2, iv (2 : Int32), iv (u1 &&& (2147483647 : Int32)), rv sv1, rv sv3, rv sv6, rv b10, rv ev21, rv ev28, rv ev38, rv ev51, .unset] [(.int (2 : Int32))])) _
      refine XS.iconst X98.here hx rfl (hb hby at_176) ?_
      show Steps p.tables e below (T98.setTop (mkF m 177 #[iv u0, iv u1, iv u2, iv (2 : Int32), iv (u1 &&& (2147483647 : Int32)), rv sv1, rv sv3, rv sv6, rv b10, rv ev21, rv ev28, rv ev38, rv ev51, .unset] [(.int (5 : Int32)), (.int (2 : Int32))])) _
      refine XS.icmpYes X98.here hx rfl (pc0 := 177) (pc' := 187) rfl (hb hby at_177) rfl (flt (by decide : ¬ ((5 : Int32) < (2 : Int32)))).2.2.2 (by decide) (by decide) ?_
      show Steps p.tables e below (T98.setTop (mkF m 187 #[iv u0, iv u1, iv u2, iv (2 : Int32), iv (u1 &&& (2147483647 : Int32)), rv sv1, rv sv3, rv sv6, rv b10, rv ev21, rv ev28, rv ev38, rv ev51, .unset] [])) _
      refine XS.iloadN X98.here hx rfl (hb hby at_187) rfl ?_
      show Steps p.tables e below (T98.setTop (mkF m 188 #[iv u0, iv u1, iv u2, iv (2 : Int32), iv (u1 &&& (2147483647 : Int32)), rv sv1, rv sv3, rv sv6, rv b10, rv ev21, rv ev28, rv ev38, rv ev51, .unset] [(.int (2 : Int32))])) _
      refine XS.bipush X98.here hx rfl (hb hby at_188) ?_
      show Steps p.tables e below (T98.setTop (mkF m 190 #[iv u0, iv u1, iv u2, iv (2 : Int32), iv (u1 &&& (2147483647 : Int32)), rv sv1, rv sv3, rv sv6, rv b10, rv ev21, rv ev28, rv ev38, rv ev51, .unset] [(.int (6 : Int32)), (.int (2 : Int32))])) _
      refine XS.icmpYes X98.here hx rfl (pc0 := 190) (pc' := 200) rfl (hb hby at_190) rfl (flt (by decide : ¬ ((6 : Int32) < (2 : Int32)))).2.2.2 (by decide) (by decide) ?_
      show Steps p.tables e below (T98.setTop (mkF m 200 #[iv u0, iv u1, iv u2, iv (2 : Int32), iv (u1 &&& (2147483647 : Int32)), rv sv1, rv sv3, rv sv6, rv b10, rv ev21, rv ev28, rv ev38, rv ev51, .unset] [])) _
      refine XS.iloadN X98.here hx rfl (hb hby at_200) rfl ?_
      show Steps p.tables e below (T98.setTop (mkF m 201 #[iv u0, iv u1, iv u2, iv (2 : Int32), iv (u1 &&& (2147483647 : Int32)), rv sv1, rv sv3, rv sv6, rv b10, rv ev21, rv ev28, rv ev38, rv ev51, .unset] [(.int (2 : Int32))])) _
      refine XS.bipush X98.here hx rfl (hb hby at_201) ?_
      show Steps p.tables e below (T98.setTop (mkF m 203 #[iv u0, iv u1, iv u2, iv (2 : Int32), iv (u1 &&& (2147483647 : Int32)), rv sv1, rv sv3, rv sv6, rv b10, rv ev21, rv ev28, rv ev38, rv ev51, .unset] [(.int (7 : Int32)), (.int (2 : Int32))])) _
      refine XS.icmpYes X98.here hx rfl (pc0 := 203) (pc' := 213) rfl (hb hby at_203) rfl (flt (by decide : ¬ ((7 : Int32) < (2 : Int32)))).2.2.2 (by decide) (by decide) ?_
      show Steps p.tables e below (T98.setTop (mkF m 213 #[iv u0, iv u1, iv u2, iv (2 : Int32), iv (u1 &&& (2147483647 : Int32)), rv sv1, rv sv3, rv sv6, rv b10, rv ev21, rv ev28, rv ev38, rv ev51, .unset] [])) _
      refine XS.iloadN X98.here hx rfl (hb hby at_213) rfl ?_
      show Steps p.tables e below (T98.setTop (mkF m 214 #[iv u0, iv u1, iv u2, iv (2 : Int32), iv (u1 &&& (2147483647 : Int32)), rv sv1, rv sv3, rv sv6, rv b10, rv ev21, rv ev28, rv ev38, rv ev51, .unset] [(.int (2 : Int32))])) _
      refine XS.iconst X98.here hx rfl (hb hby at_214) ?_
      show Steps p.tables e below (T98.setTop (mkF m 215 #[iv u0, iv u1, iv u2, iv (2 : Int32), iv (u1 &&& (2147483647 : Int32)), rv sv1, rv sv3, rv sv6, rv b10, rv ev21, rv ev28, rv ev38, rv ev51, .unset] [(.int (4 : Int32)), (.int (2 : Int32))])) _
      refine XS.icmpNo X98.here hx rfl (hb hby at_215) rfl (tlt (by decide : (2 : Int32) < (4 : Int32))).2.1 ?_
      show Steps p.tables e below (T98.setTop (mkF m 218 #[iv u0, iv u1, iv u2, iv (2 : Int32), iv (u1 &&& (2147483647 : Int32)), rv sv1, rv sv3, rv sv6, rv b10, rv ev21, rv ev28, rv ev38, rv ev51, .unset] [])) _
      refine XS.iconst X98.here hx rfl (hb hby at_218) ?_
      show Steps p.tables e below (T98.setTop (mkF m 219 #[iv u0, iv u1, iv u2, iv (2 : Int32), iv (u1 &&& (2147483647 : Int32)), rv sv1, rv sv3, rv sv6, rv b10, rv ev21, rv ev28, rv ev38, rv ev51, .unset] [(.int (1 : Int32))])) _
      refine XS.istore X98.here hx rfl (hb hby at_219) rfl (l' := #[iv u0, iv u1, iv u2, iv (2 : Int32), iv (u1 &&& (2147483647 : Int32)), rv sv1, rv sv3, rv sv6, rv b10, rv ev21, rv ev28, rv ev38, rv ev51, iv (1 : Int32)]) rfl ?_
      show Steps p.tables e below (T98.setTop (mkF m 221 #[iv u0, iv u1, iv u2, iv (2 : Int32), iv (u1 &&& (2147483647 : Int32)), rv sv1, rv sv3, rv sv6, rv b10, rv ev21, rv ev28, rv ev38, rv ev51, iv (1 : Int32)] [])) _
      refine XS.goto X98.here hx rfl (pc0 := 221) (pc' := 239) rfl (hb hby at_221) (by decide) (by decide) ?_
      show Steps p.tables e below (T98.setTop (mkF m 239 #[iv u0, iv u1, iv u2, iv (2 : Int32), iv (u1 &&& (2147483647 : Int32)), rv sv1, rv sv3, rv sv6, rv b10, rv ev21, rv ev28, rv ev38, rv ev51, iv (1 : Int32)] [])) _
      refine XS.aload X98.here hx rfl (hb hby at_239) rfl rfl ?_
      show Steps p.tables e below (T98.setTop (mkF m 241 #[iv u0, iv u1, iv u2, iv (2 : Int32), iv (u1 &&& (2147483647 : Int32)), rv sv1, rv sv3, rv sv6, rv b10, rv ev21, rv ev28, rv ev38, rv ev51, iv (1 : Int32)] [(.ref b10)])) _
      refine st112.trans ?_
      show Steps p.tables e below (T112.setTop (mkF m 244 #[iv u0, iv u1, iv u2, iv (2 : Int32), iv (u1 &&& (2147483647 : Int32)), rv sv1, rv sv3, rv sv6, rv b10, rv ev21, rv ev28, rv ev38, rv ev51, iv (1 : Int32)] [(.int (1 : Int32))])) _
      refine XS.iload X112.here hx rfl (hb hby at_244) rfl ?_
      show Steps p.tables e below (T112.setTop (mkF m 246 #[iv u0, iv u1, iv u2, iv (2 : Int32), iv (u1 &&& (2147483647 : Int32)), rv sv1, rv sv3, rv sv6, rv b10, rv ev21, rv ev28, rv ev38, rv ev51, iv (1 : Int32)] [(.int (1 : Int32)), (.int (1 : Int32))])) _
      refine XS.icmpNo X112.here hx rfl (hb hby at_246) rfl (teq (by decide : (1 : Int32) = (1 : Int32))).2 ?_
      show Steps p.tables e below (T112.setTop (mkF m 249 #[iv u0, iv u1, iv u2, iv (2 : Int32), iv (u1 &&& (2147483647 : Int32)), rv sv1, rv sv3, rv sv6, rv b10, rv ev21, rv ev28, rv ev38, rv ev51, iv (1 : Int32)] [])) _
      refine XS.iconst X112.here hx rfl (hb hby at_249) ?_
      show Steps p.tables e below (T112.setTop (mkF m 250 #[iv u0, iv u1, iv u2, iv (2 : Int32), iv (u1 &&& (2147483647 : Int32)), rv sv1, rv sv3, rv sv6, rv b10, rv ev21, rv ev28, rv ev38, rv ev51, iv (1 : Int32)] [(.int (1 : Int32))])) _
      refine XS.goto X112.here hx rfl (pc0 := 250) (pc' := 254) rfl (hb hby at_250) (by decide) (by decide) ?_
      show Steps p.tables e below (T112.setTop (mkF m 254 #[iv u0, iv u1, iv u2, iv (2 : Int32), iv (u1 &&& (2147483647 : Int32)), rv sv1, rv sv3, rv sv6, rv b10, rv ev21, rv ev28, rv ev38, rv ev51, iv (1 : Int32)] [(.int (1 : Int32))])) _
      exact retN X112 hx (t := .boolean) Bd.returns (by simp) (hb hby at_254) hr
    · show Q0 Z u0 u1 u2 t0 t1 t2 t3 d0 d1 d2 d3 oa oc G1 h0 n0 _ T112.heap _
      rw [eq112]
      exact ⟨rfl, N112⟩
  · skip
    rw [hn_] at S67
    obtain ⟨cq113, kq113, q113a, q113b, q113c⟩ := isOf hZ rfl f56
    obtain ⟨_, _, ⟨T113, L113, k113, n113⟩, -, X113, ⟨Lc113, hQ113, l113, y113, z113⟩, st113⟩ := X51.virtualBack hx (y := (⟨"com/example/reroutine/reroutine/replanning/ExecutedDay", "add", "(Lcom/example/reroutine/reroutine/scenario/Event;)V"⟩ : MethodName)) (z := (⟨"com/example/reroutine/reroutine/replanning/ExecutedDay", "add", "(Lcom/example/reroutine/reroutine/scenario/Event;)V"⟩ : MethodName)) hown (mvT hZ (hw _ (List.mem_of_getElem? (i := 104) rfl))) (mvT hZ (hw _ (List.mem_of_getElem? (i := 105) rfl))) (notFace_of_selects (args := #[]) (mvT hZ (hw _ (List.mem_of_getElem? (i := 107) rfl)))) (mvT hZ (hw _ (List.mem_of_getElem? (i := 107) rfl))) (mvT hZ (hw _ (List.mem_of_getElem? (i := 106) rfl))) (by decide) (backOf (W := 0) (rmAdd0 l Z a0 hw [] b10 ev21 t0 t1 t2 t3 d0 d1 d2 d3 oa oc (u1 &&& (2147483647 : Int32)) T51.heap n0 Z51 Od52 hst f66 ge_b10 ne_b10_ev21 f57 f58 f59) hZ (hw _ (List.mem_of_getElem? (i := 108) rfl)) (hw _ (List.mem_of_getElem? (i := 29) rfl)) (by decide) (by decide)) q113a q113c (g := (mkF m 124 #[iv u0, iv u1, iv u2, iv (3 : Int32), iv (u1 &&& (2147483647 : Int32)), rv sv1, rv sv3, rv sv6, rv b10, rv ev21, rv ev28, rv ev38, rv ev51, .unset] [(.ref ev21), (.ref b10)])) rfl (by rw [hml]; rfl) (Steps.refl _) (argsL := [(.ref ev21)]) (rest := []) (lenOf pd_14 rfl) rfl (by show 2 * 0 + _ ≤ _; exact Nat.le_of_eq rfl) (hb hby at_124) (fun _ _ => ⟨rfl, rfl, (by decide : 12 + 0 ≤ _), (by decide : 42 + 0 ≤ _)⟩)
    dsimp only [Pt.U, Pt.locs, Pt.cells, Pt.slots] at X113 l113 y113 z113 st113 hQ113
    subst y113 z113
    obtain ⟨rfl, Nq113, Kx113, Bq113⟩ := hQ113
    have N113 : Fr n0 L113 := by rw [l113]; exact Fr.app N51 Nq113
    obtain ⟨ar113, cl113, ty113, Kq113, gar113, Arq113⟩ := Kx113
    have Z113 : n0 ≤ T113.heap.size := Nat.le_trans Z51 Kq113.1
    have f114 := f58.keep Kq113 (ninS (Ne.symm ne_b10_ev21) (ninS (ne_arr f57 (hw _ (List.mem_of_getElem? (i := 51) rfl)) Arq113) nin0))
    have f115 := f59.keep Kq113 (ninS (Ne.symm ne_b10_ev21) (ninS (ne_arr f57 (hw _ (List.mem_of_getElem? (i := 51) rfl)) Arq113) nin0))
    have f116 := f61.keep Kq113 (ninS (Ne.symm ne_b10_ev28) (ninS (ne_arr f60 (hw _ (List.mem_of_getElem? (i := 51) rfl)) Arq113) nin0))
    have f117 := f62.keep Kq113 (ninS (Ne.symm ne_b10_ev28) (ninS (ne_arr f60 (hw _ (List.mem_of_getElem? (i := 51) rfl)) Arq113) nin0))
    have f118 := f64.keep Kq113 (ninS (Ne.symm ne_b10_ev38) (ninS (ne_arr f63 (hw _ (List.mem_of_getElem? (i := 51) rfl)) Arq113) nin0))
    have f119 := f65.keep Kq113 (ninS (Ne.symm ne_b10_ev38) (ninS (ne_arr f63 (hw _ (List.mem_of_getElem? (i := 51) rfl)) Arq113) nin0))
    have f120 := Fm51.keep Kq113 (ninS (Ne.symm ne_b10_ev51) (ninS (ne_arr Eq51 (hw _ (List.mem_of_getElem? (i := 51) rfl)) Arq113) nin0))
    have f121 := Ft51.keep Kq113 (ninS (Ne.symm ne_b10_ev51) (ninS (ne_arr Eq51 (hw _ (List.mem_of_getElem? (i := 51) rfl)) Arq113) nin0))
    have f122 := f56.keep Kq113
    have f123 := f57.keep Kq113
    have f124 := f60.keep Kq113
    have f125 := f63.keep Kq113
    have f126 := Eq51.keep Kq113
    have Od113 := Od52.keep Kq113 (allS ge_b10 (allS gar113 all0))
    obtain ⟨cq127, kq127, q127a, q127b, q127c⟩ := isOf hZ rfl f122
    obtain ⟨_, _, ⟨T127, L127, k127, n127⟩, -, X127, ⟨Lc127, hQ127, l127, y127, z127⟩, st127⟩ := X113.virtualBack hx (y := (⟨"com/example/reroutine/reroutine/replanning/ExecutedDay", "add", "(Lcom/example/reroutine/reroutine/scenario/Event;)V"⟩ : MethodName)) (z := (⟨"com/example/reroutine/reroutine/replanning/ExecutedDay", "add", "(Lcom/example/reroutine/reroutine/scenario/Event;)V"⟩ : MethodName)) hown (mvT hZ (hw _ (List.mem_of_getElem? (i := 104) rfl))) (mvT hZ (hw _ (List.mem_of_getElem? (i := 105) rfl))) (notFace_of_selects (args := #[]) (mvT hZ (hw _ (List.mem_of_getElem? (i := 107) rfl)))) (mvT hZ (hw _ (List.mem_of_getElem? (i := 107) rfl))) (mvT hZ (hw _ (List.mem_of_getElem? (i := 106) rfl))) (by decide) (backOf (W := 0) (rmAdd1 l Z a0 hw [] b10 ev28 t0 t1 t2 t3 d0 d1 d2 d3 oa oc (u1 &&& (2147483647 : Int32)) T113.heap n0 Z113 Od113 hst Bq113 ge_b10 ne_b10_ev28 f124 f116 f117) hZ (hw _ (List.mem_of_getElem? (i := 108) rfl)) (hw _ (List.mem_of_getElem? (i := 29) rfl)) (by decide) (by decide)) q127a q127c (g := (mkF m 136 #[iv u0, iv u1, iv u2, iv (3 : Int32), iv (u1 &&& (2147483647 : Int32)), rv sv1, rv sv3, rv sv6, rv b10, rv ev21, rv ev28, rv ev38, rv ev51, .unset] [(.ref ev28), (.ref b10)])) rfl (by rw [hml]; rfl) (Steps.refl _) (argsL := [(.ref ev28)]) (rest := []) (lenOf pd_14 rfl) rfl (by show 2 * 0 + _ ≤ _; exact Nat.le_of_eq rfl) (hb hby at_136) (fun _ _ => ⟨rfl, rfl, (by decide : 12 + 0 ≤ _), (by decide : 42 + 0 ≤ _)⟩)
    dsimp only [Pt.U, Pt.locs, Pt.cells, Pt.slots] at X127 l127 y127 z127 st127 hQ127
    subst y127 z127
    obtain ⟨rfl, Nq127, Kx127, Bq127⟩ := hQ127
    have N127 : Fr n0 L127 := by rw [l127]; exact Fr.app N113 Nq127
    obtain ⟨ar127, cl127, ty127, Kq127, gar127, Arq127⟩ := Kx127
    have Z127 : n0 ≤ T127.heap.size := Nat.le_trans Z113 Kq127.1
    have f128 := f114.keep Kq127 (ninS (Ne.symm ne_b10_ev21) (ninS (ne_arr f123 (hw _ (List.mem_of_getElem? (i := 51) rfl)) Arq127) nin0))
    have f129 := f115.keep Kq127 (ninS (Ne.symm ne_b10_ev21) (ninS (ne_arr f123 (hw _ (List.mem_of_getElem? (i := 51) rfl)) Arq127) nin0))
    have f130 := f116.keep Kq127 (ninS (Ne.symm ne_b10_ev28) (ninS (ne_arr f124 (hw _ (List.mem_of_getElem? (i := 51) rfl)) Arq127) nin0))
    have f131 := f117.keep Kq127 (ninS (Ne.symm ne_b10_ev28) (ninS (ne_arr f124 (hw _ (List.mem_of_getElem? (i := 51) rfl)) Arq127) nin0))
    have f132 := f118.keep Kq127 (ninS (Ne.symm ne_b10_ev38) (ninS (ne_arr f125 (hw _ (List.mem_of_getElem? (i := 51) rfl)) Arq127) nin0))
    have f133 := f119.keep Kq127 (ninS (Ne.symm ne_b10_ev38) (ninS (ne_arr f125 (hw _ (List.mem_of_getElem? (i := 51) rfl)) Arq127) nin0))
    have f134 := f120.keep Kq127 (ninS (Ne.symm ne_b10_ev51) (ninS (ne_arr f126 (hw _ (List.mem_of_getElem? (i := 51) rfl)) Arq127) nin0))
    have f135 := f121.keep Kq127 (ninS (Ne.symm ne_b10_ev51) (ninS (ne_arr f126 (hw _ (List.mem_of_getElem? (i := 51) rfl)) Arq127) nin0))
    have f136 := f122.keep Kq127
    have f137 := f123.keep Kq127
    have f138 := f124.keep Kq127
    have f139 := f125.keep Kq127
    have f140 := f126.keep Kq127
    have Od127 := Od113.keep Kq127 (allS ge_b10 (allS gar127 all0))
    obtain ⟨cq141, kq141, q141a, q141b, q141c⟩ := isOf hZ rfl f136
    obtain ⟨_, _, ⟨T141, L141, k141, n141⟩, -, X141, ⟨Lc141, hQ141, l141, y141, z141⟩, st141⟩ := X127.virtualBack hx (y := (⟨"com/example/reroutine/reroutine/replanning/ExecutedDay", "add", "(Lcom/example/reroutine/reroutine/scenario/Event;)V"⟩ : MethodName)) (z := (⟨"com/example/reroutine/reroutine/replanning/ExecutedDay", "add", "(Lcom/example/reroutine/reroutine/scenario/Event;)V"⟩ : MethodName)) hown (mvT hZ (hw _ (List.mem_of_getElem? (i := 104) rfl))) (mvT hZ (hw _ (List.mem_of_getElem? (i := 105) rfl))) (notFace_of_selects (args := #[]) (mvT hZ (hw _ (List.mem_of_getElem? (i := 107) rfl)))) (mvT hZ (hw _ (List.mem_of_getElem? (i := 107) rfl))) (mvT hZ (hw _ (List.mem_of_getElem? (i := 106) rfl))) (by decide) (backOf (W := 0) (rmAdd2 l Z a0 hw [] b10 ev38 t0 t1 t2 t3 d0 d1 d2 d3 oa oc (u1 &&& (2147483647 : Int32)) T127.heap n0 Z127 Od127 hst Bq127 ge_b10 ne_b10_ev38 f139 f132 f133) hZ (hw _ (List.mem_of_getElem? (i := 108) rfl)) (hw _ (List.mem_of_getElem? (i := 29) rfl)) (by decide) (by decide)) q141a q141c (g := (mkF m 148 #[iv u0, iv u1, iv u2, iv (3 : Int32), iv (u1 &&& (2147483647 : Int32)), rv sv1, rv sv3, rv sv6, rv b10, rv ev21, rv ev28, rv ev38, rv ev51, .unset] [(.ref ev38), (.ref b10)])) rfl (by rw [hml]; rfl) (Steps.refl _) (argsL := [(.ref ev38)]) (rest := []) (lenOf pd_14 rfl) rfl (by show 2 * 0 + _ ≤ _; exact Nat.le_of_eq rfl) (hb hby at_148) (fun _ _ => ⟨rfl, rfl, (by decide : 12 + 0 ≤ _), (by decide : 42 + 0 ≤ _)⟩)
    dsimp only [Pt.U, Pt.locs, Pt.cells, Pt.slots] at X141 l141 y141 z141 st141 hQ141
    subst y141 z141
    obtain ⟨rfl, Nq141, Kx141, Bq141⟩ := hQ141
    have N141 : Fr n0 L141 := by rw [l141]; exact Fr.app N127 Nq141
    obtain ⟨ar141, cl141, ty141, Kq141, gar141, Arq141⟩ := Kx141
    have Z141 : n0 ≤ T141.heap.size := Nat.le_trans Z127 Kq141.1
    have f142 := f128.keep Kq141 (ninS (Ne.symm ne_b10_ev21) (ninS (ne_arr f137 (hw _ (List.mem_of_getElem? (i := 51) rfl)) Arq141) nin0))
    have f143 := f129.keep Kq141 (ninS (Ne.symm ne_b10_ev21) (ninS (ne_arr f137 (hw _ (List.mem_of_getElem? (i := 51) rfl)) Arq141) nin0))
    have f144 := f130.keep Kq141 (ninS (Ne.symm ne_b10_ev28) (ninS (ne_arr f138 (hw _ (List.mem_of_getElem? (i := 51) rfl)) Arq141) nin0))
    have f145 := f131.keep Kq141 (ninS (Ne.symm ne_b10_ev28) (ninS (ne_arr f138 (hw _ (List.mem_of_getElem? (i := 51) rfl)) Arq141) nin0))
    have f146 := f132.keep Kq141 (ninS (Ne.symm ne_b10_ev38) (ninS (ne_arr f139 (hw _ (List.mem_of_getElem? (i := 51) rfl)) Arq141) nin0))
    have f147 := f133.keep Kq141 (ninS (Ne.symm ne_b10_ev38) (ninS (ne_arr f139 (hw _ (List.mem_of_getElem? (i := 51) rfl)) Arq141) nin0))
    have f148 := f134.keep Kq141 (ninS (Ne.symm ne_b10_ev51) (ninS (ne_arr f140 (hw _ (List.mem_of_getElem? (i := 51) rfl)) Arq141) nin0))
    have f149 := f135.keep Kq141 (ninS (Ne.symm ne_b10_ev51) (ninS (ne_arr f140 (hw _ (List.mem_of_getElem? (i := 51) rfl)) Arq141) nin0))
    have f150 := f136.keep Kq141
    have f151 := f137.keep Kq141
    have f152 := f138.keep Kq141
    have f153 := f139.keep Kq141
    have f154 := f140.keep Kq141
    have Od141 := Od127.keep Kq141 (allS ge_b10 (allS gar141 all0))
    obtain ⟨cq155, kq155, q155a, q155b, q155c⟩ := isOf hZ rfl f150
    obtain ⟨_, _, ⟨T155, L155, k155, n155⟩, -, X155, ⟨Lc155, hQ155, l155, y155, z155⟩, st155⟩ := X141.virtualBack hx (y := (⟨"com/example/reroutine/reroutine/replanning/ExecutedDay", "activitiesReached", "()I"⟩ : MethodName)) (z := (⟨"com/example/reroutine/reroutine/replanning/ExecutedDay", "activitiesReached", "()I"⟩ : MethodName)) hown (mvT hZ (hw _ (List.mem_of_getElem? (i := 97) rfl))) (mvT hZ (hw _ (List.mem_of_getElem? (i := 98) rfl))) (notFace_of_selects (args := #[]) (mvT hZ (hw _ (List.mem_of_getElem? (i := 100) rfl)))) (mvT hZ (hw _ (List.mem_of_getElem? (i := 100) rfl))) (mvT hZ (hw _ (List.mem_of_getElem? (i := 99) rfl))) (by decide) (backOf (W := 0) (rmQ3 l Z a0 hw [] b10 t0 t1 t2 t3 d0 d1 d2 d3 oa oc T141.heap n0 Z141 Od141 hst Bq141.2.1) hZ (hw _ (List.mem_of_getElem? (i := 101) rfl)) (hw _ (List.mem_of_getElem? (i := 29) rfl)) (by decide) (by decide)) q155a q155c (g := (mkF m 241 #[iv u0, iv u1, iv u2, iv (3 : Int32), iv (u1 &&& (2147483647 : Int32)), rv sv1, rv sv3, rv sv6, rv b10, rv ev21, rv ev28, rv ev38, rv ev51, iv (1 : Int32)] [(.ref b10)])) rfl (by rw [hml]; rfl) (Steps.refl _) (argsL := []) (rest := []) (lenOf pd_9 rfl) rfl (by show 2 * 0 + _ ≤ _; exact Nat.le_of_eq rfl) (hb hby at_241) (fun _ _ => ⟨rfl, rfl, (by decide : 12 + 0 ≤ _), (by decide : 42 + 0 ≤ _)⟩)
    dsimp only [Pt.U, Pt.locs, Pt.cells, Pt.slots] at X155 l155 y155 z155 st155 hQ155
    subst y155 z155
    obtain ⟨rfl, Nq155, eq155⟩ := hQ155
    have N155 : Fr n0 L155 := by rw [l155]; exact Fr.app N141 Nq155
    obtain ⟨fs, hr, hrun, hended, hW, hsame⟩ := X155.leave (v := some (.int (1 : Int32))) (fun h => by rw [Bd.returns] at h; cases h)
    refine ⟨_, _, S67 _ ?_, hrun, hended, _, _, rfl, ?_, ⟨_, rfl⟩, hW, hsame.mono (by decide) (by decide)⟩
    · skip
      show Steps p.tables e below (T51.setTop (mkF m 117 #[iv u0, iv u1, iv u2, iv (3 : Int32), iv (u1 &&& (2147483647 : Int32)), rv sv1, rv sv3, rv sv6, rv b10, rv ev21, rv ev28, rv ev38, rv ev51, .unset] [(.int (3 : Int32))])) _
      refine XS.ifNo X51.here hx rfl (hb hby at_117) rfl ((if0 _ _).trans (tlt (by decide : (0 : Int32) < (3 : Int32))).2.2.2) ?_
      show Steps p.tables e below (T51.setTop (mkF m 120 #[iv u0, iv u1, iv u2, iv (3 : Int32), iv (u1 &&& (2147483647 : Int32)), rv sv1, rv sv3, rv sv6, rv b10, rv ev21, rv ev28, rv ev38, rv ev51, .unset] [])) _
      refine XS.aload X51.here hx rfl (hb hby at_120) rfl rfl ?_
      show Steps p.tables e below (T51.setTop (mkF m 122 #[iv u0, iv u1, iv u2, iv (3 : Int32), iv (u1 &&& (2147483647 : Int32)), rv sv1, rv sv3, rv sv6, rv b10, rv ev21, rv ev28, rv ev38, rv ev51, .unset] [(.ref b10)])) _
      refine XS.aload X51.here hx rfl (hb hby at_122) rfl rfl ?_
      show Steps p.tables e below (T51.setTop (mkF m 124 #[iv u0, iv u1, iv u2, iv (3 : Int32), iv (u1 &&& (2147483647 : Int32)), rv sv1, rv sv3, rv sv6, rv b10, rv ev21, rv ev28, rv ev38, rv ev51, .unset] [(.ref ev21), (.ref b10)])) _
      refine st113.trans ?_
      show Steps p.tables e below (T113.setTop (mkF m 127 #[iv u0, iv u1, iv u2, iv (3 : Int32), iv (u1 &&& (2147483647 : Int32)), rv sv1, rv sv3, rv sv6, rv b10, rv ev21, rv ev28, rv ev38, rv ev51, .unset] [])) _
      refine XS.iloadN X113.here hx rfl (hb hby at_127) rfl ?_
      show Steps p.tables e below (T113.setTop (mkF m 128 #[iv u0, iv u1, iv u2, iv (3 : Int32), iv (u1 &&& (2147483647 : Int32)), rv sv1, rv sv3, rv sv6, rv b10, rv ev21, rv ev28, rv ev38, rv ev51, .unset] [(.int (3 : Int32))])) _
      refine XS.iconst X113.here hx rfl (hb hby at_128) ?_
      show Steps p.tables e below (T113.setTop (mkF m 129 #[iv u0, iv u1, iv u2, iv (3 : Int32), iv (u1 &&& (2147483647 : Int32)), rv sv1, rv sv3, rv sv6, rv b10, rv ev21, rv ev28, rv ev38, rv ev51, .unset] [(.int (1 : Int32)), (.int (3 : Int32))])) _
      refine XS.icmpNo X113.here hx rfl (hb hby at_129) rfl (tlt (by decide : (1 : Int32) < (3 : Int32))).2.2.2 ?_
      show Steps p.tables e below (T113.setTop (mkF m 132 #[iv u0, iv u1, iv u2, iv (3 : Int32), iv (u1 &&& (2147483647 : Int32)), rv sv1, rv sv3, rv sv6, rv b10, rv ev21, rv ev28, rv ev38, rv ev51, .unset] [])) _
      refine XS.aload X113.here hx rfl (hb hby at_132) rfl rfl ?_
      show Steps p.tables e below (T113.setTop (mkF m 134 #[iv u0, iv u1, iv u2, iv (3 : Int32), iv (u1 &&& (2147483647 : Int32)), rv sv1, rv sv3, rv sv6, rv b10, rv ev21, rv ev28, rv ev38, rv ev51, .unset] [(.ref b10)])) _
      refine XS.aload X113.here hx rfl (hb hby at_134) rfl rfl ?_
      show Steps p.tables e below (T113.setTop (mkF m 136 #[iv u0, iv u1, iv u2, iv (3 : Int32), iv (u1 &&& (2147483647 : Int32)), rv sv1, rv sv3, rv sv6, rv b10, rv ev21, rv ev28, rv ev38, rv ev51, .unset] [(.ref ev28), (.ref b10)])) _
      refine st127.trans ?_
      show Steps p.tables e below (T127.setTop (mkF m 139 #[iv u0, iv u1, iv u2, iv (3 : Int32), iv (u1 &&& (2147483647 : Int32)), rv sv1, rv sv3, rv sv6, rv b10, rv ev21, rv ev28, rv ev38, rv ev51, .unset] [])) _
      refine XS.iloadN X127.here hx rfl (hb hby at_139) rfl ?_
      show Steps p.tables e below (T127.setTop (mkF m 140 #[iv u0, iv u1, iv u2, iv (3 : Int32), iv (u1 &&& (2147483647 : Int32)), rv sv1, rv sv3, rv sv6, rv b10, rv ev21, rv ev28, rv ev38, rv ev51, .unset] [(.int (3 : Int32))])) _
      refine XS.iconst X127.here hx rfl (hb hby at_140) ?_
      show Steps p.tables e below (T127.setTop (mkF m 141 #[iv u0, iv u1, iv u2, iv (3 : Int32), iv (u1 &&& (2147483647 : Int32)), rv sv1, rv sv3, rv sv6, rv b10, rv ev21, rv ev28, rv ev38, rv ev51, .unset] [(.int (2 : Int32)), (.int (3 : Int32))])) _
      refine XS.icmpNo X127.here hx rfl (hb hby at_141) rfl (tlt (by decide : (2 : Int32) < (3 : Int32))).2.2.2 ?_
      show Steps p.tables e below (T127.setTop (mkF m 144 #[iv u0, iv u1, iv u2, iv (3 : Int32), iv (u1 &&& (2147483647 : Int32)), rv sv1, rv sv3, rv sv6, rv b10, rv ev21, rv ev28, rv ev38, rv ev51, .unset] [])) _
      refine XS.aload X127.here hx rfl (hb hby at_144) rfl rfl ?_
      show Steps p.tables e below (T127.setTop (mkF m 146 #[iv u0, iv u1, iv u2, iv (3 : Int32), iv (u1 &&& (2147483647 : Int32)), rv sv1, rv sv3, rv sv6, rv b10, rv ev21, rv ev28, rv ev38, rv ev51, .unset] [(.ref b10)])) _
      refine XS.aload X127.here hx rfl (hb hby at_146) rfl rfl ?_
      show Steps p.tables e below (T127.setTop (mkF m 148 #[iv u0, iv u1, iv u2, iv (3 : Int32), iv (u1 &&& (2147483647 : Int32)), rv sv1, rv sv3, rv sv6, rv b10, rv ev21, rv ev28, rv ev38, rv ev51, .unset] [(.ref ev38), (.ref b10)])) _
      refine st141.trans ?_
      show Steps p.tables e below (T141.setTop (mkF m 151 #[iv u0, iv u1, iv u2, iv (3 : Int32), iv (u1 &&& (2147483647 : Int32)), rv sv1, rv sv3, rv sv6, rv b10, rv ev21, rv ev28, rv ev38, rv ev51, .unset] [])) _
      refine XS.iloadN X141.here hx rfl (hb hby at_151) rfl ?_
      show Steps p.tables e below (T141.setTop (mkF m 152 #[iv u0, iv u1, iv u2, iv (3 : Int32), iv (u1 &&& (2147483647 : Int32)), rv sv1, rv sv3, rv sv6, rv b10, rv ev21, rv ev28, rv ev38, rv ev51, .unset] [(.int (3 : Int32))])) _
      refine XS.iconst X141.here hx rfl (hb hby at_152) ?_
      show Steps p.tables e below (T141.setTop (mkF m 153 #[iv u0, iv u1, iv u2, iv (3 : Int32), iv (u1 &&& (2147483647 : Int32)), rv sv1, rv sv3, rv sv6, rv b10, rv ev21, rv ev28, rv ev38, rv ev51, .unset] [(.int (3 : Int32)), (.int (3 : Int32))])) _
      refine XS.icmpYes X141.here hx rfl (pc0 := 153) (pc' := 163) rfl (hb hby at_153) rfl (flt (by decide : ¬ ((3 : Int32) < (3 : Int32)))).2.2.2 (by decide) (by decide) ?_
      show Steps p.tables e below (T141.setTop (mkF m 163 #[iv u0, iv u1, iv u2, iv (3 : Int32), iv (u1 &&& (2147483647 : Int32)), rv sv1, rv sv3, rv sv6, rv b10, rv ev21, rv ev28, rv ev38, rv ev51, .unset] [])) _
      refine XS.iloadN X141.here hx rfl (hb hby at_163) rfl ?_
      show Steps p.tables e below (T141.setTop (mkF m 164 #[iv u0, iv u1, iv u2, iv (3 : Int32), iv (u1 &&& (2147483647 : Int32)), rv sv1, rv sv3, rv sv6, rv b10, rv ev21, rv ev28, rv ev38, rv ev51, .unset] [(.int (3 : Int32))])) _
      refine XS.iconst X141.here hx rfl (hb hby at_164) ?_
      show Steps p.tables e below (T141.setTop (mkF m 165 #[iv u0, iv u1, iv u2, iv (3 : Int32), iv (u1 &&& (2147483647 : Int32)), rv sv1, rv sv3, rv sv6, rv b10, rv ev21, rv ev28, rv ev38, rv ev51, .unset] [(.int (4 : Int32)), (.int (3 : Int32))])) _
      refine XS.icmpYes X141.here hx rfl (pc0 := 165) (pc' := 175) rfl (hb hby at_165) rfl (flt (by decide : ¬ ((4 : Int32) < (3 : Int32)))).2.2.2 (by decide) (by decide) ?_
      show Steps p.tables e below (T141.setTop (mkF m 175 #[iv u0, iv u1, iv u2, iv (3 : Int32), iv (u1 &&& (2147483647 : Int32)), rv sv1, rv sv3, rv sv6, rv b10, rv ev21, rv ev28, rv ev38, rv ev51, .unset] [])) _
      refine XS.iloadN X141.here hx rfl (hb hby at_175) rfl ?_
      show Steps p.tables e below (T141.setTop (mkF m 176 #[iv u0, iv u1, iv u2, iv (3 : Int32), iv (u1 &&& (2147483647 : Int32)), rv sv1, rv sv3, rv sv6, rv b10, rv ev21, rv ev28, rv ev38, rv ev51, .unset] [(.int (3 : Int32))])) _
      refine XS.iconst X141.here hx rfl (hb hby at_176) ?_
      show Steps p.tables e below (T141.setTop (mkF m 177 #[iv u0, iv u1, iv u2, iv (3 : Int32), iv (u1 &&& (2147483647 : Int32)), rv sv1, rv sv3, rv sv6, rv b10, rv ev21, rv ev28, rv ev38, rv ev51, .unset] [(.int (5 : Int32)), (.int (3 : Int32))])) _
      refine XS.icmpYes X141.here hx rfl (pc0 := 177) (pc' := 187) rfl (hb hby at_177) rfl (flt (by decide : ¬ ((5 : Int32) < (3 : Int32)))).2.2.2 (by decide) (by decide) ?_
      show Steps p.tables e below (T141.setTop (mkF m 187 #[iv u0, iv u1, iv u2, iv (3 : Int32), iv (u1 &&& (2147483647 : Int32)), rv sv1, rv sv3, rv sv6, rv b10, rv ev21, rv ev28, rv ev38, rv ev51, .unset] [])) _
      refine XS.iloadN X141.here hx rfl (hb hby at_187) rfl ?_
      show Steps p.tables e below (T141.setTop (mkF m 188 #[iv u0, iv u1, iv u2, iv (3 : Int32), iv (u1 &&& (2147483647 : Int32)), rv sv1, rv sv3, rv sv6, rv b10, rv ev21, rv ev28, rv ev38, rv ev51, .unset] [(.int (3 : Int32))])) _
      refine XS.bipush X141.here hx rfl (hb hby at_188) ?_
      show Steps p.tables e below (T141.setTop (mkF m 190 #[iv u0, iv u1, iv u2, iv (3 : Int32), iv (u1 &&& (2147483647 : Int32)), rv sv1, rv sv3, rv sv6, rv b10, rv ev21, rv ev28, rv ev38, rv ev51, .unset] [(.int (6 : Int32)), (.int (3 : Int32))])) _
      refine XS.icmpYes X141.here hx rfl (pc0 := 190) (pc' := 200) rfl (hb hby at_190) rfl (flt (by decide : ¬ ((6 : Int32) < (3 : Int32)))).2.2.2 (by decide) (by decide) ?_
      show Steps p.tables e below (T141.setTop (mkF m 200 #[iv u0, iv u1, iv u2, iv (3 : Int32), iv (u1 &&& (2147483647 : Int32)), rv sv1, rv sv3, rv sv6, rv b10, rv ev21, rv ev28, rv ev38, rv ev51, .unset] [])) _
      refine XS.iloadN X141.here hx rfl (hb hby at_200) rfl ?_
      show Steps p.tables e below (T141.setTop (mkF m 201 #[iv u0, iv u1, iv u2, iv (3 : Int32), iv (u1 &&& (2147483647 : Int32)), rv sv1, rv sv3, rv sv6, rv b10, rv ev21, rv ev28, rv ev38, rv ev51, .unset] [(.int (3 : Int32))])) _
      refine XS.bipush X141.here hx rfl (hb hby at_201) ?_
      show Steps p.tables e below (T141.setTop (mkF m 203 #[iv u0, iv u1, iv u2, iv (3 : Int32), iv (u1 &&& (2147483647 : Int32)), rv sv1, rv sv3, rv sv6, rv b10, rv ev21, rv ev28, rv ev38, rv ev51, .unset] [(.int (7 : Int32)), (.int (3 : Int32))])) _
      refine XS.icmpYes X141.here hx rfl (pc0 := 203) (pc' := 213) rfl (hb hby at_203) rfl (flt (by decide : ¬ ((7 : Int32) < (3 : Int32)))).2.2.2 (by decide) (by decide) ?_
      show Steps p.tables e below (T141.setTop (mkF m 213 #[iv u0, iv u1, iv u2, iv (3 : Int32), iv (u1 &&& (2147483647 : Int32)), rv sv1, rv sv3, rv sv6, rv b10, rv ev21, rv ev28, rv ev38, rv ev51, .unset] [])) _
      refine XS.iloadN X141.here hx rfl (hb hby at_213) rfl ?_
      show Steps p.tables e below (T141.setTop (mkF m 214 #[iv u0, iv u1, iv u2, iv (3 : Int32), iv (u1 &&& (2147483647 : Int32)), rv sv1, rv sv3, rv sv6, rv b10, rv ev21, rv ev28, rv ev38, rv ev51, .unset] [(.int (3 : Int32))])) _
      refine XS.iconst X141.here hx rfl (hb hby at_214) ?_
      show Steps p.tables e below (T141.setTop (mkF m 215 #[iv u0, iv u1, iv u2, iv (3 : Int32), iv (u1 &&& (2147483647 : Int32)), rv sv1, rv sv3, rv sv6, rv b10, rv ev21, rv ev28, rv ev38, rv ev51, .unset] [(.int (4 : Int32)), (.int (3 : Int32))])) _
      refine XS.icmpNo X141.here hx rfl (hb hby at_215) rfl (tlt (by decide : (3 : Int32) < (4 : Int32))).2.1 ?_
      show Steps p.tables e below (T141.setTop (mkF m 218 #[iv u0, iv u1, iv u2, iv (3 : Int32), iv (u1 &&& (2147483647 : Int32)), rv sv1, rv sv3, rv sv6, rv b10, rv ev21, rv ev28, rv ev38, rv ev51, .unset] [])) _
      refine XS.iconst X141.here hx rfl (hb hby at_218) ?_
      show Steps p.tables e below (T141.setTop (mkF m 219 #[iv u0, iv u1, iv u2, iv (3 : Int32), iv (u1 &&& (2147483647 : Int32)), rv sv1, rv sv3, rv sv6, rv b10, rv ev21, rv ev28, rv ev38, rv ev51, .unset] [(.int (1 : Int32))])) _
      refine XS.istore X141.here hx rfl (hb hby at_219) rfl (l' := #[iv u0, iv u1, iv u2, iv (3 : Int32), iv (u1 &&& (2147483647 : Int32)), rv sv1, rv sv3, rv sv6, rv b10, rv ev21, rv ev28, rv ev38, rv ev51, iv (1 : Int32)]) rfl ?_
      show Steps p.tables e below (T141.setTop (mkF m 221 #[iv u0, iv u1, iv u2, iv (3 : Int32), iv (u1 &&& (2147483647 : Int32)), rv sv1, rv sv3, rv sv6, rv b10, rv ev21, rv ev28, rv ev38, rv ev51, iv (1 : Int32)] [])) _
      refine XS.goto X141.here hx rfl (pc0 := 221) (pc' := 239) rfl (hb hby at_221) (by decide) (by decide) ?_
      show Steps p.tables e below (T141.setTop (mkF m 239 #[iv u0, iv u1, iv u2, iv (3 : Int32), iv (u1 &&& (2147483647 : Int32)), rv sv1, rv sv3, rv sv6, rv b10, rv ev21, rv ev28, rv ev38, rv ev51, iv (1 : Int32)] [])) _
      refine XS.aload X141.here hx rfl (hb hby at_239) rfl rfl ?_
      show Steps p.tables e below (T141.setTop (mkF m 241 #[iv u0, iv u1, iv u2, iv (3 : Int32), iv (u1 &&& (2147483647 : Int32)), rv sv1, rv sv3, rv sv6, rv b10, rv ev21, rv ev28, rv ev38, rv ev51, iv (1 : Int32)] [(.ref b10)])) _
      refine st155.trans ?_
      show Steps p.tables e below (T155.setTop (mkF m 244 #[iv u0, iv u1, iv u2, iv (3 : Int32), iv (u1 &&& (2147483647 : Int32)), rv sv1, rv sv3, rv sv6, rv b10, rv ev21, rv ev28, rv ev38, rv ev51, iv (1 : Int32)] [(.int (1 : Int32))])) _
      refine XS.iload X155.here hx rfl (hb hby at_244) rfl ?_
      show Steps p.tables e below (T155.setTop (mkF m 246 #[iv u0, iv u1, iv u2, iv (3 : Int32), iv (u1 &&& (2147483647 : Int32)), rv sv1, rv sv3, rv sv6, rv b10, rv ev21, rv ev28, rv ev38, rv ev51, iv (1 : Int32)] [(.int (1 : Int32)), (.int (1 : Int32))])) _
      refine XS.icmpNo X155.here hx rfl (hb hby at_246) rfl (teq (by decide : (1 : Int32) = (1 : Int32))).2 ?_
      show Steps p.tables e below (T155.setTop (mkF m 249 #[iv u0, iv u1, iv u2, iv (3 : Int32), iv (u1 &&& (2147483647 : Int32)), rv sv1, rv sv3, rv sv6, rv b10, rv ev21, rv ev28, rv ev38, rv ev51, iv (1 : Int32)] [])) _
      refine XS.iconst X155.here hx rfl (hb hby at_249) ?_
      show Steps p.tables e below (T155.setTop (mkF m 250 #[iv u0, iv u1, iv u2, iv (3 : Int32), iv (u1 &&& (2147483647 : Int32)), rv sv1, rv sv3, rv sv6, rv b10, rv ev21, rv ev28, rv ev38, rv ev51, iv (1 : Int32)] [(.int (1 : Int32))])) _
      refine XS.goto X155.here hx rfl (pc0 := 250) (pc' := 254) rfl (hb hby at_250) (by decide) (by decide) ?_
      show Steps p.tables e below (T155.setTop (mkF m 254 #[iv u0, iv u1, iv u2, iv (3 : Int32), iv (u1 &&& (2147483647 : Int32)), rv sv1, rv sv3, rv sv6, rv b10, rv ev21, rv ev28, rv ev38, rv ev51, iv (1 : Int32)] [(.int (1 : Int32))])) _
      exact retN X155 hx (t := .boolean) Bd.returns (by simp) (hb hby at_254) hr
    · show Q0 Z u0 u1 u2 t0 t1 t2 t3 d0 d1 d2 d3 oa oc G1 h0 n0 _ T155.heap _
      rw [eq155]
      exact ⟨rfl, N155⟩
  · skip
    rw [hn_] at S67
    obtain ⟨cq156, kq156, q156a, q156b, q156c⟩ := isOf hZ rfl f56
    obtain ⟨_, _, ⟨T156, L156, k156, n156⟩, -, X156, ⟨Lc156, hQ156, l156, y156, z156⟩, st156⟩ := X51.virtualBack hx (y := (⟨"com/example/reroutine/reroutine/replanning/ExecutedDay", "add", "(Lcom/example/reroutine/reroutine/scenario/Event;)V"⟩ : MethodName)) (z := (⟨"com/example/reroutine/reroutine/replanning/ExecutedDay", "add", "(Lcom/example/reroutine/reroutine/scenario/Event;)V"⟩ : MethodName)) hown (mvT hZ (hw _ (List.mem_of_getElem? (i := 104) rfl))) (mvT hZ (hw _ (List.mem_of_getElem? (i := 105) rfl))) (notFace_of_selects (args := #[]) (mvT hZ (hw _ (List.mem_of_getElem? (i := 107) rfl)))) (mvT hZ (hw _ (List.mem_of_getElem? (i := 107) rfl))) (mvT hZ (hw _ (List.mem_of_getElem? (i := 106) rfl))) (by decide) (backOf (W := 0) (rmAdd0 l Z a0 hw [] b10 ev21 t0 t1 t2 t3 d0 d1 d2 d3 oa oc (u1 &&& (2147483647 : Int32)) T51.heap n0 Z51 Od52 hst f66 ge_b10 ne_b10_ev21 f57 f58 f59) hZ (hw _ (List.mem_of_getElem? (i := 108) rfl)) (hw _ (List.mem_of_getElem? (i := 29) rfl)) (by decide) (by decide)) q156a q156c (g := (mkF m 124 #[iv u0, iv u1, iv u2, iv (4 : Int32), iv (u1 &&& (2147483647 : Int32)), rv sv1, rv sv3, rv sv6, rv b10, rv ev21, rv ev28, rv ev38, rv ev51, .unset] [(.ref ev21), (.ref b10)])) rfl (by rw [hml]; rfl) (Steps.refl _) (argsL := [(.ref ev21)]) (rest := []) (lenOf pd_14 rfl) rfl (by show 2 * 0 + _ ≤ _; exact Nat.le_of_eq rfl) (hb hby at_124) (fun _ _ => ⟨rfl, rfl, (by decide : 12 + 0 ≤ _), (by decide : 42 + 0 ≤ _)⟩)
    dsimp only [Pt.U, Pt.locs, Pt.cells, Pt.slots] at X156 l156 y156 z156 st156 hQ156
    subst y156 z156
    obtain ⟨rfl, Nq156, Kx156, Bq156⟩ := hQ156
    have N156 : Fr n0 L156 := by rw [l156]; exact Fr.app N51 Nq156
    obtain ⟨ar156, cl156, ty156, Kq156, gar156, Arq156⟩ := Kx156
    have Z156 : n0 ≤ T156.heap.size := Nat.le_trans Z51 Kq156.1
    have f157 := f58.keep Kq156 (ninS (Ne.symm ne_b10_ev21) (ninS (ne_arr f57 (hw _ (List.mem_of_getElem? (i := 51) rfl)) Arq156) nin0))
    have f158 := f59.keep Kq156 (ninS (Ne.symm ne_b10_ev21) (ninS (ne_arr f57 (hw _ (List.mem_of_getElem? (i := 51) rfl)) Arq156) nin0))
    have f159 := f61.keep Kq156 (ninS (Ne.symm ne_b10_ev28) (ninS (ne_arr f60 (hw _ (List.mem_of_getElem? (i := 51) rfl)) Arq156) nin0))
    have f160 := f62.keep Kq156 (ninS (Ne.symm ne_b10_ev28) (ninS (ne_arr f60 (hw _ (List.mem_of_getElem? (i := 51) rfl)) Arq156) nin0))
    have f161 := f64.keep Kq156 (ninS (Ne.symm ne_b10_ev38) (ninS (ne_arr f63 (hw _ (List.mem_of_getElem? (i := 51) rfl)) Arq156) nin0))
    have f162 := f65.keep Kq156 (ninS (Ne.symm ne_b10_ev38) (ninS (ne_arr f63 (hw _ (List.mem_of_getElem? (i := 51) rfl)) Arq156) nin0))
    have f163 := Fm51.keep Kq156 (ninS (Ne.symm ne_b10_ev51) (ninS (ne_arr Eq51 (hw _ (List.mem_of_getElem? (i := 51) rfl)) Arq156) nin0))
    have f164 := Ft51.keep Kq156 (ninS (Ne.symm ne_b10_ev51) (ninS (ne_arr Eq51 (hw _ (List.mem_of_getElem? (i := 51) rfl)) Arq156) nin0))
    have f165 := f56.keep Kq156
    have f166 := f57.keep Kq156
    have f167 := f60.keep Kq156
    have f168 := f63.keep Kq156
    have f169 := Eq51.keep Kq156
    have Od156 := Od52.keep Kq156 (allS ge_b10 (allS gar156 all0))
    obtain ⟨cq170, kq170, q170a, q170b, q170c⟩ := isOf hZ rfl f165
    obtain ⟨_, _, ⟨T170, L170, k170, n170⟩, -, X170, ⟨Lc170, hQ170, l170, y170, z170⟩, st170⟩ := X156.virtualBack hx (y := (⟨"com/example/reroutine/reroutine/replanning/ExecutedDay", "add", "(Lcom/example/reroutine/reroutine/scenario/Event;)V"⟩ : MethodName)) (z := (⟨"com/example/reroutine/reroutine/replanning/ExecutedDay", "add", "(Lcom/example/reroutine/reroutine/scenario/Event;)V"⟩ : MethodName)) hown (mvT hZ (hw _ (List.mem_of_getElem? (i := 104) rfl))) (mvT hZ (hw _ (List.mem_of_getElem? (i := 105) rfl))) (notFace_of_selects (args := #[]) (mvT hZ (hw _ (List.mem_of_getElem? (i := 107) rfl)))) (mvT hZ (hw _ (List.mem_of_getElem? (i := 107) rfl))) (mvT hZ (hw _ (List.mem_of_getElem? (i := 106) rfl))) (by decide) (backOf (W := 0) (rmAdd1 l Z a0 hw [] b10 ev28 t0 t1 t2 t3 d0 d1 d2 d3 oa oc (u1 &&& (2147483647 : Int32)) T156.heap n0 Z156 Od156 hst Bq156 ge_b10 ne_b10_ev28 f167 f159 f160) hZ (hw _ (List.mem_of_getElem? (i := 108) rfl)) (hw _ (List.mem_of_getElem? (i := 29) rfl)) (by decide) (by decide)) q170a q170c (g := (mkF m 136 #[iv u0, iv u1, iv u2, iv (4 : Int32), iv (u1 &&& (2147483647 : Int32)), rv sv1, rv sv3, rv sv6, rv b10, rv ev21, rv ev28, rv ev38, rv ev51, .unset] [(.ref ev28), (.ref b10)])) rfl (by rw [hml]; rfl) (Steps.refl _) (argsL := [(.ref ev28)]) (rest := []) (lenOf pd_14 rfl) rfl (by show 2 * 0 + _ ≤ _; exact Nat.le_of_eq rfl) (hb hby at_136) (fun _ _ => ⟨rfl, rfl, (by decide : 12 + 0 ≤ _), (by decide : 42 + 0 ≤ _)⟩)
    dsimp only [Pt.U, Pt.locs, Pt.cells, Pt.slots] at X170 l170 y170 z170 st170 hQ170
    subst y170 z170
    obtain ⟨rfl, Nq170, Kx170, Bq170⟩ := hQ170
    have N170 : Fr n0 L170 := by rw [l170]; exact Fr.app N156 Nq170
    obtain ⟨ar170, cl170, ty170, Kq170, gar170, Arq170⟩ := Kx170
    have Z170 : n0 ≤ T170.heap.size := Nat.le_trans Z156 Kq170.1
    have f171 := f157.keep Kq170 (ninS (Ne.symm ne_b10_ev21) (ninS (ne_arr f166 (hw _ (List.mem_of_getElem? (i := 51) rfl)) Arq170) nin0))
    have f172 := f158.keep Kq170 (ninS (Ne.symm ne_b10_ev21) (ninS (ne_arr f166 (hw _ (List.mem_of_getElem? (i := 51) rfl)) Arq170) nin0))
    have f173 := f159.keep Kq170 (ninS (Ne.symm ne_b10_ev28) (ninS (ne_arr f167 (hw _ (List.mem_of_getElem? (i := 51) rfl)) Arq170) nin0))
    have f174 := f160.keep Kq170 (ninS (Ne.symm ne_b10_ev28) (ninS (ne_arr f167 (hw _ (List.mem_of_getElem? (i := 51) rfl)) Arq170) nin0))
    have f175 := f161.keep Kq170 (ninS (Ne.symm ne_b10_ev38) (ninS (ne_arr f168 (hw _ (List.mem_of_getElem? (i := 51) rfl)) Arq170) nin0))
    have f176 := f162.keep Kq170 (ninS (Ne.symm ne_b10_ev38) (ninS (ne_arr f168 (hw _ (List.mem_of_getElem? (i := 51) rfl)) Arq170) nin0))
    have f177 := f163.keep Kq170 (ninS (Ne.symm ne_b10_ev51) (ninS (ne_arr f169 (hw _ (List.mem_of_getElem? (i := 51) rfl)) Arq170) nin0))
    have f178 := f164.keep Kq170 (ninS (Ne.symm ne_b10_ev51) (ninS (ne_arr f169 (hw _ (List.mem_of_getElem? (i := 51) rfl)) Arq170) nin0))
    have f179 := f165.keep Kq170
    have f180 := f166.keep Kq170
    have f181 := f167.keep Kq170
    have f182 := f168.keep Kq170
    have f183 := f169.keep Kq170
    have Od170 := Od156.keep Kq170 (allS ge_b10 (allS gar170 all0))
    obtain ⟨cq184, kq184, q184a, q184b, q184c⟩ := isOf hZ rfl f179
    obtain ⟨_, _, ⟨T184, L184, k184, n184⟩, -, X184, ⟨Lc184, hQ184, l184, y184, z184⟩, st184⟩ := X170.virtualBack hx (y := (⟨"com/example/reroutine/reroutine/replanning/ExecutedDay", "add", "(Lcom/example/reroutine/reroutine/scenario/Event;)V"⟩ : MethodName)) (z := (⟨"com/example/reroutine/reroutine/replanning/ExecutedDay", "add", "(Lcom/example/reroutine/reroutine/scenario/Event;)V"⟩ : MethodName)) hown (mvT hZ (hw _ (List.mem_of_getElem? (i := 104) rfl))) (mvT hZ (hw _ (List.mem_of_getElem? (i := 105) rfl))) (notFace_of_selects (args := #[]) (mvT hZ (hw _ (List.mem_of_getElem? (i := 107) rfl)))) (mvT hZ (hw _ (List.mem_of_getElem? (i := 107) rfl))) (mvT hZ (hw _ (List.mem_of_getElem? (i := 106) rfl))) (by decide) (backOf (W := 0) (rmAdd2 l Z a0 hw [] b10 ev38 t0 t1 t2 t3 d0 d1 d2 d3 oa oc (u1 &&& (2147483647 : Int32)) T170.heap n0 Z170 Od170 hst Bq170 ge_b10 ne_b10_ev38 f182 f175 f176) hZ (hw _ (List.mem_of_getElem? (i := 108) rfl)) (hw _ (List.mem_of_getElem? (i := 29) rfl)) (by decide) (by decide)) q184a q184c (g := (mkF m 148 #[iv u0, iv u1, iv u2, iv (4 : Int32), iv (u1 &&& (2147483647 : Int32)), rv sv1, rv sv3, rv sv6, rv b10, rv ev21, rv ev28, rv ev38, rv ev51, .unset] [(.ref ev38), (.ref b10)])) rfl (by rw [hml]; rfl) (Steps.refl _) (argsL := [(.ref ev38)]) (rest := []) (lenOf pd_14 rfl) rfl (by show 2 * 0 + _ ≤ _; exact Nat.le_of_eq rfl) (hb hby at_148) (fun _ _ => ⟨rfl, rfl, (by decide : 12 + 0 ≤ _), (by decide : 42 + 0 ≤ _)⟩)
    dsimp only [Pt.U, Pt.locs, Pt.cells, Pt.slots] at X184 l184 y184 z184 st184 hQ184
    subst y184 z184
    obtain ⟨rfl, Nq184, Kx184, Bq184⟩ := hQ184
    have N184 : Fr n0 L184 := by rw [l184]; exact Fr.app N170 Nq184
    obtain ⟨ar184, cl184, ty184, Kq184, gar184, Arq184⟩ := Kx184
    have Z184 : n0 ≤ T184.heap.size := Nat.le_trans Z170 Kq184.1
    have f185 := f171.keep Kq184 (ninS (Ne.symm ne_b10_ev21) (ninS (ne_arr f180 (hw _ (List.mem_of_getElem? (i := 51) rfl)) Arq184) nin0))
    have f186 := f172.keep Kq184 (ninS (Ne.symm ne_b10_ev21) (ninS (ne_arr f180 (hw _ (List.mem_of_getElem? (i := 51) rfl)) Arq184) nin0))
    have f187 := f173.keep Kq184 (ninS (Ne.symm ne_b10_ev28) (ninS (ne_arr f181 (hw _ (List.mem_of_getElem? (i := 51) rfl)) Arq184) nin0))
    have f188 := f174.keep Kq184 (ninS (Ne.symm ne_b10_ev28) (ninS (ne_arr f181 (hw _ (List.mem_of_getElem? (i := 51) rfl)) Arq184) nin0))
    have f189 := f175.keep Kq184 (ninS (Ne.symm ne_b10_ev38) (ninS (ne_arr f182 (hw _ (List.mem_of_getElem? (i := 51) rfl)) Arq184) nin0))
    have f190 := f176.keep Kq184 (ninS (Ne.symm ne_b10_ev38) (ninS (ne_arr f182 (hw _ (List.mem_of_getElem? (i := 51) rfl)) Arq184) nin0))
    have f191 := f177.keep Kq184 (ninS (Ne.symm ne_b10_ev51) (ninS (ne_arr f183 (hw _ (List.mem_of_getElem? (i := 51) rfl)) Arq184) nin0))
    have f192 := f178.keep Kq184 (ninS (Ne.symm ne_b10_ev51) (ninS (ne_arr f183 (hw _ (List.mem_of_getElem? (i := 51) rfl)) Arq184) nin0))
    have f193 := f179.keep Kq184
    have f194 := f180.keep Kq184
    have f195 := f181.keep Kq184
    have f196 := f182.keep Kq184
    have f197 := f183.keep Kq184
    have Od184 := Od170.keep Kq184 (allS ge_b10 (allS gar184 all0))
    obtain ⟨cq198, kq198, q198a, q198b, q198c⟩ := isOf hZ rfl f193
    obtain ⟨_, _, ⟨T198, L198, k198, n198⟩, -, X198, ⟨Lc198, hQ198, l198, y198, z198⟩, st198⟩ := X184.virtualBack hx (y := (⟨"com/example/reroutine/reroutine/replanning/ExecutedDay", "add", "(Lcom/example/reroutine/reroutine/scenario/Event;)V"⟩ : MethodName)) (z := (⟨"com/example/reroutine/reroutine/replanning/ExecutedDay", "add", "(Lcom/example/reroutine/reroutine/scenario/Event;)V"⟩ : MethodName)) hown (mvT hZ (hw _ (List.mem_of_getElem? (i := 104) rfl))) (mvT hZ (hw _ (List.mem_of_getElem? (i := 105) rfl))) (notFace_of_selects (args := #[]) (mvT hZ (hw _ (List.mem_of_getElem? (i := 107) rfl)))) (mvT hZ (hw _ (List.mem_of_getElem? (i := 107) rfl))) (mvT hZ (hw _ (List.mem_of_getElem? (i := 106) rfl))) (by decide) (backOf (W := 0) (rmAdd3 l Z a0 hw [] b10 ev51 t0 t1 t2 t3 d0 d1 d2 d3 oa oc (u1 &&& (2147483647 : Int32)) T184.heap n0 Z184 Od184 hst Bq184 ge_b10 ne_b10_ev51 f197 f191 f192) hZ (hw _ (List.mem_of_getElem? (i := 108) rfl)) (hw _ (List.mem_of_getElem? (i := 29) rfl)) (by decide) (by decide)) q198a q198c (g := (mkF m 160 #[iv u0, iv u1, iv u2, iv (4 : Int32), iv (u1 &&& (2147483647 : Int32)), rv sv1, rv sv3, rv sv6, rv b10, rv ev21, rv ev28, rv ev38, rv ev51, .unset] [(.ref ev51), (.ref b10)])) rfl (by rw [hml]; rfl) (Steps.refl _) (argsL := [(.ref ev51)]) (rest := []) (lenOf pd_14 rfl) rfl (by show 2 * 0 + _ ≤ _; exact Nat.le_of_eq rfl) (hb hby at_160) (fun _ _ => ⟨rfl, rfl, (by decide : 12 + 0 ≤ _), (by decide : 42 + 0 ≤ _)⟩)
    dsimp only [Pt.U, Pt.locs, Pt.cells, Pt.slots] at X198 l198 y198 z198 st198 hQ198
    subst y198 z198
    obtain ⟨rfl, Nq198, Kx198, Bq198⟩ := hQ198
    have N198 : Fr n0 L198 := by rw [l198]; exact Fr.app N184 Nq198
    obtain ⟨ar198, cl198, ty198, Kq198, gar198, Arq198⟩ := Kx198
    have Z198 : n0 ≤ T198.heap.size := Nat.le_trans Z184 Kq198.1
    have f199 := f185.keep Kq198 (ninS (Ne.symm ne_b10_ev21) (ninS (ne_arr f194 (hw _ (List.mem_of_getElem? (i := 51) rfl)) Arq198) nin0))
    have f200 := f186.keep Kq198 (ninS (Ne.symm ne_b10_ev21) (ninS (ne_arr f194 (hw _ (List.mem_of_getElem? (i := 51) rfl)) Arq198) nin0))
    have f201 := f187.keep Kq198 (ninS (Ne.symm ne_b10_ev28) (ninS (ne_arr f195 (hw _ (List.mem_of_getElem? (i := 51) rfl)) Arq198) nin0))
    have f202 := f188.keep Kq198 (ninS (Ne.symm ne_b10_ev28) (ninS (ne_arr f195 (hw _ (List.mem_of_getElem? (i := 51) rfl)) Arq198) nin0))
    have f203 := f189.keep Kq198 (ninS (Ne.symm ne_b10_ev38) (ninS (ne_arr f196 (hw _ (List.mem_of_getElem? (i := 51) rfl)) Arq198) nin0))
    have f204 := f190.keep Kq198 (ninS (Ne.symm ne_b10_ev38) (ninS (ne_arr f196 (hw _ (List.mem_of_getElem? (i := 51) rfl)) Arq198) nin0))
    have f205 := f191.keep Kq198 (ninS (Ne.symm ne_b10_ev51) (ninS (ne_arr f197 (hw _ (List.mem_of_getElem? (i := 51) rfl)) Arq198) nin0))
    have f206 := f192.keep Kq198 (ninS (Ne.symm ne_b10_ev51) (ninS (ne_arr f197 (hw _ (List.mem_of_getElem? (i := 51) rfl)) Arq198) nin0))
    have f207 := f193.keep Kq198
    have f208 := f194.keep Kq198
    have f209 := f195.keep Kq198
    have f210 := f196.keep Kq198
    have f211 := f197.keep Kq198
    have Od198 := Od184.keep Kq198 (allS ge_b10 (allS gar198 all0))
    obtain ⟨cq212, kq212, q212a, q212b, q212c⟩ := isOf hZ rfl f207
    obtain ⟨_, _, ⟨T212, L212, k212, n212⟩, -, X212, ⟨Lc212, hQ212, l212, y212, z212⟩, st212⟩ := X198.virtualBack hx (y := (⟨"com/example/reroutine/reroutine/replanning/ExecutedDay", "activitiesReached", "()I"⟩ : MethodName)) (z := (⟨"com/example/reroutine/reroutine/replanning/ExecutedDay", "activitiesReached", "()I"⟩ : MethodName)) hown (mvT hZ (hw _ (List.mem_of_getElem? (i := 97) rfl))) (mvT hZ (hw _ (List.mem_of_getElem? (i := 98) rfl))) (notFace_of_selects (args := #[]) (mvT hZ (hw _ (List.mem_of_getElem? (i := 100) rfl)))) (mvT hZ (hw _ (List.mem_of_getElem? (i := 100) rfl))) (mvT hZ (hw _ (List.mem_of_getElem? (i := 99) rfl))) (by decide) (backOf (W := 0) (rmQ4 l Z a0 hw [] b10 t0 t1 t2 t3 d0 d1 d2 d3 oa oc T198.heap n0 Z198 Od198 hst Bq198.2.1) hZ (hw _ (List.mem_of_getElem? (i := 101) rfl)) (hw _ (List.mem_of_getElem? (i := 29) rfl)) (by decide) (by decide)) q212a q212c (g := (mkF m 241 #[iv u0, iv u1, iv u2, iv (4 : Int32), iv (u1 &&& (2147483647 : Int32)), rv sv1, rv sv3, rv sv6, rv b10, rv ev21, rv ev28, rv ev38, rv ev51, iv (2 : Int32)] [(.ref b10)])) rfl (by rw [hml]; rfl) (Steps.refl _) (argsL := []) (rest := []) (lenOf pd_9 rfl) rfl (by show 2 * 0 + _ ≤ _; exact Nat.le_of_eq rfl) (hb hby at_241) (fun _ _ => ⟨rfl, rfl, (by decide : 12 + 0 ≤ _), (by decide : 42 + 0 ≤ _)⟩)
    dsimp only [Pt.U, Pt.locs, Pt.cells, Pt.slots] at X212 l212 y212 z212 st212 hQ212
    subst y212 z212
    obtain ⟨rfl, Nq212, eq212⟩ := hQ212
    have N212 : Fr n0 L212 := by rw [l212]; exact Fr.app N198 Nq212
    obtain ⟨fs, hr, hrun, hended, hW, hsame⟩ := X212.leave (v := some (.int (1 : Int32))) (fun h => by rw [Bd.returns] at h; cases h)
    refine ⟨_, _, S67 _ ?_, hrun, hended, _, _, rfl, ?_, ⟨_, rfl⟩, hW, hsame.mono (by decide) (by decide)⟩
    · skip
      show Steps p.tables e below (T51.setTop (mkF m 117 #[iv u0, iv u1, iv u2, iv (4 : Int32), iv (u1 &&& (2147483647 : Int32)), rv sv1, rv sv3, rv sv6, rv b10, rv ev21, rv ev28, rv ev38, rv ev51, .unset] [(.int (4 : Int32))])) _
      refine XS.ifNo X51.here hx rfl (hb hby at_117) rfl ((if0 _ _).trans (tlt (by decide : (0 : Int32) < (4 : Int32))).2.2.2) ?_
      show Steps p.tables e below (T51.setTop (mkF m 120 #[iv u0, iv u1, iv u2, iv (4 : Int32), iv (u1 &&& (2147483647 : Int32)), rv sv1, rv sv3, rv sv6, rv b10, rv ev21, rv ev28, rv ev38, rv ev51, .unset] [])) _
      refine XS.aload X51.here hx rfl (hb hby at_120) rfl rfl ?_
      show Steps p.tables e below (T51.setTop (mkF m 122 #[iv u0, iv u1, iv u2, iv (4 : Int32), iv (u1 &&& (2147483647 : Int32)), rv sv1, rv sv3, rv sv6, rv b10, rv ev21, rv ev28, rv ev38, rv ev51, .unset] [(.ref b10)])) _
      refine XS.aload X51.here hx rfl (hb hby at_122) rfl rfl ?_
      show Steps p.tables e below (T51.setTop (mkF m 124 #[iv u0, iv u1, iv u2, iv (4 : Int32), iv (u1 &&& (2147483647 : Int32)), rv sv1, rv sv3, rv sv6, rv b10, rv ev21, rv ev28, rv ev38, rv ev51, .unset] [(.ref ev21), (.ref b10)])) _
      refine st156.trans ?_
      show Steps p.tables e below (T156.setTop (mkF m 127 #[iv u0, iv u1, iv u2, iv (4 : Int32), iv (u1 &&& (2147483647 : Int32)), rv sv1, rv sv3, rv sv6, rv b10, rv ev21, rv ev28, rv ev38, rv ev51, .unset] [])) _
      refine XS.iloadN X156.here hx rfl (hb hby at_127) rfl ?_
      show Steps p.tables e below (T156.setTop (mkF m 128 #[iv u0, iv u1, iv u2, iv (4 : Int32), iv (u1 &&& (2147483647 : Int32)), rv sv1, rv sv3, rv sv6, rv b10, rv ev21, rv ev28, rv ev38, rv ev51, .unset] [(.int (4 : Int32))])) _
      refine XS.iconst X156.here hx rfl (hb hby at_128) ?_
      show Steps p.tables e below (T156.setTop (mkF m 129 #[iv u0, iv u1, iv u2, iv (4 : Int32), iv (u1 &&& (2147483647 : Int32)), rv sv1, rv sv3, rv sv6, rv b10, rv ev21, rv ev28, rv ev38, rv ev51, .unset] [(.int (1 : Int32)), (.int (4 : Int32))])) _
      refine XS.icmpNo X156.here hx rfl (hb hby at_129) rfl (tlt (by decide : (1 : Int32) < (4 : Int32))).2.2.2 ?_
      show Steps p.tables e below (T156.setTop (mkF m 132 #[iv u0, iv u1, iv u2, iv (4 : Int32), iv (u1 &&& (2147483647 : Int32)), rv sv1, rv sv3, rv sv6, rv b10, rv ev21, rv ev28, rv ev38, rv ev51, .unset] [])) _
      refine XS.aload X156.here hx rfl (hb hby at_132) rfl rfl ?_
      show Steps p.tables e below (T156.setTop (mkF m 134 #[iv u0, iv u1, iv u2, iv (4 : Int32), iv (u1 &&& (2147483647 : Int32)), rv sv1, rv sv3, rv sv6, rv b10, rv ev21, rv ev28, rv ev38, rv ev51, .unset] [(.ref b10)])) _
      refine XS.aload X156.here hx rfl (hb hby at_134) rfl rfl ?_
      show Steps p.tables e below (T156.setTop (mkF m 136 #[iv u0, iv u1, iv u2, iv (4 : Int32), iv (u1 &&& (2147483647 : Int32)), rv sv1, rv sv3, rv sv6, rv b10, rv ev21, rv ev28, rv ev38, rv ev51, .unset] [(.ref ev28), (.ref b10)])) _
      refine st170.trans ?_
      show Steps p.tables e below (T170.setTop (mkF m 139 #[iv u0, iv u1, iv u2, iv (4 : Int32), iv (u1 &&& (2147483647 : Int32)), rv sv1, rv sv3, rv sv6, rv b10, rv ev21, rv ev28, rv ev38, rv ev51, .unset] [])) _
      refine XS.iloadN X170.here hx rfl (hb hby at_139) rfl ?_
      show Steps p.tables e below (T170.setTop (mkF m 140 #[iv u0, iv u1, iv u2, iv (4 : Int32), iv (u1 &&& (2147483647 : Int32)), rv sv1, rv sv3, rv sv6, rv b10, rv ev21, rv ev28, rv ev38, rv ev51, .unset] [(.int (4 : Int32))])) _
      refine XS.iconst X170.here hx rfl (hb hby at_140) ?_
      show Steps p.tables e below (T170.setTop (mkF m 141 #[iv u0, iv u1, iv u2, iv (4 : Int32), iv (u1 &&& (2147483647 : Int32)), rv sv1, rv sv3, rv sv6, rv b10, rv ev21, rv ev28, rv ev38, rv ev51, .unset] [(.int (2 : Int32)), (.int (4 : Int32))])) _
      refine XS.icmpNo X170.here hx rfl (hb hby at_141) rfl (tlt (by decide : (2 : Int32) < (4 : Int32))).2.2.2 ?_
      show Steps p.tables e below (T170.setTop (mkF m 144 #[iv u0, iv u1, iv u2, iv (4 : Int32), iv (u1 &&& (2147483647 : Int32)), rv sv1, rv sv3, rv sv6, rv b10, rv ev21, rv ev28, rv ev38, rv ev51, .unset] [])) _
      refine XS.aload X170.here hx rfl (hb hby at_144) rfl rfl ?_
      show Steps p.tables e below (T170.setTop (mkF m 146 #[iv u0, iv u1, iv u2, iv (4 : Int32), iv (u1 &&& (2147483647 : Int32)), rv sv1, rv sv3, rv sv6, rv b10, rv ev21, rv ev28, rv ev38, rv ev51, .unset] [(.ref b10)])) _
      refine XS.aload X170.here hx rfl (hb hby at_146) rfl rfl ?_
      show Steps p.tables e below (T170.setTop (mkF m 148 #[iv u0, iv u1, iv u2, iv (4 : Int32), iv (u1 &&& (2147483647 : Int32)), rv sv1, rv sv3, rv sv6, rv b10, rv ev21, rv ev28, rv ev38, rv ev51, .unset] [(.ref ev38), (.ref b10)])) _
      refine st184.trans ?_
      show Steps p.tables e below (T184.setTop (mkF m 151 #[iv u0, iv u1, iv u2, iv (4 : Int32), iv (u1 &&& (2147483647 : Int32)), rv sv1, rv sv3, rv sv6, rv b10, rv ev21, rv ev28, rv ev38, rv ev51, .unset] [])) _
      refine XS.iloadN X184.here hx rfl (hb hby at_151) rfl ?_
      show Steps p.tables e below (T184.setTop (mkF m 152 #[iv u0, iv u1, iv u2, iv (4 : Int32), iv (u1 &&& (2147483647 : Int32)), rv sv1, rv sv3, rv sv6, rv b10, rv ev21, rv ev28, rv ev38, rv ev51, .unset] [(.int (4 : Int32))])) _
      refine XS.iconst X184.here hx rfl (hb hby at_152) ?_
      show Steps p.tables e below (T184.setTop (mkF m 153 #[iv u0, iv u1, iv u2, iv (4 : Int32), iv (u1 &&& (2147483647 : Int32)), rv sv1, rv sv3, rv sv6, rv b10, rv ev21, rv ev28, rv ev38, rv ev51, .unset] [(.int (3 : Int32)), (.int (4 : Int32))])) _
      refine XS.icmpNo X184.here hx rfl (hb hby at_153) rfl (tlt (by decide : (3 : Int32) < (4 : Int32))).2.2.2 ?_
      show Steps p.tables e below (T184.setTop (mkF m 156 #[iv u0, iv u1, iv u2, iv (4 : Int32), iv (u1 &&& (2147483647 : Int32)), rv sv1, rv sv3, rv sv6, rv b10, rv ev21, rv ev28, rv ev38, rv ev51, .unset] [])) _
      refine XS.aload X184.here hx rfl (hb hby at_156) rfl rfl ?_
      show Steps p.tables e below (T184.setTop (mkF m 158 #[iv u0, iv u1, iv u2, iv (4 : Int32), iv (u1 &&& (2147483647 : Int32)), rv sv1, rv sv3, rv sv6, rv b10, rv ev21, rv ev28, rv ev38, rv ev51, .unset] [(.ref b10)])) _
      refine XS.aload X184.here hx rfl (hb hby at_158) rfl rfl ?_
      show Steps p.tables e below (T184.setTop (mkF m 160 #[iv u0, iv u1, iv u2, iv (4 : Int32), iv (u1 &&& (2147483647 : Int32)), rv sv1, rv sv3, rv sv6, rv b10, rv ev21, rv ev28, rv ev38, rv ev51, .unset] [(.ref ev51), (.ref b10)])) _
      refine st198.trans ?_
      show Steps p.tables e below (T198.setTop (mkF m 163 #[iv u0, iv u1, iv u2, iv (4 : Int32), iv (u1 &&& (2147483647 : Int32)), rv sv1, rv sv3, rv sv6, rv b10, rv ev21, rv ev28, rv ev38, rv ev51, .unset] [])) _
      refine XS.iloadN X198.here hx rfl (hb hby at_163) rfl ?_
      show Steps p.tables e below (T198.setTop (mkF m 164 #[iv u0, iv u1, iv u2, iv (4 : Int32), iv (u1 &&& (2147483647 : Int32)), rv sv1, rv sv3, rv sv6, rv b10, rv ev21, rv ev28, rv ev38, rv ev51, .unset] [(.int (4 : Int32))])) _
      refine XS.iconst X198.here hx rfl (hb hby at_164) ?_
      show Steps p.tables e below (T198.setTop (mkF m 165 #[iv u0, iv u1, iv u2, iv (4 : Int32), iv (u1 &&& (2147483647 : Int32)), rv sv1, rv sv3, rv sv6, rv b10, rv ev21, rv ev28, rv ev38, rv ev51, .unset] [(.int (4 : Int32)), (.int (4 : Int32))])) _
      refine XS.icmpYes X198.here hx rfl (pc0 := 165) (pc' := 175) rfl (hb hby at_165) rfl (flt (by decide : ¬ ((4 : Int32) < (4 : Int32)))).2.2.2 (by decide) (by decide) ?_
      show Steps p.tables e below (T198.setTop (mkF m 175 #[iv u0, iv u1, iv u2, iv (4 : Int32), iv (u1 &&& (2147483647 : Int32)), rv sv1, rv sv3, rv sv6, rv b10, rv ev21, rv ev28, rv ev38, rv ev51, .unset] [])) _
      refine XS.iloadN X198.here hx rfl (hb hby at_175) rfl ?_
      show Steps p.tables e below (T198.setTop (mkF m 176 #[iv u0, iv u1, iv u2, iv (4 : Int32), iv (u1 &&& (2147483647 : Int32)), rv sv1, rv sv3, rv sv6, rv b10, rv ev21, rv ev28, rv ev38, rv ev51, .unset] [(.int (4 : Int32))])) _
      refine XS.iconst X198.here hx rfl (hb hby at_176) ?_
      show Steps p.tables e below (T198.setTop (mkF m 177 #[iv u0, iv u1, iv u2, iv (4 : Int32), iv (u1 &&& (2147483647 : Int32)), rv sv1, rv sv3, rv sv6, rv b10, rv ev21, rv ev28, rv ev38, rv ev51, .unset] [(.int (5 : Int32)), (.int (4 : Int32))])) _
      refine XS.icmpYes X198.here hx rfl (pc0 := 177) (pc' := 187) rfl (hb hby at_177) rfl (flt (by decide : ¬ ((5 : Int32) < (4 : Int32)))).2.2.2 (by decide) (by decide) ?_
      show Steps p.tables e below (T198.setTop (mkF m 187 #[iv u0, iv u1, iv u2, iv (4 : Int32), iv (u1 &&& (2147483647 : Int32)), rv sv1, rv sv3, rv sv6, rv b10, rv ev21, rv ev28, rv ev38, rv ev51, .unset] [])) _
      refine XS.iloadN X198.here hx rfl (hb hby at_187) rfl ?_
      show Steps p.tables e below (T198.setTop (mkF m 188 #[iv u0, iv u1, iv u2, iv (4 : Int32), iv (u1 &&& (2147483647 : Int32)), rv sv1, rv sv3, rv sv6, rv b10, rv ev21, rv ev28, rv ev38, rv ev51, .unset] [(.int (4 : Int32))])) _
      refine XS.bipush X198.here hx rfl (hb hby at_188) ?_
      show Steps p.tables e below (T198.setTop (mkF m 190 #[iv u0, iv u1, iv u2, iv (4 : Int32), iv (u1 &&& (2147483647 : Int32)), rv sv1, rv sv3, rv sv6, rv b10, rv ev21, rv ev28, rv ev38, rv ev51, .unset] [(.int (6 : Int32)), (.int (4 : Int32))])) _
      refine XS.icmpYes X198.here hx rfl (pc0 := 190) (pc' := 200) rfl (hb hby at_190) rfl (flt (by decide : ¬ ((6 : Int32) < (4 : Int32)))).2.2.2 (by decide) (by decide) ?_
      show Steps p.tables e below (T198.setTop (mkF m 200 #[iv u0, iv u1, iv u2, iv (4 : Int32), iv (u1 &&& (2147483647 : Int32)), rv sv1, rv sv3, rv sv6, rv b10, rv ev21, rv ev28, rv ev38, rv ev51, .unset] [])) _
      refine XS.iloadN X198.here hx rfl (hb hby at_200) rfl ?_
      show Steps p.tables e below (T198.setTop (mkF m 201 #[iv u0, iv u1, iv u2, iv (4 : Int32), iv (u1 &&& (2147483647 : Int32)), rv sv1, rv sv3, rv sv6, rv b10, rv ev21, rv ev28, rv ev38, rv ev51, .unset] [(.int (4 : Int32))])) _
      refine XS.bipush X198.here hx rfl (hb hby at_201) ?_
      show Steps p.tables e below (T198.setTop (mkF m 203 #[iv u0, iv u1, iv u2, iv (4 : Int32), iv (u1 &&& (2147483647 : Int32)), rv sv1, rv sv3, rv sv6, rv b10, rv ev21, rv ev28, rv ev38, rv ev51, .unset] [(.int (7 : Int32)), (.int (4 : Int32))])) _
      refine XS.icmpYes X198.here hx rfl (pc0 := 203) (pc' := 213) rfl (hb hby at_203) rfl (flt (by decide : ¬ ((7 : Int32) < (4 : Int32)))).2.2.2 (by decide) (by decide) ?_
      show Steps p.tables e below (T198.setTop (mkF m 213 #[iv u0, iv u1, iv u2, iv (4 : Int32), iv (u1 &&& (2147483647 : Int32)), rv sv1, rv sv3, rv sv6, rv b10, rv ev21, rv ev28, rv ev38, rv ev51, .unset] [])) _
      refine XS.iloadN X198.here hx rfl (hb hby at_213) rfl ?_
      show Steps p.tables e below (T198.setTop (mkF m 214 #[iv u0, iv u1, iv u2, iv (4 : Int32), iv (u1 &&& (2147483647 : Int32)), rv sv1, rv sv3, rv sv6, rv b10, rv ev21, rv ev28, rv ev38, rv ev51, .unset] [(.int (4 : Int32))])) _
      refine XS.iconst X198.here hx rfl (hb hby at_214) ?_
      show Steps p.tables e below (T198.setTop (mkF m 215 #[iv u0, iv u1, iv u2, iv (4 : Int32), iv (u1 &&& (2147483647 : Int32)), rv sv1, rv sv3, rv sv6, rv b10, rv ev21, rv ev28, rv ev38, rv ev51, .unset] [(.int (4 : Int32)), (.int (4 : Int32))])) _
      refine XS.icmpYes X198.here hx rfl (pc0 := 215) (pc' := 224) rfl (hb hby at_215) rfl (flt (by decide : ¬ ((4 : Int32) < (4 : Int32)))).2.1 (by decide) (by decide) ?_
      show Steps p.tables e below (T198.setTop (mkF m 224 #[iv u0, iv u1, iv u2, iv (4 : Int32), iv (u1 &&& (2147483647 : Int32)), rv sv1, rv sv3, rv sv6, rv b10, rv ev21, rv ev28, rv ev38, rv ev51, .unset] [])) _
      refine XS.iloadN X198.here hx rfl (hb hby at_224) rfl ?_
      show Steps p.tables e below (T198.setTop (mkF m 225 #[iv u0, iv u1, iv u2, iv (4 : Int32), iv (u1 &&& (2147483647 : Int32)), rv sv1, rv sv3, rv sv6, rv b10, rv ev21, rv ev28, rv ev38, rv ev51, .unset] [(.int (4 : Int32))])) _
      refine XS.bipush X198.here hx rfl (hb hby at_225) ?_
      show Steps p.tables e below (T198.setTop (mkF m 227 #[iv u0, iv u1, iv u2, iv (4 : Int32), iv (u1 &&& (2147483647 : Int32)), rv sv1, rv sv3, rv sv6, rv b10, rv ev21, rv ev28, rv ev38, rv ev51, .unset] [(.int (8 : Int32)), (.int (4 : Int32))])) _
      refine XS.icmpNo X198.here hx rfl (hb hby at_227) rfl (tlt (by decide : (4 : Int32) < (8 : Int32))).2.1 ?_
      show Steps p.tables e below (T198.setTop (mkF m 230 #[iv u0, iv u1, iv u2, iv (4 : Int32), iv (u1 &&& (2147483647 : Int32)), rv sv1, rv sv3, rv sv6, rv b10, rv ev21, rv ev28, rv ev38, rv ev51, .unset] [])) _
      refine XS.iconst X198.here hx rfl (hb hby at_230) ?_
      show Steps p.tables e below (T198.setTop (mkF m 231 #[iv u0, iv u1, iv u2, iv (4 : Int32), iv (u1 &&& (2147483647 : Int32)), rv sv1, rv sv3, rv sv6, rv b10, rv ev21, rv ev28, rv ev38, rv ev51, .unset] [(.int (2 : Int32))])) _
      refine XS.istore X198.here hx rfl (hb hby at_231) rfl (l' := #[iv u0, iv u1, iv u2, iv (4 : Int32), iv (u1 &&& (2147483647 : Int32)), rv sv1, rv sv3, rv sv6, rv b10, rv ev21, rv ev28, rv ev38, rv ev51, iv (2 : Int32)]) rfl ?_
      show Steps p.tables e below (T198.setTop (mkF m 233 #[iv u0, iv u1, iv u2, iv (4 : Int32), iv (u1 &&& (2147483647 : Int32)), rv sv1, rv sv3, rv sv6, rv b10, rv ev21, rv ev28, rv ev38, rv ev51, iv (2 : Int32)] [])) _
      refine XS.goto X198.here hx rfl (pc0 := 233) (pc' := 239) rfl (hb hby at_233) (by decide) (by decide) ?_
      show Steps p.tables e below (T198.setTop (mkF m 239 #[iv u0, iv u1, iv u2, iv (4 : Int32), iv (u1 &&& (2147483647 : Int32)), rv sv1, rv sv3, rv sv6, rv b10, rv ev21, rv ev28, rv ev38, rv ev51, iv (2 : Int32)] [])) _
      refine XS.aload X198.here hx rfl (hb hby at_239) rfl rfl ?_
      show Steps p.tables e below (T198.setTop (mkF m 241 #[iv u0, iv u1, iv u2, iv (4 : Int32), iv (u1 &&& (2147483647 : Int32)), rv sv1, rv sv3, rv sv6, rv b10, rv ev21, rv ev28, rv ev38, rv ev51, iv (2 : Int32)] [(.ref b10)])) _
      refine st212.trans ?_
      show Steps p.tables e below (T212.setTop (mkF m 244 #[iv u0, iv u1, iv u2, iv (4 : Int32), iv (u1 &&& (2147483647 : Int32)), rv sv1, rv sv3, rv sv6, rv b10, rv ev21, rv ev28, rv ev38, rv ev51, iv (2 : Int32)] [(.int (2 : Int32))])) _
      refine XS.iload X212.here hx rfl (hb hby at_244) rfl ?_
      show Steps p.tables e below (T212.setTop (mkF m 246 #[iv u0, iv u1, iv u2, iv (4 : Int32), iv (u1 &&& (2147483647 : Int32)), rv sv1, rv sv3, rv sv6, rv b10, rv ev21, rv ev28, rv ev38, rv ev51, iv (2 : Int32)] [(.int (2 : Int32)), (.int (2 : Int32))])) _
      refine XS.icmpNo X212.here hx rfl (hb hby at_246) rfl (teq (by decide : (2 : Int32) = (2 : Int32))).2 ?_
      show Steps p.tables e below (T212.setTop (mkF m 249 #[iv u0, iv u1, iv u2, iv (4 : Int32), iv (u1 &&& (2147483647 : Int32)), rv sv1, rv sv3, rv sv6, rv b10, rv ev21, rv ev28, rv ev38, rv ev51, iv (2 : Int32)] [])) _
      refine XS.iconst X212.here hx rfl (hb hby at_249) ?_
      show Steps p.tables e below (T212.setTop (mkF m 250 #[iv u0, iv u1, iv u2, iv (4 : Int32), iv (u1 &&& (2147483647 : Int32)), rv sv1, rv sv3, rv sv6, rv b10, rv ev21, rv ev28, rv ev38, rv ev51, iv (2 : Int32)] [(.int (1 : Int32))])) _
      refine XS.goto X212.here hx rfl (pc0 := 250) (pc' := 254) rfl (hb hby at_250) (by decide) (by decide) ?_
      show Steps p.tables e below (T212.setTop (mkF m 254 #[iv u0, iv u1, iv u2, iv (4 : Int32), iv (u1 &&& (2147483647 : Int32)), rv sv1, rv sv3, rv sv6, rv b10, rv ev21, rv ev28, rv ev38, rv ev51, iv (2 : Int32)] [(.int (1 : Int32))])) _
      exact retN X212 hx (t := .boolean) Bd.returns (by simp) (hb hby at_254) hr
    · show Q0 Z u0 u1 u2 t0 t1 t2 t3 d0 d1 d2 d3 oa oc G1 h0 n0 _ T212.heap _
      rw [eq212]
      exact ⟨rfl, N212⟩
  · skip
    rw [hn_] at S67
    obtain ⟨cq213, kq213, q213a, q213b, q213c⟩ := isOf hZ rfl f56
    obtain ⟨_, _, ⟨T213, L213, k213, n213⟩, -, X213, ⟨Lc213, hQ213, l213, y213, z213⟩, st213⟩ := X51.virtualBack hx (y := (⟨"com/example/reroutine/reroutine/replanning/ExecutedDay", "add", "(Lcom/example/reroutine/reroutine/scenario/Event;)V"⟩ : MethodName)) (z := (⟨"com/example/reroutine/reroutine/replanning/ExecutedDay", "add", "(Lcom/example/reroutine/reroutine/scenario/Event;)V"⟩ : MethodName)) hown (mvT hZ (hw _ (List.mem_of_getElem? (i := 104) rfl))) (mvT hZ (hw _ (List.mem_of_getElem? (i := 105) rfl))) (notFace_of_selects (args := #[]) (mvT hZ (hw _ (List.mem_of_getElem? (i := 107) rfl)))) (mvT hZ (hw _ (List.mem_of_getElem? (i := 107) rfl))) (mvT hZ (hw _ (List.mem_of_getElem? (i := 106) rfl))) (by decide) (backOf (W := 0) (rmAdd0 l Z a0 hw [] b10 ev21 t0 t1 t2 t3 d0 d1 d2 d3 oa oc (u1 &&& (2147483647 : Int32)) T51.heap n0 Z51 Od52 hst f66 ge_b10 ne_b10_ev21 f57 f58 f59) hZ (hw _ (List.mem_of_getElem? (i := 108) rfl)) (hw _ (List.mem_of_getElem? (i := 29) rfl)) (by decide) (by decide)) q213a q213c (g := (mkF m 124 #[iv u0, iv u1, iv u2, iv (5 : Int32), iv (u1 &&& (2147483647 : Int32)), rv sv1, rv sv3, rv sv6, rv b10, rv ev21, rv ev28, rv ev38, rv ev51, .unset] [(.ref ev21), (.ref b10)])) rfl (by rw [hml]; rfl) (Steps.refl _) (argsL := [(.ref ev21)]) (rest := []) (lenOf pd_14 rfl) rfl (by show 2 * 0 + _ ≤ _; exact Nat.le_of_eq rfl) (hb hby at_124) (fun _ _ => ⟨rfl, rfl, (by decide : 12 + 0 ≤ _), (by decide : 42 + 0 ≤ _)⟩)
    dsimp only [Pt.U, Pt.locs, Pt.cells, Pt.slots] at X213 l213 y213 z213 st213 hQ213
    subst y213 z213
    obtain ⟨rfl, Nq213, Kx213, Bq213⟩ := hQ213
    have N213 : Fr n0 L213 := by rw [l213]; exact Fr.app N51 Nq213
    obtain ⟨ar213, cl213, ty213, Kq213, gar213, Arq213⟩ := Kx213
    have Z213 : n0 ≤ T213.heap.size := Nat.le_trans Z51 Kq213.1
    have f214 := f58.keep Kq213 (ninS (Ne.symm ne_b10_ev21) (ninS (ne_arr f57 (hw _ (List.mem_of_getElem? (i := 51) rfl)) Arq213) nin0))
    have f215 := f59.keep Kq213 (ninS (Ne.symm ne_b10_ev21) (ninS (ne_arr f57 (hw _ (List.mem_of_getElem? (i := 51) rfl)) Arq213) nin0))
    have f216 := f61.keep Kq213 (ninS (Ne.symm ne_b10_ev28) (ninS (ne_arr f60 (hw _ (List.mem_of_getElem? (i := 51) rfl)) Arq213) nin0))
    have f217 := f62.keep Kq213 (ninS (Ne.symm ne_b10_ev28) (ninS (ne_arr f60 (hw _ (List.mem_of_getElem? (i := 51) rfl)) Arq213) nin0))
    have f218 := f64.keep Kq213 (ninS (Ne.symm ne_b10_ev38) (ninS (ne_arr f63 (hw _ (List.mem_of_getElem? (i := 51) rfl)) Arq213) nin0))
    have f219 := f65.keep Kq213 (ninS (Ne.symm ne_b10_ev38) (ninS (ne_arr f63 (hw _ (List.mem_of_getElem? (i := 51) rfl)) Arq213) nin0))
    have f220 := Fm51.keep Kq213 (ninS (Ne.symm ne_b10_ev51) (ninS (ne_arr Eq51 (hw _ (List.mem_of_getElem? (i := 51) rfl)) Arq213) nin0))
    have f221 := Ft51.keep Kq213 (ninS (Ne.symm ne_b10_ev51) (ninS (ne_arr Eq51 (hw _ (List.mem_of_getElem? (i := 51) rfl)) Arq213) nin0))
    have f222 := f56.keep Kq213
    have f223 := f57.keep Kq213
    have f224 := f60.keep Kq213
    have f225 := f63.keep Kq213
    have f226 := Eq51.keep Kq213
    have Od213 := Od52.keep Kq213 (allS ge_b10 (allS gar213 all0))
    obtain ⟨cq227, kq227, q227a, q227b, q227c⟩ := isOf hZ rfl f222
    obtain ⟨_, _, ⟨T227, L227, k227, n227⟩, -, X227, ⟨Lc227, hQ227, l227, y227, z227⟩, st227⟩ := X213.virtualBack hx (y := (⟨"com/example/reroutine/reroutine/replanning/ExecutedDay", "add", "(Lcom/example/reroutine/reroutine/scenario/Event;)V"⟩ : MethodName)) (z := (⟨"com/example/reroutine/reroutine/replanning/ExecutedDay", "add", "(Lcom/example/reroutine/reroutine/scenario/Event;)V"⟩ : MethodName)) hown (mvT hZ (hw _ (List.mem_of_getElem? (i := 104) rfl))) (mvT hZ (hw _ (List.mem_of_getElem? (i := 105) rfl))) (notFace_of_selects (args := #[]) (mvT hZ (hw _ (List.mem_of_getElem? (i := 107) rfl)))) (mvT hZ (hw _ (List.mem_of_getElem? (i := 107) rfl))) (mvT hZ (hw _ (List.mem_of_getElem? (i := 106) rfl))) (by decide) (backOf (W := 0) (rmAdd1 l Z a0 hw [] b10 ev28 t0 t1 t2 t3 d0 d1 d2 d3 oa oc (u1 &&& (2147483647 : Int32)) T213.heap n0 Z213 Od213 hst Bq213 ge_b10 ne_b10_ev28 f224 f216 f217) hZ (hw _ (List.mem_of_getElem? (i := 108) rfl)) (hw _ (List.mem_of_getElem? (i := 29) rfl)) (by decide) (by decide)) q227a q227c (g := (mkF m 136 #[iv u0, iv u1, iv u2, iv (5 : Int32), iv (u1 &&& (2147483647 : Int32)), rv sv1, rv sv3, rv sv6, rv b10, rv ev21, rv ev28, rv ev38, rv ev51, .unset] [(.ref ev28), (.ref b10)])) rfl (by rw [hml]; rfl) (Steps.refl _) (argsL := [(.ref ev28)]) (rest := []) (lenOf pd_14 rfl) rfl (by show 2 * 0 + _ ≤ _; exact Nat.le_of_eq rfl) (hb hby at_136) (fun _ _ => ⟨rfl, rfl, (by decide : 12 + 0 ≤ _), (by decide : 42 + 0 ≤ _)⟩)
    dsimp only [Pt.U, Pt.locs, Pt.cells, Pt.slots] at X227 l227 y227 z227 st227 hQ227
    subst y227 z227
    obtain ⟨rfl, Nq227, Kx227, Bq227⟩ := hQ227
    have N227 : Fr n0 L227 := by rw [l227]; exact Fr.app N213 Nq227
    obtain ⟨ar227, cl227, ty227, Kq227, gar227, Arq227⟩ := Kx227
    have Z227 : n0 ≤ T227.heap.size := Nat.le_trans Z213 Kq227.1
    have f228 := f214.keep Kq227 (ninS (Ne.symm ne_b10_ev21) (ninS (ne_arr f223 (hw _ (List.mem_of_getElem? (i := 51) rfl)) Arq227) nin0))
    have f229 := f215.keep Kq227 (ninS (Ne.symm ne_b10_ev21) (ninS (ne_arr f223 (hw _ (List.mem_of_getElem? (i := 51) rfl)) Arq227) nin0))
    have f230 := f216.keep Kq227 (ninS (Ne.symm ne_b10_ev28) (ninS (ne_arr f224 (hw _ (List.mem_of_getElem? (i := 51) rfl)) Arq227) nin0))
    have f231 := f217.keep Kq227 (ninS (Ne.symm ne_b10_ev28) (ninS (ne_arr f224 (hw _ (List.mem_of_getElem? (i := 51) rfl)) Arq227) nin0))
    have f232 := f218.keep Kq227 (ninS (Ne.symm ne_b10_ev38) (ninS (ne_arr f225 (hw _ (List.mem_of_getElem? (i := 51) rfl)) Arq227) nin0))
    have f233 := f219.keep Kq227 (ninS (Ne.symm ne_b10_ev38) (ninS (ne_arr f225 (hw _ (List.mem_of_getElem? (i := 51) rfl)) Arq227) nin0))
    have f234 := f220.keep Kq227 (ninS (Ne.symm ne_b10_ev51) (ninS (ne_arr f226 (hw _ (List.mem_of_getElem? (i := 51) rfl)) Arq227) nin0))
    have f235 := f221.keep Kq227 (ninS (Ne.symm ne_b10_ev51) (ninS (ne_arr f226 (hw _ (List.mem_of_getElem? (i := 51) rfl)) Arq227) nin0))
    have f236 := f222.keep Kq227
    have f237 := f223.keep Kq227
    have f238 := f224.keep Kq227
    have f239 := f225.keep Kq227
    have f240 := f226.keep Kq227
    have Od227 := Od213.keep Kq227 (allS ge_b10 (allS gar227 all0))
    obtain ⟨cq241, kq241, q241a, q241b, q241c⟩ := isOf hZ rfl f236
    obtain ⟨_, _, ⟨T241, L241, k241, n241⟩, -, X241, ⟨Lc241, hQ241, l241, y241, z241⟩, st241⟩ := X227.virtualBack hx (y := (⟨"com/example/reroutine/reroutine/replanning/ExecutedDay", "add", "(Lcom/example/reroutine/reroutine/scenario/Event;)V"⟩ : MethodName)) (z := (⟨"com/example/reroutine/reroutine/replanning/ExecutedDay", "add", "(Lcom/example/reroutine/reroutine/scenario/Event;)V"⟩ : MethodName)) hown (mvT hZ (hw _ (List.mem_of_getElem? (i := 104) rfl))) (mvT hZ (hw _ (List.mem_of_getElem? (i := 105) rfl))) (notFace_of_selects (args := #[]) (mvT hZ (hw _ (List.mem_of_getElem? (i := 107) rfl)))) (mvT hZ (hw _ (List.mem_of_getElem? (i := 107) rfl))) (mvT hZ (hw _ (List.mem_of_getElem? (i := 106) rfl))) (by decide) (backOf (W := 0) (rmAdd2 l Z a0 hw [] b10 ev38 t0 t1 t2 t3 d0 d1 d2 d3 oa oc (u1 &&& (2147483647 : Int32)) T227.heap n0 Z227 Od227 hst Bq227 ge_b10 ne_b10_ev38 f239 f232 f233) hZ (hw _ (List.mem_of_getElem? (i := 108) rfl)) (hw _ (List.mem_of_getElem? (i := 29) rfl)) (by decide) (by decide)) q241a q241c (g := (mkF m 148 #[iv u0, iv u1, iv u2, iv (5 : Int32), iv (u1 &&& (2147483647 : Int32)), rv sv1, rv sv3, rv sv6, rv b10, rv ev21, rv ev28, rv ev38, rv ev51, .unset] [(.ref ev38), (.ref b10)])) rfl (by rw [hml]; rfl) (Steps.refl _) (argsL := [(.ref ev38)]) (rest := []) (lenOf pd_14 rfl) rfl (by show 2 * 0 + _ ≤ _; exact Nat.le_of_eq rfl) (hb hby at_148) (fun _ _ => ⟨rfl, rfl, (by decide : 12 + 0 ≤ _), (by decide : 42 + 0 ≤ _)⟩)
    dsimp only [Pt.U, Pt.locs, Pt.cells, Pt.slots] at X241 l241 y241 z241 st241 hQ241
    subst y241 z241
    obtain ⟨rfl, Nq241, Kx241, Bq241⟩ := hQ241
    have N241 : Fr n0 L241 := by rw [l241]; exact Fr.app N227 Nq241
    obtain ⟨ar241, cl241, ty241, Kq241, gar241, Arq241⟩ := Kx241
    have Z241 : n0 ≤ T241.heap.size := Nat.le_trans Z227 Kq241.1
    have f242 := f228.keep Kq241 (ninS (Ne.symm ne_b10_ev21) (ninS (ne_arr f237 (hw _ (List.mem_of_getElem? (i := 51) rfl)) Arq241) nin0))
    have f243 := f229.keep Kq241 (ninS (Ne.symm ne_b10_ev21) (ninS (ne_arr f237 (hw _ (List.mem_of_getElem? (i := 51) rfl)) Arq241) nin0))
    have f244 := f230.keep Kq241 (ninS (Ne.symm ne_b10_ev28) (ninS (ne_arr f238 (hw _ (List.mem_of_getElem? (i := 51) rfl)) Arq241) nin0))
    have f245 := f231.keep Kq241 (ninS (Ne.symm ne_b10_ev28) (ninS (ne_arr f238 (hw _ (List.mem_of_getElem? (i := 51) rfl)) Arq241) nin0))
    have f246 := f232.keep Kq241 (ninS (Ne.symm ne_b10_ev38) (ninS (ne_arr f239 (hw _ (List.mem_of_getElem? (i := 51) rfl)) Arq241) nin0))
    have f247 := f233.keep Kq241 (ninS (Ne.symm ne_b10_ev38) (ninS (ne_arr f239 (hw _ (List.mem_of_getElem? (i := 51) rfl)) Arq241) nin0))
    have f248 := f234.keep Kq241 (ninS (Ne.symm ne_b10_ev51) (ninS (ne_arr f240 (hw _ (List.mem_of_getElem? (i := 51) rfl)) Arq241) nin0))
    have f249 := f235.keep Kq241 (ninS (Ne.symm ne_b10_ev51) (ninS (ne_arr f240 (hw _ (List.mem_of_getElem? (i := 51) rfl)) Arq241) nin0))
    have f250 := f236.keep Kq241
    have f251 := f237.keep Kq241
    have f252 := f238.keep Kq241
    have f253 := f239.keep Kq241
    have f254 := f240.keep Kq241
    have Od241 := Od227.keep Kq241 (allS ge_b10 (allS gar241 all0))
    obtain ⟨cq255, kq255, q255a, q255b, q255c⟩ := isOf hZ rfl f250
    obtain ⟨_, _, ⟨T255, L255, k255, n255⟩, -, X255, ⟨Lc255, hQ255, l255, y255, z255⟩, st255⟩ := X241.virtualBack hx (y := (⟨"com/example/reroutine/reroutine/replanning/ExecutedDay", "add", "(Lcom/example/reroutine/reroutine/scenario/Event;)V"⟩ : MethodName)) (z := (⟨"com/example/reroutine/reroutine/replanning/ExecutedDay", "add", "(Lcom/example/reroutine/reroutine/scenario/Event;)V"⟩ : MethodName)) hown (mvT hZ (hw _ (List.mem_of_getElem? (i := 104) rfl))) (mvT hZ (hw _ (List.mem_of_getElem? (i := 105) rfl))) (notFace_of_selects (args := #[]) (mvT hZ (hw _ (List.mem_of_getElem? (i := 107) rfl)))) (mvT hZ (hw _ (List.mem_of_getElem? (i := 107) rfl))) (mvT hZ (hw _ (List.mem_of_getElem? (i := 106) rfl))) (by decide) (backOf (W := 0) (rmAdd3 l Z a0 hw [] b10 ev51 t0 t1 t2 t3 d0 d1 d2 d3 oa oc (u1 &&& (2147483647 : Int32)) T241.heap n0 Z241 Od241 hst Bq241 ge_b10 ne_b10_ev51 f254 f248 f249) hZ (hw _ (List.mem_of_getElem? (i := 108) rfl)) (hw _ (List.mem_of_getElem? (i := 29) rfl)) (by decide) (by decide)) q255a q255c (g := (mkF m 160 #[iv u0, iv u1, iv u2, iv (5 : Int32), iv (u1 &&& (2147483647 : Int32)), rv sv1, rv sv3, rv sv6, rv b10, rv ev21, rv ev28, rv ev38, rv ev51, .unset] [(.ref ev51), (.ref b10)])) rfl (by rw [hml]; rfl) (Steps.refl _) (argsL := [(.ref ev51)]) (rest := []) (lenOf pd_14 rfl) rfl (by show 2 * 0 + _ ≤ _; exact Nat.le_of_eq rfl) (hb hby at_160) (fun _ _ => ⟨rfl, rfl, (by decide : 12 + 0 ≤ _), (by decide : 42 + 0 ≤ _)⟩)
    dsimp only [Pt.U, Pt.locs, Pt.cells, Pt.slots] at X255 l255 y255 z255 st255 hQ255
    subst y255 z255
    obtain ⟨rfl, Nq255, Kx255, Bq255⟩ := hQ255
    have N255 : Fr n0 L255 := by rw [l255]; exact Fr.app N241 Nq255
    obtain ⟨ar255, cl255, ty255, Kq255, gar255, Arq255⟩ := Kx255
    have Z255 : n0 ≤ T255.heap.size := Nat.le_trans Z241 Kq255.1
    have f256 := f242.keep Kq255 (ninS (Ne.symm ne_b10_ev21) (ninS (ne_arr f251 (hw _ (List.mem_of_getElem? (i := 51) rfl)) Arq255) nin0))
    have f257 := f243.keep Kq255 (ninS (Ne.symm ne_b10_ev21) (ninS (ne_arr f251 (hw _ (List.mem_of_getElem? (i := 51) rfl)) Arq255) nin0))
    have f258 := f244.keep Kq255 (ninS (Ne.symm ne_b10_ev28) (ninS (ne_arr f252 (hw _ (List.mem_of_getElem? (i := 51) rfl)) Arq255) nin0))
    have f259 := f245.keep Kq255 (ninS (Ne.symm ne_b10_ev28) (ninS (ne_arr f252 (hw _ (List.mem_of_getElem? (i := 51) rfl)) Arq255) nin0))
    have f260 := f246.keep Kq255 (ninS (Ne.symm ne_b10_ev38) (ninS (ne_arr f253 (hw _ (List.mem_of_getElem? (i := 51) rfl)) Arq255) nin0))
    have f261 := f247.keep Kq255 (ninS (Ne.symm ne_b10_ev38) (ninS (ne_arr f253 (hw _ (List.mem_of_getElem? (i := 51) rfl)) Arq255) nin0))
    have f262 := f248.keep Kq255 (ninS (Ne.symm ne_b10_ev51) (ninS (ne_arr f254 (hw _ (List.mem_of_getElem? (i := 51) rfl)) Arq255) nin0))
    have f263 := f249.keep Kq255 (ninS (Ne.symm ne_b10_ev51) (ninS (ne_arr f254 (hw _ (List.mem_of_getElem? (i := 51) rfl)) Arq255) nin0))
    have f264 := f250.keep Kq255
    have f265 := f251.keep Kq255
    have f266 := f252.keep Kq255
    have f267 := f253.keep Kq255
    have f268 := f254.keep Kq255
    have Od255 := Od241.keep Kq255 (allS ge_b10 (allS gar255 all0))
    obtain ⟨cq269, kq269, q269a, q269b, q269c⟩ := isOf hZ rfl f264
    obtain ⟨_, _, ⟨T269, L269, k269, n269⟩, -, X269, ⟨Lc269, hQ269, l269, y269, z269⟩, st269⟩ := X255.virtualBack hx (y := (⟨"com/example/reroutine/reroutine/replanning/ExecutedDay", "add", "(Lcom/example/reroutine/reroutine/scenario/Event;)V"⟩ : MethodName)) (z := (⟨"com/example/reroutine/reroutine/replanning/ExecutedDay", "add", "(Lcom/example/reroutine/reroutine/scenario/Event;)V"⟩ : MethodName)) hown (mvT hZ (hw _ (List.mem_of_getElem? (i := 104) rfl))) (mvT hZ (hw _ (List.mem_of_getElem? (i := 105) rfl))) (notFace_of_selects (args := #[]) (mvT hZ (hw _ (List.mem_of_getElem? (i := 107) rfl)))) (mvT hZ (hw _ (List.mem_of_getElem? (i := 107) rfl))) (mvT hZ (hw _ (List.mem_of_getElem? (i := 106) rfl))) (by decide) (backOf (W := 0) (rmAdd4 l Z a0 hw [] b10 ev21 t0 t1 t2 t3 d0 d1 d2 d3 oa oc (u1 &&& (2147483647 : Int32)) T255.heap n0 Z255 Od255 hst Bq255 ge_b10 ne_b10_ev21 f265 f256 f257) hZ (hw _ (List.mem_of_getElem? (i := 108) rfl)) (hw _ (List.mem_of_getElem? (i := 29) rfl)) (by decide) (by decide)) q269a q269c (g := (mkF m 172 #[iv u0, iv u1, iv u2, iv (5 : Int32), iv (u1 &&& (2147483647 : Int32)), rv sv1, rv sv3, rv sv6, rv b10, rv ev21, rv ev28, rv ev38, rv ev51, .unset] [(.ref ev21), (.ref b10)])) rfl (by rw [hml]; rfl) (Steps.refl _) (argsL := [(.ref ev21)]) (rest := []) (lenOf pd_14 rfl) rfl (by show 2 * 0 + _ ≤ _; exact Nat.le_of_eq rfl) (hb hby at_172) (fun _ _ => ⟨rfl, rfl, (by decide : 12 + 1 ≤ _), (by decide : 42 + 8 ≤ _)⟩)
    dsimp only [Pt.U, Pt.locs, Pt.cells, Pt.slots] at X269 l269 y269 z269 st269 hQ269
    subst y269 z269
    obtain ⟨rfl, Nq269, Kx269, Bq269⟩ := hQ269
    have N269 : Fr n0 L269 := by rw [l269]; exact Fr.app N255 Nq269
    obtain ⟨ar269, cl269, ty269, Kq269, gar269, Arq269⟩ := Kx269
    have Z269 : n0 ≤ T269.heap.size := Nat.le_trans Z255 Kq269.1
    have f270 := f256.keep Kq269 (ninS (Ne.symm ne_b10_ev21) (ninS (ne_arr f265 (hw _ (List.mem_of_getElem? (i := 51) rfl)) Arq269) nin0))
    have f271 := f257.keep Kq269 (ninS (Ne.symm ne_b10_ev21) (ninS (ne_arr f265 (hw _ (List.mem_of_getElem? (i := 51) rfl)) Arq269) nin0))
    have f272 := f258.keep Kq269 (ninS (Ne.symm ne_b10_ev28) (ninS (ne_arr f266 (hw _ (List.mem_of_getElem? (i := 51) rfl)) Arq269) nin0))
    have f273 := f259.keep Kq269 (ninS (Ne.symm ne_b10_ev28) (ninS (ne_arr f266 (hw _ (List.mem_of_getElem? (i := 51) rfl)) Arq269) nin0))
    have f274 := f260.keep Kq269 (ninS (Ne.symm ne_b10_ev38) (ninS (ne_arr f267 (hw _ (List.mem_of_getElem? (i := 51) rfl)) Arq269) nin0))
    have f275 := f261.keep Kq269 (ninS (Ne.symm ne_b10_ev38) (ninS (ne_arr f267 (hw _ (List.mem_of_getElem? (i := 51) rfl)) Arq269) nin0))
    have f276 := f262.keep Kq269 (ninS (Ne.symm ne_b10_ev51) (ninS (ne_arr f268 (hw _ (List.mem_of_getElem? (i := 51) rfl)) Arq269) nin0))
    have f277 := f263.keep Kq269 (ninS (Ne.symm ne_b10_ev51) (ninS (ne_arr f268 (hw _ (List.mem_of_getElem? (i := 51) rfl)) Arq269) nin0))
    have f278 := f264.keep Kq269
    have f279 := f265.keep Kq269
    have f280 := f266.keep Kq269
    have f281 := f267.keep Kq269
    have f282 := f268.keep Kq269
    have Od269 := Od255.keep Kq269 (allS ge_b10 (allS gar269 all0))
    obtain ⟨cq283, kq283, q283a, q283b, q283c⟩ := isOf hZ rfl f278
    obtain ⟨_, _, ⟨T283, L283, k283, n283⟩, -, X283, ⟨Lc283, hQ283, l283, y283, z283⟩, st283⟩ := X269.virtualBack hx (y := (⟨"com/example/reroutine/reroutine/replanning/ExecutedDay", "activitiesReached", "()I"⟩ : MethodName)) (z := (⟨"com/example/reroutine/reroutine/replanning/ExecutedDay", "activitiesReached", "()I"⟩ : MethodName)) hown (mvT hZ (hw _ (List.mem_of_getElem? (i := 97) rfl))) (mvT hZ (hw _ (List.mem_of_getElem? (i := 98) rfl))) (notFace_of_selects (args := #[]) (mvT hZ (hw _ (List.mem_of_getElem? (i := 100) rfl)))) (mvT hZ (hw _ (List.mem_of_getElem? (i := 100) rfl))) (mvT hZ (hw _ (List.mem_of_getElem? (i := 99) rfl))) (by decide) (backOf (W := 0) (rmQ5 l Z a0 hw [] b10 t0 t1 t2 t3 d0 d1 d2 d3 oa oc T269.heap n0 Z269 Od269 hst Bq269.2.1) hZ (hw _ (List.mem_of_getElem? (i := 101) rfl)) (hw _ (List.mem_of_getElem? (i := 29) rfl)) (by decide) (by decide)) q283a q283c (g := (mkF m 241 #[iv u0, iv u1, iv u2, iv (5 : Int32), iv (u1 &&& (2147483647 : Int32)), rv sv1, rv sv3, rv sv6, rv b10, rv ev21, rv ev28, rv ev38, rv ev51, iv (2 : Int32)] [(.ref b10)])) rfl (by rw [hml]; rfl) (Steps.refl _) (argsL := []) (rest := []) (lenOf pd_9 rfl) rfl (by show 2 * 0 + _ ≤ _; exact Nat.le_of_eq rfl) (hb hby at_241) (fun _ _ => ⟨rfl, rfl, (by decide : 13 + 0 ≤ _), (by decide : 50 + 0 ≤ _)⟩)
    dsimp only [Pt.U, Pt.locs, Pt.cells, Pt.slots] at X283 l283 y283 z283 st283 hQ283
    subst y283 z283
    obtain ⟨rfl, Nq283, eq283⟩ := hQ283
    have N283 : Fr n0 L283 := by rw [l283]; exact Fr.app N269 Nq283
    obtain ⟨fs, hr, hrun, hended, hW, hsame⟩ := X283.leave (v := some (.int (1 : Int32))) (fun h => by rw [Bd.returns] at h; cases h)
    refine ⟨_, _, S67 _ ?_, hrun, hended, _, _, rfl, ?_, ⟨_, rfl⟩, hW, hsame.mono (by decide) (by decide)⟩
    · skip
      show Steps p.tables e below (T51.setTop (mkF m 117 #[iv u0, iv u1, iv u2, iv (5 : Int32), iv (u1 &&& (2147483647 : Int32)), rv sv1, rv sv3, rv sv6, rv b10, rv ev21, rv ev28, rv ev38, rv ev51, .unset] [(.int (5 : Int32))])) _
      refine XS.ifNo X51.here hx rfl (hb hby at_117) rfl ((if0 _ _).trans (tlt (by decide : (0 : Int32) < (5 : Int32))).2.2.2) ?_
      show Steps p.tables e below (T51.setTop (mkF m 120 #[iv u0, iv u1, iv u2, iv (5 : Int32), iv (u1 &&& (2147483647 : Int32)), rv sv1, rv sv3, rv sv6, rv b10, rv ev21, rv ev28, rv ev38, rv ev51, .unset] [])) _
      refine XS.aload X51.here hx rfl (hb hby at_120) rfl rfl ?_
      show Steps p.tables e below (T51.setTop (mkF m 122 #[iv u0, iv u1, iv u2, iv (5 : Int32), iv (u1 &&& (2147483647 : Int32)), rv sv1, rv sv3, rv sv6, rv b10, rv ev21, rv ev28, rv ev38, rv ev51, .unset] [(.ref b10)])) _
      refine XS.aload X51.here hx rfl (hb hby at_122) rfl rfl ?_
      show Steps p.tables e below (T51.setTop (mkF m 124 #[iv u0, iv u1, iv u2, iv (5 : Int32), iv (u1 &&& (2147483647 : Int32)), rv sv1, rv sv3, rv sv6, rv b10, rv ev21, rv ev28, rv ev38, rv ev51, .unset] [(.ref ev21), (.ref b10)])) _
      refine st213.trans ?_
      show Steps p.tables e below (T213.setTop (mkF m 127 #[iv u0, iv u1, iv u2, iv (5 : Int32), iv (u1 &&& (2147483647 : Int32)), rv sv1, rv sv3, rv sv6, rv b10, rv ev21, rv ev28, rv ev38, rv ev51, .unset] [])) _
      refine XS.iloadN X213.here hx rfl (hb hby at_127) rfl ?_
      show Steps p.tables e below (T213.setTop (mkF m 128 #[iv u0, iv u1, iv u2, iv (5 : Int32), iv (u1 &&& (2147483647 : Int32)), rv sv1, rv sv3, rv sv6, rv b10, rv ev21, rv ev28, rv ev38, rv ev51, .unset] [(.int (5 : Int32))])) _
      refine XS.iconst X213.here hx rfl (hb hby at_128) ?_
      show Steps p.tables e below (T213.setTop (mkF m 129 #[iv u0, iv u1, iv u2, iv (5 : Int32), iv (u1 &&& (2147483647 : Int32)), rv sv1, rv sv3, rv sv6, rv b10, rv ev21, rv ev28, rv ev38, rv ev51, .unset] [(.int (1 : Int32)), (.int (5 : Int32))])) _
      refine XS.icmpNo X213.here hx rfl (hb hby at_129) rfl (tlt (by decide : (1 : Int32) < (5 : Int32))).2.2.2 ?_
      show Steps p.tables e below (T213.setTop (mkF m 132 #[iv u0, iv u1, iv u2, iv (5 : Int32), iv (u1 &&& (2147483647 : Int32)), rv sv1, rv sv3, rv sv6, rv b10, rv ev21, rv ev28, rv ev38, rv ev51, .unset] [])) _
      refine XS.aload X213.here hx rfl (hb hby at_132) rfl rfl ?_
      show Steps p.tables e below (T213.setTop (mkF m 134 #[iv u0, iv u1, iv u2, iv (5 : Int32), iv (u1 &&& (2147483647 : Int32)), rv sv1, rv sv3, rv sv6, rv b10, rv ev21, rv ev28, rv ev38, rv ev51, .unset] [(.ref b10)])) _
      refine XS.aload X213.here hx rfl (hb hby at_134) rfl rfl ?_
      show Steps p.tables e below (T213.setTop (mkF m 136 #[iv u0, iv u1, iv u2, iv (5 : Int32), iv (u1 &&& (2147483647 : Int32)), rv sv1, rv sv3, rv sv6, rv b10, rv ev21, rv ev28, rv ev38, rv ev51, .unset] [(.ref ev28), (.ref b10)])) _
      refine st227.trans ?_
      show Steps p.tables e below (T227.setTop (mkF m 139 #[iv u0, iv u1, iv u2, iv (5 : Int32), iv (u1 &&& (2147483647 : Int32)), rv sv1, rv sv3, rv sv6, rv b10, rv ev21, rv ev28, rv ev38, rv ev51, .unset] [])) _
      refine XS.iloadN X227.here hx rfl (hb hby at_139) rfl ?_
      show Steps p.tables e below (T227.setTop (mkF m 140 #[iv u0, iv u1, iv u2, iv (5 : Int32), iv (u1 &&& (2147483647 : Int32)), rv sv1, rv sv3, rv sv6, rv b10, rv ev21, rv ev28, rv ev38, rv ev51, .unset] [(.int (5 : Int32))])) _
      refine XS.iconst X227.here hx rfl (hb hby at_140) ?_
      show Steps p.tables e below (T227.setTop (mkF m 141 #[iv u0, iv u1, iv u2, iv (5 : Int32), iv (u1 &&& (2147483647 : Int32)), rv sv1, rv sv3, rv sv6, rv b10, rv ev21, rv ev28, rv ev38, rv ev51, .unset] [(.int (2 : Int32)), (.int (5 : Int32))])) _
      refine XS.icmpNo X227.here hx rfl (hb hby at_141) rfl (tlt (by decide : (2 : Int32) < (5 : Int32))).2.2.2 ?_
      show Steps p.tables e below (T227.setTop (mkF m 144 #[iv u0, iv u1, iv u2, iv (5 : Int32), iv (u1 &&& (2147483647 : Int32)), rv sv1, rv sv3, rv sv6, rv b10, rv ev21, rv ev28, rv ev38, rv ev51, .unset] [])) _
      refine XS.aload X227.here hx rfl (hb hby at_144) rfl rfl ?_
      show Steps p.tables e below (T227.setTop (mkF m 146 #[iv u0, iv u1, iv u2, iv (5 : Int32), iv (u1 &&& (2147483647 : Int32)), rv sv1, rv sv3, rv sv6, rv b10, rv ev21, rv ev28, rv ev38, rv ev51, .unset] [(.ref b10)])) _
      refine XS.aload X227.here hx rfl (hb hby at_146) rfl rfl ?_
      show Steps p.tables e below (T227.setTop (mkF m 148 #[iv u0, iv u1, iv u2, iv (5 : Int32), iv (u1 &&& (2147483647 : Int32)), rv sv1, rv sv3, rv sv6, rv b10, rv ev21, rv ev28, rv ev38, rv ev51, .unset] [(.ref ev38), (.ref b10)])) _
      refine st241.trans ?_
      show Steps p.tables e below (T241.setTop (mkF m 151 #[iv u0, iv u1, iv u2, iv (5 : Int32), iv (u1 &&& (2147483647 : Int32)), rv sv1, rv sv3, rv sv6, rv b10, rv ev21, rv ev28, rv ev38, rv ev51, .unset] [])) _
      refine XS.iloadN X241.here hx rfl (hb hby at_151) rfl ?_
      show Steps p.tables e below (T241.setTop (mkF m 152 #[iv u0, iv u1, iv u2, iv (5 : Int32), iv (u1 &&& (2147483647 : Int32)), rv sv1, rv sv3, rv sv6, rv b10, rv ev21, rv ev28, rv ev38, rv ev51, .unset] [(.int (5 : Int32))])) _
      refine XS.iconst X241.here hx rfl (hb hby at_152) ?_
      show Steps p.tables e below (T241.setTop (mkF m 153 #[iv u0, iv u1, iv u2, iv (5 : Int32), iv (u1 &&& (2147483647 : Int32)), rv sv1, rv sv3, rv sv6, rv b10, rv ev21, rv ev28, rv ev38, rv ev51, .unset] [(.int (3 : Int32)), (.int (5 : Int32))])) _
      refine XS.icmpNo X241.here hx rfl (hb hby at_153) rfl (tlt (by decide : (3 : Int32) < (5 : Int32))).2.2.2 ?_
      show Steps p.tables e below (T241.setTop (mkF m 156 #[iv u0, iv u1, iv u2, iv (5 : Int32), iv (u1 &&& (2147483647 : Int32)), rv sv1, rv sv3, rv sv6, rv b10, rv ev21, rv ev28, rv ev38, rv ev51, .unset] [])) _
      refine XS.aload X241.here hx rfl (hb hby at_156) rfl rfl ?_
      show Steps p.tables e below (T241.setTop (mkF m 158 #[iv u0, iv u1, iv u2, iv (5 : Int32), iv (u1 &&& (2147483647 : Int32)), rv sv1, rv sv3, rv sv6, rv b10, rv ev21, rv ev28, rv ev38, rv ev51, .unset] [(.ref b10)])) _
      refine XS.aload X241.here hx rfl (hb hby at_158) rfl rfl ?_
      show Steps p.tables e below (T241.setTop (mkF m 160 #[iv u0, iv u1, iv u2, iv (5 : Int32), iv (u1 &&& (2147483647 : Int32)), rv sv1, rv sv3, rv sv6, rv b10, rv ev21, rv ev28, rv ev38, rv ev51, .unset] [(.ref ev51), (.ref b10)])) _
      refine st255.trans ?_
      show Steps p.tables e below (T255.setTop (mkF m 163 #[iv u0, iv u1, iv u2, iv (5 : Int32), iv (u1 &&& (2147483647 : Int32)), rv sv1, rv sv3, rv sv6, rv b10, rv ev21, rv ev28, rv ev38, rv ev51, .unset] [])) _
      refine XS.iloadN X255.here hx rfl (hb hby at_163) rfl ?_
      show Steps p.tables e below (T255.setTop (mkF m 164 #[iv u0, iv u1, iv u2, iv (5 : Int32), iv (u1 &&& (2147483647 : Int32)), rv sv1, rv sv3, rv sv6, rv b10, rv ev21, rv ev28, rv ev38, rv ev51, .unset] [(.int (5 : Int32))])) _
      refine XS.iconst X255.here hx rfl (hb hby at_164) ?_
      show Steps p.tables e below (T255.setTop (mkF m 165 #[iv u0, iv u1, iv u2, iv (5 : Int32), iv (u1 &&& (2147483647 : Int32)), rv sv1, rv sv3, rv sv6, rv b10, rv ev21, rv ev28, rv ev38, rv ev51, .unset] [(.int (4 : Int32)), (.int (5 : Int32))])) _
      refine XS.icmpNo X255.here hx rfl (hb hby at_165) rfl (tlt (by decide : (4 : Int32) < (5 : Int32))).2.2.2 ?_
      show Steps p.tables e below (T255.setTop (mkF m 168 #[iv u0, iv u1, iv u2, iv (5 : Int32), iv (u1 &&& (2147483647 : Int32)), rv sv1, rv sv3, rv sv6, rv b10, rv ev21, rv ev28, rv ev38, rv ev51, .unset] [])) _
      refine XS.aload X255.here hx rfl (hb hby at_168) rfl rfl ?_
      show Steps p.tables e below (T255.setTop (mkF m 170 #[iv u0, iv u1, iv u2, iv (5 : Int32), iv (u1 &&& (2147483647 : Int32)), rv sv1, rv sv3, rv sv6, rv b10, rv ev21, rv ev28, rv ev38, rv ev51, .unset] [(.ref b10)])) _
      refine XS.aload X255.here hx rfl (hb hby at_170) rfl rfl ?_
      show Steps p.tables e below (T255.setTop (mkF m 172 #[iv u0, iv u1, iv u2, iv (5 : Int32), iv (u1 &&& (2147483647 : Int32)), rv sv1, rv sv3, rv sv6, rv b10, rv ev21, rv ev28, rv ev38, rv ev51, .unset] [(.ref ev21), (.ref b10)])) _
      refine st269.trans ?_
      show Steps p.tables e below (T269.setTop (mkF m 175 #[iv u0, iv u1, iv u2, iv (5 : Int32), iv (u1 &&& (2147483647 : Int32)), rv sv1, rv sv3, rv sv6, rv b10, rv ev21, rv ev28, rv ev38, rv ev51, .unset] [])) _
      refine XS.iloadN X269.here hx rfl (hb hby at_175) rfl ?_
      show Steps p.tables e below (T269.setTop (mkF m 176 #[iv u0, iv u1, iv u2, iv (5 : Int32), iv (u1 &&& (2147483647 : Int32)), rv sv1, rv sv3, rv sv6, rv b10, rv ev21, rv ev28, rv ev38, rv ev51, .unset] [(.int (5 : Int32))])) _
      refine XS.iconst X269.here hx rfl (hb hby at_176) ?_
      show Steps p.tables e below (T269.setTop (mkF m 177 #[iv u0, iv u1, iv u2, iv (5 : Int32), iv (u1 &&& (2147483647 : Int32)), rv sv1, rv sv3, rv sv6, rv b10, rv ev21, rv ev28, rv ev38, rv ev51, .unset] [(.int (5 : Int32)), (.int (5 : Int32))])) _
      refine XS.icmpYes X269.here hx rfl (pc0 := 177) (pc' := 187) rfl (hb hby at_177) rfl (flt (by decide : ¬ ((5 : Int32) < (5 : Int32)))).2.2.2 (by decide) (by decide) ?_
      show Steps p.tables e below (T269.setTop (mkF m 187 #[iv u0, iv u1, iv u2, iv (5 : Int32), iv (u1 &&& (2147483647 : Int32)), rv sv1, rv sv3, rv sv6, rv b10, rv ev21, rv ev28, rv ev38, rv ev51, .unset] [])) _
      refine XS.iloadN X269.here hx rfl (hb hby at_187) rfl ?_
      show Steps p.tables e below (T269.setTop (mkF m 188 #[iv u0, iv u1, iv u2, iv (5 : Int32), iv (u1 &&& (2147483647 : Int32)), rv sv1, rv sv3, rv sv6, rv b10, rv ev21, rv ev28, rv ev38, rv ev51, .unset] [(.int (5 : Int32))])) _
      refine XS.bipush X269.here hx rfl (hb hby at_188) ?_
      show Steps p.tables e below (T269.setTop (mkF m 190 #[iv u0, iv u1, iv u2, iv (5 : Int32), iv (u1 &&& (2147483647 : Int32)), rv sv1, rv sv3, rv sv6, rv b10, rv ev21, rv ev28, rv ev38, rv ev51, .unset] [(.int (6 : Int32)), (.int (5 : Int32))])) _
      refine XS.icmpYes X269.here hx rfl (pc0 := 190) (pc' := 200) rfl (hb hby at_190) rfl (flt (by decide : ¬ ((6 : Int32) < (5 : Int32)))).2.2.2 (by decide) (by decide) ?_
      show Steps p.tables e below (T269.setTop (mkF m 200 #[iv u0, iv u1, iv u2, iv (5 : Int32), iv (u1 &&& (2147483647 : Int32)), rv sv1, rv sv3, rv sv6, rv b10, rv ev21, rv ev28, rv ev38, rv ev51, .unset] [])) _
      refine XS.iloadN X269.here hx rfl (hb hby at_200) rfl ?_
      show Steps p.tables e below (T269.setTop (mkF m 201 #[iv u0, iv u1, iv u2, iv (5 : Int32), iv (u1 &&& (2147483647 : Int32)), rv sv1, rv sv3, rv sv6, rv b10, rv ev21, rv ev28, rv ev38, rv ev51, .unset] [(.int (5 : Int32))])) _
      refine XS.bipush X269.here hx rfl (hb hby at_201) ?_
      show Steps p.tables e below (T269.setTop (mkF m 203 #[iv u0, iv u1, iv u2, iv (5 : Int32), iv (u1 &&& (2147483647 : Int32)), rv sv1, rv sv3, rv sv6, rv b10, rv ev21, rv ev28, rv ev38, rv ev51, .unset] [(.int (7 : Int32)), (.int (5 : Int32))])) _
      refine XS.icmpYes X269.here hx rfl (pc0 := 203) (pc' := 213) rfl (hb hby at_203) rfl (flt (by decide : ¬ ((7 : Int32) < (5 : Int32)))).2.2.2 (by decide) (by decide) ?_
      show Steps p.tables e below (T269.setTop (mkF m 213 #[iv u0, iv u1, iv u2, iv (5 : Int32), iv (u1 &&& (2147483647 : Int32)), rv sv1, rv sv3, rv sv6, rv b10, rv ev21, rv ev28, rv ev38, rv ev51, .unset] [])) _
      refine XS.iloadN X269.here hx rfl (hb hby at_213) rfl ?_
      show Steps p.tables e below (T269.setTop (mkF m 214 #[iv u0, iv u1, iv u2, iv (5 : Int32), iv (u1 &&& (2147483647 : Int32)), rv sv1, rv sv3, rv sv6, rv b10, rv ev21, rv ev28, rv ev38, rv ev51, .unset] [(.int (5 : Int32))])) _
      refine XS.iconst X269.here hx rfl (hb hby at_214) ?_
      show Steps p.tables e below (T269.setTop (mkF m 215 #[iv u0, iv u1, iv u2, iv (5 : Int32), iv (u1 &&& (2147483647 : Int32)), rv sv1, rv sv3, rv sv6, rv b10, rv ev21, rv ev28, rv ev38, rv ev51, .unset] [(.int (4 : Int32)), (.int (5 : Int32))])) _
      refine XS.icmpYes X269.here hx rfl (pc0 := 215) (pc' := 224) rfl (hb hby at_215) rfl (flt (by decide : ¬ ((5 : Int32) < (4 : Int32)))).2.1 (by decide) (by decide) ?_
      show Steps p.tables e below (T269.setTop (mkF m 224 #[iv u0, iv u1, iv u2, iv (5 : Int32), iv (u1 &&& (2147483647 : Int32)), rv sv1, rv sv3, rv sv6, rv b10, rv ev21, rv ev28, rv ev38, rv ev51, .unset] [])) _
      refine XS.iloadN X269.here hx rfl (hb hby at_224) rfl ?_
      show Steps p.tables e below (T269.setTop (mkF m 225 #[iv u0, iv u1, iv u2, iv (5 : Int32), iv (u1 &&& (2147483647 : Int32)), rv sv1, rv sv3, rv sv6, rv b10, rv ev21, rv ev28, rv ev38, rv ev51, .unset] [(.int (5 : Int32))])) _
      refine XS.bipush X269.here hx rfl (hb hby at_225) ?_
      show Steps p.tables e below (T269.setTop (mkF m 227 #[iv u0, iv u1, iv u2, iv (5 : Int32), iv (u1 &&& (2147483647 : Int32)), rv sv1, rv sv3, rv sv6, rv b10, rv ev21, rv ev28, rv ev38, rv ev51, .unset] [(.int (8 : Int32)), (.int (5 : Int32))])) _
      refine XS.icmpNo X269.here hx rfl (hb hby at_227) rfl (tlt (by decide : (5 : Int32) < (8 : Int32))).2.1 ?_
      show Steps p.tables e below (T269.setTop (mkF m 230 #[iv u0, iv u1, iv u2, iv (5 : Int32), iv (u1 &&& (2147483647 : Int32)), rv sv1, rv sv3, rv sv6, rv b10, rv ev21, rv ev28, rv ev38, rv ev51, .unset] [])) _
      refine XS.iconst X269.here hx rfl (hb hby at_230) ?_
      show Steps p.tables e below (T269.setTop (mkF m 231 #[iv u0, iv u1, iv u2, iv (5 : Int32), iv (u1 &&& (2147483647 : Int32)), rv sv1, rv sv3, rv sv6, rv b10, rv ev21, rv ev28, rv ev38, rv ev51, .unset] [(.int (2 : Int32))])) _
      refine XS.istore X269.here hx rfl (hb hby at_231) rfl (l' := #[iv u0, iv u1, iv u2, iv (5 : Int32), iv (u1 &&& (2147483647 : Int32)), rv sv1, rv sv3, rv sv6, rv b10, rv ev21, rv ev28, rv ev38, rv ev51, iv (2 : Int32)]) rfl ?_
      show Steps p.tables e below (T269.setTop (mkF m 233 #[iv u0, iv u1, iv u2, iv (5 : Int32), iv (u1 &&& (2147483647 : Int32)), rv sv1, rv sv3, rv sv6, rv b10, rv ev21, rv ev28, rv ev38, rv ev51, iv (2 : Int32)] [])) _
      refine XS.goto X269.here hx rfl (pc0 := 233) (pc' := 239) rfl (hb hby at_233) (by decide) (by decide) ?_
      show Steps p.tables e below (T269.setTop (mkF m 239 #[iv u0, iv u1, iv u2, iv (5 : Int32), iv (u1 &&& (2147483647 : Int32)), rv sv1, rv sv3, rv sv6, rv b10, rv ev21, rv ev28, rv ev38, rv ev51, iv (2 : Int32)] [])) _
      refine XS.aload X269.here hx rfl (hb hby at_239) rfl rfl ?_
      show Steps p.tables e below (T269.setTop (mkF m 241 #[iv u0, iv u1, iv u2, iv (5 : Int32), iv (u1 &&& (2147483647 : Int32)), rv sv1, rv sv3, rv sv6, rv b10, rv ev21, rv ev28, rv ev38, rv ev51, iv (2 : Int32)] [(.ref b10)])) _
      refine st283.trans ?_
      show Steps p.tables e below (T283.setTop (mkF m 244 #[iv u0, iv u1, iv u2, iv (5 : Int32), iv (u1 &&& (2147483647 : Int32)), rv sv1, rv sv3, rv sv6, rv b10, rv ev21, rv ev28, rv ev38, rv ev51, iv (2 : Int32)] [(.int (2 : Int32))])) _
      refine XS.iload X283.here hx rfl (hb hby at_244) rfl ?_
      show Steps p.tables e below (T283.setTop (mkF m 246 #[iv u0, iv u1, iv u2, iv (5 : Int32), iv (u1 &&& (2147483647 : Int32)), rv sv1, rv sv3, rv sv6, rv b10, rv ev21, rv ev28, rv ev38, rv ev51, iv (2 : Int32)] [(.int (2 : Int32)), (.int (2 : Int32))])) _
      refine XS.icmpNo X283.here hx rfl (hb hby at_246) rfl (teq (by decide : (2 : Int32) = (2 : Int32))).2 ?_
      show Steps p.tables e below (T283.setTop (mkF m 249 #[iv u0, iv u1, iv u2, iv (5 : Int32), iv (u1 &&& (2147483647 : Int32)), rv sv1, rv sv3, rv sv6, rv b10, rv ev21, rv ev28, rv ev38, rv ev51, iv (2 : Int32)] [])) _
      refine XS.iconst X283.here hx rfl (hb hby at_249) ?_
      show Steps p.tables e below (T283.setTop (mkF m 250 #[iv u0, iv u1, iv u2, iv (5 : Int32), iv (u1 &&& (2147483647 : Int32)), rv sv1, rv sv3, rv sv6, rv b10, rv ev21, rv ev28, rv ev38, rv ev51, iv (2 : Int32)] [(.int (1 : Int32))])) _
      refine XS.goto X283.here hx rfl (pc0 := 250) (pc' := 254) rfl (hb hby at_250) (by decide) (by decide) ?_
      show Steps p.tables e below (T283.setTop (mkF m 254 #[iv u0, iv u1, iv u2, iv (5 : Int32), iv (u1 &&& (2147483647 : Int32)), rv sv1, rv sv3, rv sv6, rv b10, rv ev21, rv ev28, rv ev38, rv ev51, iv (2 : Int32)] [(.int (1 : Int32))])) _
      exact retN X283 hx (t := .boolean) Bd.returns (by simp) (hb hby at_254) hr
    · show Q0 Z u0 u1 u2 t0 t1 t2 t3 d0 d1 d2 d3 oa oc G1 h0 n0 _ T283.heap _
      rw [eq283]
      exact ⟨rfl, N283⟩
  · skip
    rw [hn_] at S67
    obtain ⟨cq284, kq284, q284a, q284b, q284c⟩ := isOf hZ rfl f56
    obtain ⟨_, _, ⟨T284, L284, k284, n284⟩, -, X284, ⟨Lc284, hQ284, l284, y284, z284⟩, st284⟩ := X51.virtualBack hx (y := (⟨"com/example/reroutine/reroutine/replanning/ExecutedDay", "add", "(Lcom/example/reroutine/reroutine/scenario/Event;)V"⟩ : MethodName)) (z := (⟨"com/example/reroutine/reroutine/replanning/ExecutedDay", "add", "(Lcom/example/reroutine/reroutine/scenario/Event;)V"⟩ : MethodName)) hown (mvT hZ (hw _ (List.mem_of_getElem? (i := 104) rfl))) (mvT hZ (hw _ (List.mem_of_getElem? (i := 105) rfl))) (notFace_of_selects (args := #[]) (mvT hZ (hw _ (List.mem_of_getElem? (i := 107) rfl)))) (mvT hZ (hw _ (List.mem_of_getElem? (i := 107) rfl))) (mvT hZ (hw _ (List.mem_of_getElem? (i := 106) rfl))) (by decide) (backOf (W := 0) (rmAdd0 l Z a0 hw [] b10 ev21 t0 t1 t2 t3 d0 d1 d2 d3 oa oc (u1 &&& (2147483647 : Int32)) T51.heap n0 Z51 Od52 hst f66 ge_b10 ne_b10_ev21 f57 f58 f59) hZ (hw _ (List.mem_of_getElem? (i := 108) rfl)) (hw _ (List.mem_of_getElem? (i := 29) rfl)) (by decide) (by decide)) q284a q284c (g := (mkF m 124 #[iv u0, iv u1, iv u2, iv (6 : Int32), iv (u1 &&& (2147483647 : Int32)), rv sv1, rv sv3, rv sv6, rv b10, rv ev21, rv ev28, rv ev38, rv ev51, .unset] [(.ref ev21), (.ref b10)])) rfl (by rw [hml]; rfl) (Steps.refl _) (argsL := [(.ref ev21)]) (rest := []) (lenOf pd_14 rfl) rfl (by show 2 * 0 + _ ≤ _; exact Nat.le_of_eq rfl) (hb hby at_124) (fun _ _ => ⟨rfl, rfl, (by decide : 12 + 0 ≤ _), (by decide : 42 + 0 ≤ _)⟩)
    dsimp only [Pt.U, Pt.locs, Pt.cells, Pt.slots] at X284 l284 y284 z284 st284 hQ284
    subst y284 z284
    obtain ⟨rfl, Nq284, Kx284, Bq284⟩ := hQ284
    have N284 : Fr n0 L284 := by rw [l284]; exact Fr.app N51 Nq284
    obtain ⟨ar284, cl284, ty284, Kq284, gar284, Arq284⟩ := Kx284
    have Z284 : n0 ≤ T284.heap.size := Nat.le_trans Z51 Kq284.1
    have f285 := f58.keep Kq284 (ninS (Ne.symm ne_b10_ev21) (ninS (ne_arr f57 (hw _ (List.mem_of_getElem? (i := 51) rfl)) Arq284) nin0))
    have f286 := f59.keep Kq284 (ninS (Ne.symm ne_b10_ev21) (ninS (ne_arr f57 (hw _ (List.mem_of_getElem? (i := 51) rfl)) Arq284) nin0))
    have f287 := f61.keep Kq284 (ninS (Ne.symm ne_b10_ev28) (ninS (ne_arr f60 (hw _ (List.mem_of_getElem? (i := 51) rfl)) Arq284) nin0))
    have f288 := f62.keep Kq284 (ninS (Ne.symm ne_b10_ev28) (ninS (ne_arr f60 (hw _ (List.mem_of_getElem? (i := 51) rfl)) Arq284) nin0))
    have f289 := f64.keep Kq284 (ninS (Ne.symm ne_b10_ev38) (ninS (ne_arr f63 (hw _ (List.mem_of_getElem? (i := 51) rfl)) Arq284) nin0))
    have f290 := f65.keep Kq284 (ninS (Ne.symm ne_b10_ev38) (ninS (ne_arr f63 (hw _ (List.mem_of_getElem? (i := 51) rfl)) Arq284) nin0))
    have f291 := Fm51.keep Kq284 (ninS (Ne.symm ne_b10_ev51) (ninS (ne_arr Eq51 (hw _ (List.mem_of_getElem? (i := 51) rfl)) Arq284) nin0))
    have f292 := Ft51.keep Kq284 (ninS (Ne.symm ne_b10_ev51) (ninS (ne_arr Eq51 (hw _ (List.mem_of_getElem? (i := 51) rfl)) Arq284) nin0))
    have f293 := f56.keep Kq284
    have f294 := f57.keep Kq284
    have f295 := f60.keep Kq284
    have f296 := f63.keep Kq284
    have f297 := Eq51.keep Kq284
    have Od284 := Od52.keep Kq284 (allS ge_b10 (allS gar284 all0))
    obtain ⟨cq298, kq298, q298a, q298b, q298c⟩ := isOf hZ rfl f293
    obtain ⟨_, _, ⟨T298, L298, k298, n298⟩, -, X298, ⟨Lc298, hQ298, l298, y298, z298⟩, st298⟩ := X284.virtualBack hx (y := (⟨"com/example/reroutine/reroutine/replanning/ExecutedDay", "add", "(Lcom/example/reroutine/reroutine/scenario/Event;)V"⟩ : MethodName)) (z := (⟨"com/example/reroutine/reroutine/replanning/ExecutedDay", "add", "(Lcom/example/reroutine/reroutine/scenario/Event;)V"⟩ : MethodName)) hown (mvT hZ (hw _ (List.mem_of_getElem? (i := 104) rfl))) (mvT hZ (hw _ (List.mem_of_getElem? (i := 105) rfl))) (notFace_of_selects (args := #[]) (mvT hZ (hw _ (List.mem_of_getElem? (i := 107) rfl)))) (mvT hZ (hw _ (List.mem_of_getElem? (i := 107) rfl))) (mvT hZ (hw _ (List.mem_of_getElem? (i := 106) rfl))) (by decide) (backOf (W := 0) (rmAdd1 l Z a0 hw [] b10 ev28 t0 t1 t2 t3 d0 d1 d2 d3 oa oc (u1 &&& (2147483647 : Int32)) T284.heap n0 Z284 Od284 hst Bq284 ge_b10 ne_b10_ev28 f295 f287 f288) hZ (hw _ (List.mem_of_getElem? (i := 108) rfl)) (hw _ (List.mem_of_getElem? (i := 29) rfl)) (by decide) (by decide)) q298a q298c (g := (mkF m 136 #[iv u0, iv u1, iv u2, iv (6 : Int32), iv (u1 &&& (2147483647 : Int32)), rv sv1, rv sv3, rv sv6, rv b10, rv ev21, rv ev28, rv ev38, rv ev51, .unset] [(.ref ev28), (.ref b10)])) rfl (by rw [hml]; rfl) (Steps.refl _) (argsL := [(.ref ev28)]) (rest := []) (lenOf pd_14 rfl) rfl (by show 2 * 0 + _ ≤ _; exact Nat.le_of_eq rfl) (hb hby at_136) (fun _ _ => ⟨rfl, rfl, (by decide : 12 + 0 ≤ _), (by decide : 42 + 0 ≤ _)⟩)
    dsimp only [Pt.U, Pt.locs, Pt.cells, Pt.slots] at X298 l298 y298 z298 st298 hQ298
    subst y298 z298
    obtain ⟨rfl, Nq298, Kx298, Bq298⟩ := hQ298
    have N298 : Fr n0 L298 := by rw [l298]; exact Fr.app N284 Nq298
    obtain ⟨ar298, cl298, ty298, Kq298, gar298, Arq298⟩ := Kx298
    have Z298 : n0 ≤ T298.heap.size := Nat.le_trans Z284 Kq298.1
    have f299 := f285.keep Kq298 (ninS (Ne.symm ne_b10_ev21) (ninS (ne_arr f294 (hw _ (List.mem_of_getElem? (i := 51) rfl)) Arq298) nin0))
    have f300 := f286.keep Kq298 (ninS (Ne.symm ne_b10_ev21) (ninS (ne_arr f294 (hw _ (List.mem_of_getElem? (i := 51) rfl)) Arq298) nin0))
    have f301 := f287.keep Kq298 (ninS (Ne.symm ne_b10_ev28) (ninS (ne_arr f295 (hw _ (List.mem_of_getElem? (i := 51) rfl)) Arq298) nin0))
    have f302 := f288.keep Kq298 (ninS (Ne.symm ne_b10_ev28) (ninS (ne_arr f295 (hw _ (List.mem_of_getElem? (i := 51) rfl)) Arq298) nin0))
    have f303 := f289.keep Kq298 (ninS (Ne.symm ne_b10_ev38) (ninS (ne_arr f296 (hw _ (List.mem_of_getElem? (i := 51) rfl)) Arq298) nin0))
    have f304 := f290.keep Kq298 (ninS (Ne.symm ne_b10_ev38) (ninS (ne_arr f296 (hw _ (List.mem_of_getElem? (i := 51) rfl)) Arq298) nin0))
    have f305 := f291.keep Kq298 (ninS (Ne.symm ne_b10_ev51) (ninS (ne_arr f297 (hw _ (List.mem_of_getElem? (i := 51) rfl)) Arq298) nin0))
    have f306 := f292.keep Kq298 (ninS (Ne.symm ne_b10_ev51) (ninS (ne_arr f297 (hw _ (List.mem_of_getElem? (i := 51) rfl)) Arq298) nin0))
    have f307 := f293.keep Kq298
    have f308 := f294.keep Kq298
    have f309 := f295.keep Kq298
    have f310 := f296.keep Kq298
    have f311 := f297.keep Kq298
    have Od298 := Od284.keep Kq298 (allS ge_b10 (allS gar298 all0))
    obtain ⟨cq312, kq312, q312a, q312b, q312c⟩ := isOf hZ rfl f307
    obtain ⟨_, _, ⟨T312, L312, k312, n312⟩, -, X312, ⟨Lc312, hQ312, l312, y312, z312⟩, st312⟩ := X298.virtualBack hx (y := (⟨"com/example/reroutine/reroutine/replanning/ExecutedDay", "add", "(Lcom/example/reroutine/reroutine/scenario/Event;)V"⟩ : MethodName)) (z := (⟨"com/example/reroutine/reroutine/replanning/ExecutedDay", "add", "(Lcom/example/reroutine/reroutine/scenario/Event;)V"⟩ : MethodName)) hown (mvT hZ (hw _ (List.mem_of_getElem? (i := 104) rfl))) (mvT hZ (hw _ (List.mem_of_getElem? (i := 105) rfl))) (notFace_of_selects (args := #[]) (mvT hZ (hw _ (List.mem_of_getElem? (i := 107) rfl)))) (mvT hZ (hw _ (List.mem_of_getElem? (i := 107) rfl))) (mvT hZ (hw _ (List.mem_of_getElem? (i := 106) rfl))) (by decide) (backOf (W := 0) (rmAdd2 l Z a0 hw [] b10 ev38 t0 t1 t2 t3 d0 d1 d2 d3 oa oc (u1 &&& (2147483647 : Int32)) T298.heap n0 Z298 Od298 hst Bq298 ge_b10 ne_b10_ev38 f310 f303 f304) hZ (hw _ (List.mem_of_getElem? (i := 108) rfl)) (hw _ (List.mem_of_getElem? (i := 29) rfl)) (by decide) (by decide)) q312a q312c (g := (mkF m 148 #[iv u0, iv u1, iv u2, iv (6 : Int32), iv (u1 &&& (2147483647 : Int32)), rv sv1, rv sv3, rv sv6, rv b10, rv ev21, rv ev28, rv ev38, rv ev51, .unset] [(.ref ev38), (.ref b10)])) rfl (by rw [hml]; rfl) (Steps.refl _) (argsL := [(.ref ev38)]) (rest := []) (lenOf pd_14 rfl) rfl (by show 2 * 0 + _ ≤ _; exact Nat.le_of_eq rfl) (hb hby at_148) (fun _ _ => ⟨rfl, rfl, (by decide : 12 + 0 ≤ _), (by decide : 42 + 0 ≤ _)⟩)
    dsimp only [Pt.U, Pt.locs, Pt.cells, Pt.slots] at X312 l312 y312 z312 st312 hQ312
    subst y312 z312
    obtain ⟨rfl, Nq312, Kx312, Bq312⟩ := hQ312
    have N312 : Fr n0 L312 := by rw [l312]; exact Fr.app N298 Nq312
    obtain ⟨ar312, cl312, ty312, Kq312, gar312, Arq312⟩ := Kx312
    have Z312 : n0 ≤ T312.heap.size := Nat.le_trans Z298 Kq312.1
    have f313 := f299.keep Kq312 (ninS (Ne.symm ne_b10_ev21) (ninS (ne_arr f308 (hw _ (List.mem_of_getElem? (i := 51) rfl)) Arq312) nin0))
    have f314 := f300.keep Kq312 (ninS (Ne.symm ne_b10_ev21) (ninS (ne_arr f308 (hw _ (List.mem_of_getElem? (i := 51) rfl)) Arq312) nin0))
    have f315 := f301.keep Kq312 (ninS (Ne.symm ne_b10_ev28) (ninS (ne_arr f309 (hw _ (List.mem_of_getElem? (i := 51) rfl)) Arq312) nin0))
    have f316 := f302.keep Kq312 (ninS (Ne.symm ne_b10_ev28) (ninS (ne_arr f309 (hw _ (List.mem_of_getElem? (i := 51) rfl)) Arq312) nin0))
    have f317 := f303.keep Kq312 (ninS (Ne.symm ne_b10_ev38) (ninS (ne_arr f310 (hw _ (List.mem_of_getElem? (i := 51) rfl)) Arq312) nin0))
    have f318 := f304.keep Kq312 (ninS (Ne.symm ne_b10_ev38) (ninS (ne_arr f310 (hw _ (List.mem_of_getElem? (i := 51) rfl)) Arq312) nin0))
    have f319 := f305.keep Kq312 (ninS (Ne.symm ne_b10_ev51) (ninS (ne_arr f311 (hw _ (List.mem_of_getElem? (i := 51) rfl)) Arq312) nin0))
    have f320 := f306.keep Kq312 (ninS (Ne.symm ne_b10_ev51) (ninS (ne_arr f311 (hw _ (List.mem_of_getElem? (i := 51) rfl)) Arq312) nin0))
    have f321 := f307.keep Kq312
    have f322 := f308.keep Kq312
    have f323 := f309.keep Kq312
    have f324 := f310.keep Kq312
    have f325 := f311.keep Kq312
    have Od312 := Od298.keep Kq312 (allS ge_b10 (allS gar312 all0))
    obtain ⟨cq326, kq326, q326a, q326b, q326c⟩ := isOf hZ rfl f321
    obtain ⟨_, _, ⟨T326, L326, k326, n326⟩, -, X326, ⟨Lc326, hQ326, l326, y326, z326⟩, st326⟩ := X312.virtualBack hx (y := (⟨"com/example/reroutine/reroutine/replanning/ExecutedDay", "add", "(Lcom/example/reroutine/reroutine/scenario/Event;)V"⟩ : MethodName)) (z := (⟨"com/example/reroutine/reroutine/replanning/ExecutedDay", "add", "(Lcom/example/reroutine/reroutine/scenario/Event;)V"⟩ : MethodName)) hown (mvT hZ (hw _ (List.mem_of_getElem? (i := 104) rfl))) (mvT hZ (hw _ (List.mem_of_getElem? (i := 105) rfl))) (notFace_of_selects (args := #[]) (mvT hZ (hw _ (List.mem_of_getElem? (i := 107) rfl)))) (mvT hZ (hw _ (List.mem_of_getElem? (i := 107) rfl))) (mvT hZ (hw _ (List.mem_of_getElem? (i := 106) rfl))) (by decide) (backOf (W := 0) (rmAdd3 l Z a0 hw [] b10 ev51 t0 t1 t2 t3 d0 d1 d2 d3 oa oc (u1 &&& (2147483647 : Int32)) T312.heap n0 Z312 Od312 hst Bq312 ge_b10 ne_b10_ev51 f325 f319 f320) hZ (hw _ (List.mem_of_getElem? (i := 108) rfl)) (hw _ (List.mem_of_getElem? (i := 29) rfl)) (by decide) (by decide)) q326a q326c (g := (mkF m 160 #[iv u0, iv u1, iv u2, iv (6 : Int32), iv (u1 &&& (2147483647 : Int32)), rv sv1, rv sv3, rv sv6, rv b10, rv ev21, rv ev28, rv ev38, rv ev51, .unset] [(.ref ev51), (.ref b10)])) rfl (by rw [hml]; rfl) (Steps.refl _) (argsL := [(.ref ev51)]) (rest := []) (lenOf pd_14 rfl) rfl (by show 2 * 0 + _ ≤ _; exact Nat.le_of_eq rfl) (hb hby at_160) (fun _ _ => ⟨rfl, rfl, (by decide : 12 + 0 ≤ _), (by decide : 42 + 0 ≤ _)⟩)
    dsimp only [Pt.U, Pt.locs, Pt.cells, Pt.slots] at X326 l326 y326 z326 st326 hQ326
    subst y326 z326
    obtain ⟨rfl, Nq326, Kx326, Bq326⟩ := hQ326
    have N326 : Fr n0 L326 := by rw [l326]; exact Fr.app N312 Nq326
    obtain ⟨ar326, cl326, ty326, Kq326, gar326, Arq326⟩ := Kx326
    have Z326 : n0 ≤ T326.heap.size := Nat.le_trans Z312 Kq326.1
    have f327 := f313.keep Kq326 (ninS (Ne.symm ne_b10_ev21) (ninS (ne_arr f322 (hw _ (List.mem_of_getElem? (i := 51) rfl)) Arq326) nin0))
    have f328 := f314.keep Kq326 (ninS (Ne.symm ne_b10_ev21) (ninS (ne_arr f322 (hw _ (List.mem_of_getElem? (i := 51) rfl)) Arq326) nin0))
    have f329 := f315.keep Kq326 (ninS (Ne.symm ne_b10_ev28) (ninS (ne_arr f323 (hw _ (List.mem_of_getElem? (i := 51) rfl)) Arq326) nin0))
    have f330 := f316.keep Kq326 (ninS (Ne.symm ne_b10_ev28) (ninS (ne_arr f323 (hw _ (List.mem_of_getElem? (i := 51) rfl)) Arq326) nin0))
    have f331 := f317.keep Kq326 (ninS (Ne.symm ne_b10_ev38) (ninS (ne_arr f324 (hw _ (List.mem_of_getElem? (i := 51) rfl)) Arq326) nin0))
    have f332 := f318.keep Kq326 (ninS (Ne.symm ne_b10_ev38) (ninS (ne_arr f324 (hw _ (List.mem_of_getElem? (i := 51) rfl)) Arq326) nin0))
    have f333 := f319.keep Kq326 (ninS (Ne.symm ne_b10_ev51) (ninS (ne_arr f325 (hw _ (List.mem_of_getElem? (i := 51) rfl)) Arq326) nin0))
    have f334 := f320.keep Kq326 (ninS (Ne.symm ne_b10_ev51) (ninS (ne_arr f325 (hw _ (List.mem_of_getElem? (i := 51) rfl)) Arq326) nin0))
    have f335 := f321.keep Kq326
    have f336 := f322.keep Kq326
    have f337 := f323.keep Kq326
    have f338 := f324.keep Kq326
    have f339 := f325.keep Kq326
    have Od326 := Od312.keep Kq326 (allS ge_b10 (allS gar326 all0))
    obtain ⟨cq340, kq340, q340a, q340b, q340c⟩ := isOf hZ rfl f335
    obtain ⟨_, _, ⟨T340, L340, k340, n340⟩, -, X340, ⟨Lc340, hQ340, l340, y340, z340⟩, st340⟩ := X326.virtualBack hx (y := (⟨"com/example/reroutine/reroutine/replanning/ExecutedDay", "add", "(Lcom/example/reroutine/reroutine/scenario/Event;)V"⟩ : MethodName)) (z := (⟨"com/example/reroutine/reroutine/replanning/ExecutedDay", "add", "(Lcom/example/reroutine/reroutine/scenario/Event;)V"⟩ : MethodName)) hown (mvT hZ (hw _ (List.mem_of_getElem? (i := 104) rfl))) (mvT hZ (hw _ (List.mem_of_getElem? (i := 105) rfl))) (notFace_of_selects (args := #[]) (mvT hZ (hw _ (List.mem_of_getElem? (i := 107) rfl)))) (mvT hZ (hw _ (List.mem_of_getElem? (i := 107) rfl))) (mvT hZ (hw _ (List.mem_of_getElem? (i := 106) rfl))) (by decide) (backOf (W := 0) (rmAdd4 l Z a0 hw [] b10 ev21 t0 t1 t2 t3 d0 d1 d2 d3 oa oc (u1 &&& (2147483647 : Int32)) T326.heap n0 Z326 Od326 hst Bq326 ge_b10 ne_b10_ev21 f336 f327 f328) hZ (hw _ (List.mem_of_getElem? (i := 108) rfl)) (hw _ (List.mem_of_getElem? (i := 29) rfl)) (by decide) (by decide)) q340a q340c (g := (mkF m 172 #[iv u0, iv u1, iv u2, iv (6 : Int32), iv (u1 &&& (2147483647 : Int32)), rv sv1, rv sv3, rv sv6, rv b10, rv ev21, rv ev28, rv ev38, rv ev51, .unset] [(.ref ev21), (.ref b10)])) rfl (by rw [hml]; rfl) (Steps.refl _) (argsL := [(.ref ev21)]) (rest := []) (lenOf pd_14 rfl) rfl (by show 2 * 0 + _ ≤ _; exact Nat.le_of_eq rfl) (hb hby at_172) (fun _ _ => ⟨rfl, rfl, (by decide : 12 + 1 ≤ _), (by decide : 42 + 8 ≤ _)⟩)
    dsimp only [Pt.U, Pt.locs, Pt.cells, Pt.slots] at X340 l340 y340 z340 st340 hQ340
    subst y340 z340
    obtain ⟨rfl, Nq340, Kx340, Bq340⟩ := hQ340
    have N340 : Fr n0 L340 := by rw [l340]; exact Fr.app N326 Nq340
    obtain ⟨ar340, cl340, ty340, Kq340, gar340, Arq340⟩ := Kx340
    have Z340 : n0 ≤ T340.heap.size := Nat.le_trans Z326 Kq340.1
    have f341 := f327.keep Kq340 (ninS (Ne.symm ne_b10_ev21) (ninS (ne_arr f336 (hw _ (List.mem_of_getElem? (i := 51) rfl)) Arq340) nin0))
    have f342 := f328.keep Kq340 (ninS (Ne.symm ne_b10_ev21) (ninS (ne_arr f336 (hw _ (List.mem_of_getElem? (i := 51) rfl)) Arq340) nin0))
    have f343 := f329.keep Kq340 (ninS (Ne.symm ne_b10_ev28) (ninS (ne_arr f337 (hw _ (List.mem_of_getElem? (i := 51) rfl)) Arq340) nin0))
    have f344 := f330.keep Kq340 (ninS (Ne.symm ne_b10_ev28) (ninS (ne_arr f337 (hw _ (List.mem_of_getElem? (i := 51) rfl)) Arq340) nin0))
    have f345 := f331.keep Kq340 (ninS (Ne.symm ne_b10_ev38) (ninS (ne_arr f338 (hw _ (List.mem_of_getElem? (i := 51) rfl)) Arq340) nin0))
    have f346 := f332.keep Kq340 (ninS (Ne.symm ne_b10_ev38) (ninS (ne_arr f338 (hw _ (List.mem_of_getElem? (i := 51) rfl)) Arq340) nin0))
    have f347 := f333.keep Kq340 (ninS (Ne.symm ne_b10_ev51) (ninS (ne_arr f339 (hw _ (List.mem_of_getElem? (i := 51) rfl)) Arq340) nin0))
    have f348 := f334.keep Kq340 (ninS (Ne.symm ne_b10_ev51) (ninS (ne_arr f339 (hw _ (List.mem_of_getElem? (i := 51) rfl)) Arq340) nin0))
    have f349 := f335.keep Kq340
    have f350 := f336.keep Kq340
    have f351 := f337.keep Kq340
    have f352 := f338.keep Kq340
    have f353 := f339.keep Kq340
    have Od340 := Od326.keep Kq340 (allS ge_b10 (allS gar340 all0))
    obtain ⟨cq354, kq354, q354a, q354b, q354c⟩ := isOf hZ rfl f349
    obtain ⟨_, _, ⟨T354, L354, k354, n354⟩, -, X354, ⟨Lc354, hQ354, l354, y354, z354⟩, st354⟩ := X340.virtualBack hx (y := (⟨"com/example/reroutine/reroutine/replanning/ExecutedDay", "add", "(Lcom/example/reroutine/reroutine/scenario/Event;)V"⟩ : MethodName)) (z := (⟨"com/example/reroutine/reroutine/replanning/ExecutedDay", "add", "(Lcom/example/reroutine/reroutine/scenario/Event;)V"⟩ : MethodName)) hown (mvT hZ (hw _ (List.mem_of_getElem? (i := 104) rfl))) (mvT hZ (hw _ (List.mem_of_getElem? (i := 105) rfl))) (notFace_of_selects (args := #[]) (mvT hZ (hw _ (List.mem_of_getElem? (i := 107) rfl)))) (mvT hZ (hw _ (List.mem_of_getElem? (i := 107) rfl))) (mvT hZ (hw _ (List.mem_of_getElem? (i := 106) rfl))) (by decide) (backOf (W := 0) (rmAdd5 l Z a0 hw [] b10 ev28 t0 t1 t2 t3 d0 d1 d2 d3 oa oc (u1 &&& (2147483647 : Int32)) T340.heap n0 Z340 Od340 hst Bq340 ge_b10 ne_b10_ev28 f351 f343 f344) hZ (hw _ (List.mem_of_getElem? (i := 108) rfl)) (hw _ (List.mem_of_getElem? (i := 29) rfl)) (by decide) (by decide)) q354a q354c (g := (mkF m 184 #[iv u0, iv u1, iv u2, iv (6 : Int32), iv (u1 &&& (2147483647 : Int32)), rv sv1, rv sv3, rv sv6, rv b10, rv ev21, rv ev28, rv ev38, rv ev51, .unset] [(.ref ev28), (.ref b10)])) rfl (by rw [hml]; rfl) (Steps.refl _) (argsL := [(.ref ev28)]) (rest := []) (lenOf pd_14 rfl) rfl (by show 2 * 0 + _ ≤ _; exact Nat.le_of_eq rfl) (hb hby at_184) (fun _ _ => ⟨rfl, rfl, (by decide : 13 + 0 ≤ _), (by decide : 50 + 0 ≤ _)⟩)
    dsimp only [Pt.U, Pt.locs, Pt.cells, Pt.slots] at X354 l354 y354 z354 st354 hQ354
    subst y354 z354
    obtain ⟨rfl, Nq354, Kx354, Bq354⟩ := hQ354
    have N354 : Fr n0 L354 := by rw [l354]; exact Fr.app N340 Nq354
    obtain ⟨ar354, cl354, ty354, Kq354, gar354, Arq354⟩ := Kx354
    have Z354 : n0 ≤ T354.heap.size := Nat.le_trans Z340 Kq354.1
    have f355 := f341.keep Kq354 (ninS (Ne.symm ne_b10_ev21) (ninS (ne_arr f350 (hw _ (List.mem_of_getElem? (i := 51) rfl)) Arq354) nin0))
    have f356 := f342.keep Kq354 (ninS (Ne.symm ne_b10_ev21) (ninS (ne_arr f350 (hw _ (List.mem_of_getElem? (i := 51) rfl)) Arq354) nin0))
    have f357 := f343.keep Kq354 (ninS (Ne.symm ne_b10_ev28) (ninS (ne_arr f351 (hw _ (List.mem_of_getElem? (i := 51) rfl)) Arq354) nin0))
    have f358 := f344.keep Kq354 (ninS (Ne.symm ne_b10_ev28) (ninS (ne_arr f351 (hw _ (List.mem_of_getElem? (i := 51) rfl)) Arq354) nin0))
    have f359 := f345.keep Kq354 (ninS (Ne.symm ne_b10_ev38) (ninS (ne_arr f352 (hw _ (List.mem_of_getElem? (i := 51) rfl)) Arq354) nin0))
    have f360 := f346.keep Kq354 (ninS (Ne.symm ne_b10_ev38) (ninS (ne_arr f352 (hw _ (List.mem_of_getElem? (i := 51) rfl)) Arq354) nin0))
    have f361 := f347.keep Kq354 (ninS (Ne.symm ne_b10_ev51) (ninS (ne_arr f353 (hw _ (List.mem_of_getElem? (i := 51) rfl)) Arq354) nin0))
    have f362 := f348.keep Kq354 (ninS (Ne.symm ne_b10_ev51) (ninS (ne_arr f353 (hw _ (List.mem_of_getElem? (i := 51) rfl)) Arq354) nin0))
    have f363 := f349.keep Kq354
    have f364 := f350.keep Kq354
    have f365 := f351.keep Kq354
    have f366 := f352.keep Kq354
    have f367 := f353.keep Kq354
    have Od354 := Od340.keep Kq354 (allS ge_b10 (allS gar354 all0))
    obtain ⟨cq368, kq368, q368a, q368b, q368c⟩ := isOf hZ rfl f363
    obtain ⟨_, _, ⟨T368, L368, k368, n368⟩, -, X368, ⟨Lc368, hQ368, l368, y368, z368⟩, st368⟩ := X354.virtualBack hx (y := (⟨"com/example/reroutine/reroutine/replanning/ExecutedDay", "activitiesReached", "()I"⟩ : MethodName)) (z := (⟨"com/example/reroutine/reroutine/replanning/ExecutedDay", "activitiesReached", "()I"⟩ : MethodName)) hown (mvT hZ (hw _ (List.mem_of_getElem? (i := 97) rfl))) (mvT hZ (hw _ (List.mem_of_getElem? (i := 98) rfl))) (notFace_of_selects (args := #[]) (mvT hZ (hw _ (List.mem_of_getElem? (i := 100) rfl)))) (mvT hZ (hw _ (List.mem_of_getElem? (i := 100) rfl))) (mvT hZ (hw _ (List.mem_of_getElem? (i := 99) rfl))) (by decide) (backOf (W := 0) (rmQ6 l Z a0 hw [] b10 t0 t1 t2 t3 d0 d1 d2 d3 oa oc T354.heap n0 Z354 Od354 hst Bq354.2.1) hZ (hw _ (List.mem_of_getElem? (i := 101) rfl)) (hw _ (List.mem_of_getElem? (i := 29) rfl)) (by decide) (by decide)) q368a q368c (g := (mkF m 241 #[iv u0, iv u1, iv u2, iv (6 : Int32), iv (u1 &&& (2147483647 : Int32)), rv sv1, rv sv3, rv sv6, rv b10, rv ev21, rv ev28, rv ev38, rv ev51, iv (2 : Int32)] [(.ref b10)])) rfl (by rw [hml]; rfl) (Steps.refl _) (argsL := []) (rest := []) (lenOf pd_9 rfl) rfl (by show 2 * 0 + _ ≤ _; exact Nat.le_of_eq rfl) (hb hby at_241) (fun _ _ => ⟨rfl, rfl, (by decide : 13 + 0 ≤ _), (by decide : 50 + 0 ≤ _)⟩)
    dsimp only [Pt.U, Pt.locs, Pt.cells, Pt.slots] at X368 l368 y368 z368 st368 hQ368
    subst y368 z368
    obtain ⟨rfl, Nq368, eq368⟩ := hQ368
    have N368 : Fr n0 L368 := by rw [l368]; exact Fr.app N354 Nq368
    obtain ⟨fs, hr, hrun, hended, hW, hsame⟩ := X368.leave (v := some (.int (1 : Int32))) (fun h => by rw [Bd.returns] at h; cases h)
    refine ⟨_, _, S67 _ ?_, hrun, hended, _, _, rfl, ?_, ⟨_, rfl⟩, hW, hsame.mono (by decide) (by decide)⟩
    · skip
      show Steps p.tables e below (T51.setTop (mkF m 117 #[iv u0, iv u1, iv u2, iv (6 : Int32), iv (u1 &&& (2147483647 : Int32)), rv sv1, rv sv3, rv sv6, rv b10, rv ev21, rv ev28, rv ev38, rv ev51, .unset] [(.int (6 : Int32))])) _
      refine XS.ifNo X51.here hx rfl (hb hby at_117) rfl ((if0 _ _).trans (tlt (by decide : (0 : Int32) < (6 : Int32))).2.2.2) ?_
      show Steps p.tables e below (T51.setTop (mkF m 120 #[iv u0, iv u1, iv u2, iv (6 : Int32), iv (u1 &&& (2147483647 : Int32)), rv sv1, rv sv3, rv sv6, rv b10, rv ev21, rv ev28, rv ev38, rv ev51, .unset] [])) _
      refine XS.aload X51.here hx rfl (hb hby at_120) rfl rfl ?_
      show Steps p.tables e below (T51.setTop (mkF m 122 #[iv u0, iv u1, iv u2, iv (6 : Int32), iv (u1 &&& (2147483647 : Int32)), rv sv1, rv sv3, rv sv6, rv b10, rv ev21, rv ev28, rv ev38, rv ev51, .unset] [(.ref b10)])) _
      refine XS.aload X51.here hx rfl (hb hby at_122) rfl rfl ?_
      show Steps p.tables e below (T51.setTop (mkF m 124 #[iv u0, iv u1, iv u2, iv (6 : Int32), iv (u1 &&& (2147483647 : Int32)), rv sv1, rv sv3, rv sv6, rv b10, rv ev21, rv ev28, rv ev38, rv ev51, .unset] [(.ref ev21), (.ref b10)])) _
      refine st284.trans ?_
      show Steps p.tables e below (T284.setTop (mkF m 127 #[iv u0, iv u1, iv u2, iv (6 : Int32), iv (u1 &&& (2147483647 : Int32)), rv sv1, rv sv3, rv sv6, rv b10, rv ev21, rv ev28, rv ev38, rv ev51, .unset] [])) _
      refine XS.iloadN X284.here hx rfl (hb hby at_127) rfl ?_
      show Steps p.tables e below (T284.setTop (mkF m 128 #[iv u0, iv u1, iv u2, iv (6 : Int32), iv (u1 &&& (2147483647 : Int32)), rv sv1, rv sv3, rv sv6, rv b10, rv ev21, rv ev28, rv ev38, rv ev51, .unset] [(.int (6 : Int32))])) _
      refine XS.iconst X284.here hx rfl (hb hby at_128) ?_
      show Steps p.tables e below (T284.setTop (mkF m 129 #[iv u0, iv u1, iv u2, iv (6 : Int32), iv (u1 &&& (2147483647 : Int32)), rv sv1, rv sv3, rv sv6, rv b10, rv ev21, rv ev28, rv ev38, rv ev51, .unset] [(.int (1 : Int32)), (.int (6 : Int32))])) _
      refine XS.icmpNo X284.here hx rfl (hb hby at_129) rfl (tlt (by decide : (1 : Int32) < (6 : Int32))).2.2.2 ?_
      show Steps p.tables e below (T284.setTop (mkF m 132 #[iv u0, iv u1, iv u2, iv (6 : Int32), iv (u1 &&& (2147483647 : Int32)), rv sv1, rv sv3, rv sv6, rv b10, rv ev21, rv ev28, rv ev38, rv ev51, .unset] [])) _
      refine XS.aload X284.here hx rfl (hb hby at_132) rfl rfl ?_
      show Steps p.tables e below (T284.setTop (mkF m 134 #[iv u0, iv u1, iv u2, iv (6 : Int32), iv (u1 &&& (2147483647 : Int32)), rv sv1, rv sv3, rv sv6, rv b10, rv ev21, rv ev28, rv ev38, rv ev51, .unset] [(.ref b10)])) _
      refine XS.aload X284.here hx rfl (hb hby at_134) rfl rfl ?_
      show Steps p.tables e below (T284.setTop (mkF m 136 #[iv u0, iv u1, iv u2, iv (6 : Int32), iv (u1 &&& (2147483647 : Int32)), rv sv1, rv sv3, rv sv6, rv b10, rv ev21, rv ev28, rv ev38, rv ev51, .unset] [(.ref ev28), (.ref b10)])) _
      refine st298.trans ?_
      show Steps p.tables e below (T298.setTop (mkF m 139 #[iv u0, iv u1, iv u2, iv (6 : Int32), iv (u1 &&& (2147483647 : Int32)), rv sv1, rv sv3, rv sv6, rv b10, rv ev21, rv ev28, rv ev38, rv ev51, .unset] [])) _
      refine XS.iloadN X298.here hx rfl (hb hby at_139) rfl ?_
      show Steps p.tables e below (T298.setTop (mkF m 140 #[iv u0, iv u1, iv u2, iv (6 : Int32), iv (u1 &&& (2147483647 : Int32)), rv sv1, rv sv3, rv sv6, rv b10, rv ev21, rv ev28, rv ev38, rv ev51, .unset] [(.int (6 : Int32))])) _
      refine XS.iconst X298.here hx rfl (hb hby at_140) ?_
      show Steps p.tables e below (T298.setTop (mkF m 141 #[iv u0, iv u1, iv u2, iv (6 : Int32), iv (u1 &&& (2147483647 : Int32)), rv sv1, rv sv3, rv sv6, rv b10, rv ev21, rv ev28, rv ev38, rv ev51, .unset] [(.int (2 : Int32)), (.int (6 : Int32))])) _
      refine XS.icmpNo X298.here hx rfl (hb hby at_141) rfl (tlt (by decide : (2 : Int32) < (6 : Int32))).2.2.2 ?_
      show Steps p.tables e below (T298.setTop (mkF m 144 #[iv u0, iv u1, iv u2, iv (6 : Int32), iv (u1 &&& (2147483647 : Int32)), rv sv1, rv sv3, rv sv6, rv b10, rv ev21, rv ev28, rv ev38, rv ev51, .unset] [])) _
      refine XS.aload X298.here hx rfl (hb hby at_144) rfl rfl ?_
      show Steps p.tables e below (T298.setTop (mkF m 146 #[iv u0, iv u1, iv u2, iv (6 : Int32), iv (u1 &&& (2147483647 : Int32)), rv sv1, rv sv3, rv sv6, rv b10, rv ev21, rv ev28, rv ev38, rv ev51, .unset] [(.ref b10)])) _
      refine XS.aload X298.here hx rfl (hb hby at_146) rfl rfl ?_
      show Steps p.tables e below (T298.setTop (mkF m 148 #[iv u0, iv u1, iv u2, iv (6 : Int32), iv (u1 &&& (2147483647 : Int32)), rv sv1, rv sv3, rv sv6, rv b10, rv ev21, rv ev28, rv ev38, rv ev51, .unset] [(.ref ev38), (.ref b10)])) _
      refine st312.trans ?_
      show Steps p.tables e below (T312.setTop (mkF m 151 #[iv u0, iv u1, iv u2, iv (6 : Int32), iv (u1 &&& (2147483647 : Int32)), rv sv1, rv sv3, rv sv6, rv b10, rv ev21, rv ev28, rv ev38, rv ev51, .unset] [])) _
      refine XS.iloadN X312.here hx rfl (hb hby at_151) rfl ?_
      show Steps p.tables e below (T312.setTop (mkF m 152 #[iv u0, iv u1, iv u2, iv (6 : Int32), iv (u1 &&& (2147483647 : Int32)), rv sv1, rv sv3, rv sv6, rv b10, rv ev21, rv ev28, rv ev38, rv ev51, .unset] [(.int (6 : Int32))])) _
      refine XS.iconst X312.here hx rfl (hb hby at_152) ?_
      show Steps p.tables e below (T312.setTop (mkF m 153 #[iv u0, iv u1, iv u2, iv (6 : Int32), iv (u1 &&& (2147483647 : Int32)), rv sv1, rv sv3, rv sv6, rv b10, rv ev21, rv ev28, rv ev38, rv ev51, .unset] [(.int (3 : Int32)), (.int (6 : Int32))])) _
      refine XS.icmpNo X312.here hx rfl (hb hby at_153) rfl (tlt (by decide : (3 : Int32) < (6 : Int32))).2.2.2 ?_
      show Steps p.tables e below (T312.setTop (mkF m 156 #[iv u0, iv u1, iv u2, iv (6 : Int32), iv (u1 &&& (2147483647 : Int32)), rv sv1, rv sv3, rv sv6, rv b10, rv ev21, rv ev28, rv ev38, rv ev51, .unset] [])) _
      refine XS.aload X312.here hx rfl (hb hby at_156) rfl rfl ?_
      show Steps p.tables e below (T312.setTop (mkF m 158 #[iv u0, iv u1, iv u2, iv (6 : Int32), iv (u1 &&& (2147483647 : Int32)), rv sv1, rv sv3, rv sv6, rv b10, rv ev21, rv ev28, rv ev38, rv ev51, .unset] [(.ref b10)])) _
      refine XS.aload X312.here hx rfl (hb hby at_158) rfl rfl ?_
      show Steps p.tables e below (T312.setTop (mkF m 160 #[iv u0, iv u1, iv u2, iv (6 : Int32), iv (u1 &&& (2147483647 : Int32)), rv sv1, rv sv3, rv sv6, rv b10, rv ev21, rv ev28, rv ev38, rv ev51, .unset] [(.ref ev51), (.ref b10)])) _
      refine st326.trans ?_
      show Steps p.tables e below (T326.setTop (mkF m 163 #[iv u0, iv u1, iv u2, iv (6 : Int32), iv (u1 &&& (2147483647 : Int32)), rv sv1, rv sv3, rv sv6, rv b10, rv ev21, rv ev28, rv ev38, rv ev51, .unset] [])) _
      refine XS.iloadN X326.here hx rfl (hb hby at_163) rfl ?_
      show Steps p.tables e below (T326.setTop (mkF m 164 #[iv u0, iv u1, iv u2, iv (6 : Int32), iv (u1 &&& (2147483647 : Int32)), rv sv1, rv sv3, rv sv6, rv b10, rv ev21, rv ev28, rv ev38, rv ev51, .unset] [(.int (6 : Int32))])) _
      refine XS.iconst X326.here hx rfl (hb hby at_164) ?_
      show Steps p.tables e below (T326.setTop (mkF m 165 #[iv u0, iv u1, iv u2, iv (6 : Int32), iv (u1 &&& (2147483647 : Int32)), rv sv1, rv sv3, rv sv6, rv b10, rv ev21, rv ev28, rv ev38, rv ev51, .unset] [(.int (4 : Int32)), (.int (6 : Int32))])) _
      refine XS.icmpNo X326.here hx rfl (hb hby at_165) rfl (tlt (by decide : (4 : Int32) < (6 : Int32))).2.2.2 ?_
      show Steps p.tables e below (T326.setTop (mkF m 168 #[iv u0, iv u1, iv u2, iv (6 : Int32), iv (u1 &&& (2147483647 : Int32)), rv sv1, rv sv3, rv sv6, rv b10, rv ev21, rv ev28, rv ev38, rv ev51, .unset] [])) _
      refine XS.aload X326.here hx rfl (hb hby at_168) rfl rfl ?_
      show Steps p.tables e below (T326.setTop (mkF m 170 #[iv u0, iv u1, iv u2, iv (6 : Int32), iv (u1 &&& (2147483647 : Int32)), rv sv1, rv sv3, rv sv6, rv b10, rv ev21, rv ev28, rv ev38, rv ev51, .unset] [(.ref b10)])) _
      refine XS.aload X326.here hx rfl (hb hby at_170) rfl rfl ?_
      show Steps p.tables e below (T326.setTop (mkF m 172 #[iv u0, iv u1, iv u2, iv (6 : Int32), iv (u1 &&& (2147483647 : Int32)), rv sv1, rv sv3, rv sv6, rv b10, rv ev21, rv ev28, rv ev38, rv ev51, .unset] [(.ref ev21), (.ref b10)])) _
      refine st340.trans ?_
      show Steps p.tables e below (T340.setTop (mkF m 175 #[iv u0, iv u1, iv u2, iv (6 : Int32), iv (u1 &&& (2147483647 : Int32)), rv sv1, rv sv3, rv sv6, rv b10, rv ev21, rv ev28, rv ev38, rv ev51, .unset] [])) _
      refine XS.iloadN X340.here hx rfl (hb hby at_175) rfl ?_
      show Steps p.tables e below (T340.setTop (mkF m 176 #[iv u0, iv u1, iv u2, iv (6 : Int32), iv (u1 &&& (2147483647 : Int32)), rv sv1, rv sv3, rv sv6, rv b10, rv ev21, rv ev28, rv ev38, rv ev51, .unset] [(.int (6 : Int32))])) _
      refine XS.iconst X340.here hx rfl (hb hby at_176) ?_
      show Steps p.tables e below (T340.setTop (mkF m 177 #[iv u0, iv u1, iv u2, iv (6 : Int32), iv (u1 &&& (2147483647 : Int32)), rv sv1, rv sv3, rv sv6, rv b10, rv ev21, rv ev28, rv ev38, rv ev51, .unset] [(.int (5 : Int32)), (.int (6 : Int32))])) _
      refine XS.icmpNo X340.here hx rfl (hb hby at_177) rfl (tlt (by decide : (5 : Int32) < (6 : Int32))).2.2.2 ?_
      show Steps p.tables e below (T340.setTop (mkF m 180 #[iv u0, iv u1, iv u2, iv (6 : Int32), iv (u1 &&& (2147483647 : Int32)), rv sv1, rv sv3, rv sv6, rv b10, rv ev21, rv ev28, rv ev38, rv ev51, .unset] [])) _
      refine XS.aload X340.here hx rfl (hb hby at_180) rfl rfl ?_
      show Steps p.tables e below (T340.setTop (mkF m 182 #[iv u0, iv u1, iv u2, iv (6 : Int32), iv (u1 &&& (2147483647 : Int32)), rv sv1, rv sv3, rv sv6, rv b10, rv ev21, rv ev28, rv ev38, rv ev51, .unset] [(.ref b10)])) _
      refine XS.aload X340.here hx rfl (hb hby at_182) rfl rfl ?_
      show Steps p.tables e below (T340.setTop (mkF m 184 #[iv u0, iv u1, iv u2, iv (6 : Int32), iv (u1 &&& (2147483647 : Int32)), rv sv1, rv sv3, rv sv6, rv b10, rv ev21, rv ev28, rv ev38, rv ev51, .unset] [(.ref ev28), (.ref b10)])) _
      refine st354.trans ?_
      show Steps p.tables e below (T354.setTop (mkF m 187 #[iv u0, iv u1, iv u2, iv (6 : Int32), iv (u1 &&& (2147483647 : Int32)), rv sv1, rv sv3, rv sv6, rv b10, rv ev21, rv ev28, rv ev38, rv ev51, .unset] [])) _
      refine XS.iloadN X354.here hx rfl (hb hby at_187) rfl ?_
      show Steps p.tables e below (T354.setTop (mkF m 188 #[iv u0, iv u1, iv u2, iv (6 : Int32), iv (u1 &&& (2147483647 : Int32)), rv sv1, rv sv3, rv sv6, rv b10, rv ev21, rv ev28, rv ev38, rv ev51, .unset] [(.int (6 : Int32))])) _
      refine XS.bipush X354.here hx rfl (hb hby at_188) ?_
      show Steps p.tables e below (T354.setTop (mkF m 190 #[iv u0, iv u1, iv u2, iv (6 : Int32), iv (u1 &&& (2147483647 : Int32)), rv sv1, rv sv3, rv sv6, rv b10, rv ev21, rv ev28, rv ev38, rv ev51, .unset] [(.int (6 : Int32)), (.int (6 : Int32))])) _
      refine XS.icmpYes X354.here hx rfl (pc0 := 190) (pc' := 200) rfl (hb hby at_190) rfl (flt (by decide : ¬ ((6 : Int32) < (6 : Int32)))).2.2.2 (by decide) (by decide) ?_
      show Steps p.tables e below (T354.setTop (mkF m 200 #[iv u0, iv u1, iv u2, iv (6 : Int32), iv (u1 &&& (2147483647 : Int32)), rv sv1, rv sv3, rv sv6, rv b10, rv ev21, rv ev28, rv ev38, rv ev51, .unset] [])) _
      refine XS.iloadN X354.here hx rfl (hb hby at_200) rfl ?_
      show Steps p.tables e below (T354.setTop (mkF m 201 #[iv u0, iv u1, iv u2, iv (6 : Int32), iv (u1 &&& (2147483647 : Int32)), rv sv1, rv sv3, rv sv6, rv b10, rv ev21, rv ev28, rv ev38, rv ev51, .unset] [(.int (6 : Int32))])) _
      refine XS.bipush X354.here hx rfl (hb hby at_201) ?_
      show Steps p.tables e below (T354.setTop (mkF m 203 #[iv u0, iv u1, iv u2, iv (6 : Int32), iv (u1 &&& (2147483647 : Int32)), rv sv1, rv sv3, rv sv6, rv b10, rv ev21, rv ev28, rv ev38, rv ev51, .unset] [(.int (7 : Int32)), (.int (6 : Int32))])) _
      refine XS.icmpYes X354.here hx rfl (pc0 := 203) (pc' := 213) rfl (hb hby at_203) rfl (flt (by decide : ¬ ((7 : Int32) < (6 : Int32)))).2.2.2 (by decide) (by decide) ?_
      show Steps p.tables e below (T354.setTop (mkF m 213 #[iv u0, iv u1, iv u2, iv (6 : Int32), iv (u1 &&& (2147483647 : Int32)), rv sv1, rv sv3, rv sv6, rv b10, rv ev21, rv ev28, rv ev38, rv ev51, .unset] [])) _
      refine XS.iloadN X354.here hx rfl (hb hby at_213) rfl ?_
      show Steps p.tables e below (T354.setTop (mkF m 214 #[iv u0, iv u1, iv u2, iv (6 : Int32), iv (u1 &&& (2147483647 : Int32)), rv sv1, rv sv3, rv sv6, rv b10, rv ev21, rv ev28, rv ev38, rv ev51, .unset] [(.int (6 : Int32))])) _
      refine XS.iconst X354.here hx rfl (hb hby at_214) ?_
      show Steps p.tables e below (T354.setTop (mkF m 215 #[iv u0, iv u1, iv u2, iv (6 : Int32), iv (u1 &&& (2147483647 : Int32)), rv sv1, rv sv3, rv sv6, rv b10, rv ev21, rv ev28, rv ev38, rv ev51, .unset] [(.int (4 : Int32)), (.int (6 : Int32))])) _
      refine XS.icmpYes X354.here hx rfl (pc0 := 215) (pc' := 224) rfl (hb hby at_215) rfl (flt (by decide : ¬ ((6 : Int32) < (4 : Int32)))).2.1 (by decide) (by decide) ?_
      show Steps p.tables e below (T354.setTop (mkF m 224 #[iv u0, iv u1, iv u2, iv (6 : Int32), iv (u1 &&& (2147483647 : Int32)), rv sv1, rv sv3, rv sv6, rv b10, rv ev21, rv ev28, rv ev38, rv ev51, .unset] [])) _
      refine XS.iloadN X354.here hx rfl (hb hby at_224) rfl ?_
      show Steps p.tables e below (T354.setTop (mkF m 225 #[iv u0, iv u1, iv u2, iv (6 : Int32), iv (u1 &&& (2147483647 : Int32)), rv sv1, rv sv3, rv sv6, rv b10, rv ev21, rv ev28, rv ev38, rv ev51, .unset] [(.int (6 : Int32))])) _
      refine XS.bipush X354.here hx rfl (hb hby at_225) ?_
      show Steps p.tables e below (T354.setTop (mkF m 227 #[iv u0, iv u1, iv u2, iv (6 : Int32), iv (u1 &&& (2147483647 : Int32)), rv sv1, rv sv3, rv sv6, rv b10, rv ev21, rv ev28, rv ev38, rv ev51, .unset] [(.int (8 : Int32)), (.int (6 : Int32))])) _
      refine XS.icmpNo X354.here hx rfl (hb hby at_227) rfl (tlt (by decide : (6 : Int32) < (8 : Int32))).2.1 ?_
      show Steps p.tables e below (T354.setTop (mkF m 230 #[iv u0, iv u1, iv u2, iv (6 : Int32), iv (u1 &&& (2147483647 : Int32)), rv sv1, rv sv3, rv sv6, rv b10, rv ev21, rv ev28, rv ev38, rv ev51, .unset] [])) _
      refine XS.iconst X354.here hx rfl (hb hby at_230) ?_
      show Steps p.tables e below (T354.setTop (mkF m 231 #[iv u0, iv u1, iv u2, iv (6 : Int32), iv (u1 &&& (2147483647 : Int32)), rv sv1, rv sv3, rv sv6, rv b10, rv ev21, rv ev28, rv ev38, rv ev51, .unset] [(.int (2 : Int32))])) _
      refine XS.istore X354.here hx rfl (hb hby at_231) rfl (l' := #[iv u0, iv u1, iv u2, iv (6 : Int32), iv (u1 &&& (2147483647 : Int32)), rv sv1, rv sv3, rv sv6, rv b10, rv ev21, rv ev28, rv ev38, rv ev51, iv (2 : Int32)]) rfl ?_
      show Steps p.tables e below (T354.setTop (mkF m 233 #[iv u0, iv u1, iv u2, iv (6 : Int32), iv (u1 &&& (2147483647 : Int32)), rv sv1, rv sv3, rv sv6, rv b10, rv ev21, rv ev28, rv ev38, rv ev51, iv (2 : Int32)] [])) _
      refine XS.goto X354.here hx rfl (pc0 := 233) (pc' := 239) rfl (hb hby at_233) (by decide) (by decide) ?_
      show Steps p.tables e below (T354.setTop (mkF m 239 #[iv u0, iv u1, iv u2, iv (6 : Int32), iv (u1 &&& (2147483647 : Int32)), rv sv1, rv sv3, rv sv6, rv b10, rv ev21, rv ev28, rv ev38, rv ev51, iv (2 : Int32)] [])) _
      refine XS.aload X354.here hx rfl (hb hby at_239) rfl rfl ?_
      show Steps p.tables e below (T354.setTop (mkF m 241 #[iv u0, iv u1, iv u2, iv (6 : Int32), iv (u1 &&& (2147483647 : Int32)), rv sv1, rv sv3, rv sv6, rv b10, rv ev21, rv ev28, rv ev38, rv ev51, iv (2 : Int32)] [(.ref b10)])) _
      refine st368.trans ?_
      show Steps p.tables e below (T368.setTop (mkF m 244 #[iv u0, iv u1, iv u2, iv (6 : Int32), iv (u1 &&& (2147483647 : Int32)), rv sv1, rv sv3, rv sv6, rv b10, rv ev21, rv ev28, rv ev38, rv ev51, iv (2 : Int32)] [(.int (2 : Int32))])) _
      refine XS.iload X368.here hx rfl (hb hby at_244) rfl ?_
      show Steps p.tables e below (T368.setTop (mkF m 246 #[iv u0, iv u1, iv u2, iv (6 : Int32), iv (u1 &&& (2147483647 : Int32)), rv sv1, rv sv3, rv sv6, rv b10, rv ev21, rv ev28, rv ev38, rv ev51, iv (2 : Int32)] [(.int (2 : Int32)), (.int (2 : Int32))])) _
      refine XS.icmpNo X368.here hx rfl (hb hby at_246) rfl (teq (by decide : (2 : Int32) = (2 : Int32))).2 ?_
      show Steps p.tables e below (T368.setTop (mkF m 249 #[iv u0, iv u1, iv u2, iv (6 : Int32), iv (u1 &&& (2147483647 : Int32)), rv sv1, rv sv3, rv sv6, rv b10, rv ev21, rv ev28, rv ev38, rv ev51, iv (2 : Int32)] [])) _
      refine XS.iconst X368.here hx rfl (hb hby at_249) ?_
      show Steps p.tables e below (T368.setTop (mkF m 250 #[iv u0, iv u1, iv u2, iv (6 : Int32), iv (u1 &&& (2147483647 : Int32)), rv sv1, rv sv3, rv sv6, rv b10, rv ev21, rv ev28, rv ev38, rv ev51, iv (2 : Int32)] [(.int (1 : Int32))])) _
      refine XS.goto X368.here hx rfl (pc0 := 250) (pc' := 254) rfl (hb hby at_250) (by decide) (by decide) ?_
      show Steps p.tables e below (T368.setTop (mkF m 254 #[iv u0, iv u1, iv u2, iv (6 : Int32), iv (u1 &&& (2147483647 : Int32)), rv sv1, rv sv3, rv sv6, rv b10, rv ev21, rv ev28, rv ev38, rv ev51, iv (2 : Int32)] [(.int (1 : Int32))])) _
      exact retN X368 hx (t := .boolean) Bd.returns (by simp) (hb hby at_254) hr
    · show Q0 Z u0 u1 u2 t0 t1 t2 t3 d0 d1 d2 d3 oa oc G1 h0 n0 _ T368.heap _
      rw [eq368]
      exact ⟨rfl, N368⟩
  · skip
    rw [hn_] at S67
    obtain ⟨cq369, kq369, q369a, q369b, q369c⟩ := isOf hZ rfl f56
    obtain ⟨_, _, ⟨T369, L369, k369, n369⟩, -, X369, ⟨Lc369, hQ369, l369, y369, z369⟩, st369⟩ := X51.virtualBack hx (y := (⟨"com/example/reroutine/reroutine/replanning/ExecutedDay", "add", "(Lcom/example/reroutine/reroutine/scenario/Event;)V"⟩ : MethodName)) (z := (⟨"com/example/reroutine/reroutine/replanning/ExecutedDay", "add", "(Lcom/example/reroutine/reroutine/scenario/Event;)V"⟩ : MethodName)) hown (mvT hZ (hw _ (List.mem_of_getElem? (i := 104) rfl))) (mvT hZ (hw _ (List.mem_of_getElem? (i := 105) rfl))) (notFace_of_selects (args := #[]) (mvT hZ (hw _ (List.mem_of_getElem? (i := 107) rfl)))) (mvT hZ (hw _ (List.mem_of_getElem? (i := 107) rfl))) (mvT hZ (hw _ (List.mem_of_getElem? (i := 106) rfl))) (by decide) (backOf (W := 0) (rmAdd0 l Z a0 hw [] b10 ev21 t0 t1 t2 t3 d0 d1 d2 d3 oa oc (u1 &&& (2147483647 : Int32)) T51.heap n0 Z51 Od52 hst f66 ge_b10 ne_b10_ev21 f57 f58 f59) hZ (hw _ (List.mem_of_getElem? (i := 108) rfl)) (hw _ (List.mem_of_getElem? (i := 29) rfl)) (by decide) (by decide)) q369a q369c (g := (mkF m 124 #[iv u0, iv u1, iv u2, iv (7 : Int32), iv (u1 &&& (2147483647 : Int32)), rv sv1, rv sv3, rv sv6, rv b10, rv ev21, rv ev28, rv ev38, rv ev51, .unset] [(.ref ev21), (.ref b10)])) rfl (by rw [hml]; rfl) (Steps.refl _) (argsL := [(.ref ev21)]) (rest := []) (lenOf pd_14 rfl) rfl (by show 2 * 0 + _ ≤ _; exact Nat.le_of_eq rfl) (hb hby at_124) (fun _ _ => ⟨rfl, rfl, (by decide : 12 + 0 ≤ _), (by decide : 42 + 0 ≤ _)⟩)
    dsimp only [Pt.U, Pt.locs, Pt.cells, Pt.slots] at X369 l369 y369 z369 st369 hQ369
    subst y369 z369
    obtain ⟨rfl, Nq369, Kx369, Bq369⟩ := hQ369
    have N369 : Fr n0 L369 := by rw [l369]; exact Fr.app N51 Nq369
    obtain ⟨ar369, cl369, ty369, Kq369, gar369, Arq369⟩ := Kx369
    have Z369 : n0 ≤ T369.heap.size := Nat.le_trans Z51 Kq369.1
    have f370 := f58.keep Kq369 (ninS (Ne.symm ne_b10_ev21) (ninS (ne_arr f57 (hw _ (List.mem_of_getElem? (i := 51) rfl)) Arq369) nin0))
    have f371 := f59.keep Kq369 (ninS (Ne.symm ne_b10_ev21) (ninS (ne_arr f57 (hw _ (List.mem_of_getElem? (i := 51) rfl)) Arq369) nin0))
    have f372 := f61.keep Kq369 (ninS (Ne.symm ne_b10_ev28) (ninS (ne_arr f60 (hw _ (List.mem_of_getElem? (i := 51) rfl)) Arq369) nin0))
    have f373 := f62.keep Kq369 (ninS (Ne.symm ne_b10_ev28) (ninS (ne_arr f60 (hw _ (List.mem_of_getElem? (i := 51) rfl)) Arq369) nin0))
    have f374 := f64.keep Kq369 (ninS (Ne.symm ne_b10_ev38) (ninS (ne_arr f63 (hw _ (List.mem_of_getElem? (i := 51) rfl)) Arq369) nin0))
    have f375 := f65.keep Kq369 (ninS (Ne.symm ne_b10_ev38) (ninS (ne_arr f63 (hw _ (List.mem_of_getElem? (i := 51) rfl)) Arq369) nin0))
    have f376 := Fm51.keep Kq369 (ninS (Ne.symm ne_b10_ev51) (ninS (ne_arr Eq51 (hw _ (List.mem_of_getElem? (i := 51) rfl)) Arq369) nin0))
    have f377 := Ft51.keep Kq369 (ninS (Ne.symm ne_b10_ev51) (ninS (ne_arr Eq51 (hw _ (List.mem_of_getElem? (i := 51) rfl)) Arq369) nin0))
    have f378 := f56.keep Kq369
    have f379 := f57.keep Kq369
    have f380 := f60.keep Kq369
    have f381 := f63.keep Kq369
    have f382 := Eq51.keep Kq369
    have Od369 := Od52.keep Kq369 (allS ge_b10 (allS gar369 all0))
    obtain ⟨cq383, kq383, q383a, q383b, q383c⟩ := isOf hZ rfl f378
    obtain ⟨_, _, ⟨T383, L383, k383, n383⟩, -, X383, ⟨Lc383, hQ383, l383, y383, z383⟩, st383⟩ := X369.virtualBack hx (y := (⟨"com/example/reroutine/reroutine/replanning/ExecutedDay", "add", "(Lcom/example/reroutine/reroutine/scenario/Event;)V"⟩ : MethodName)) (z := (⟨"com/example/reroutine/reroutine/replanning/ExecutedDay", "add", "(Lcom/example/reroutine/reroutine/scenario/Event;)V"⟩ : MethodName)) hown (mvT hZ (hw _ (List.mem_of_getElem? (i := 104) rfl))) (mvT hZ (hw _ (List.mem_of_getElem? (i := 105) rfl))) (notFace_of_selects (args := #[]) (mvT hZ (hw _ (List.mem_of_getElem? (i := 107) rfl)))) (mvT hZ (hw _ (List.mem_of_getElem? (i := 107) rfl))) (mvT hZ (hw _ (List.mem_of_getElem? (i := 106) rfl))) (by decide) (backOf (W := 0) (rmAdd1 l Z a0 hw [] b10 ev28 t0 t1 t2 t3 d0 d1 d2 d3 oa oc (u1 &&& (2147483647 : Int32)) T369.heap n0 Z369 Od369 hst Bq369 ge_b10 ne_b10_ev28 f380 f372 f373) hZ (hw _ (List.mem_of_getElem? (i := 108) rfl)) (hw _ (List.mem_of_getElem? (i := 29) rfl)) (by decide) (by decide)) q383a q383c (g := (mkF m 136 #[iv u0, iv u1, iv u2, iv (7 : Int32), iv (u1 &&& (2147483647 : Int32)), rv sv1, rv sv3, rv sv6, rv b10, rv ev21, rv ev28, rv ev38, rv ev51, .unset] [(.ref ev28), (.ref b10)])) rfl (by rw [hml]; rfl) (Steps.refl _) (argsL := [(.ref ev28)]) (rest := []) (lenOf pd_14 rfl) rfl (by show 2 * 0 + _ ≤ _; exact Nat.le_of_eq rfl) (hb hby at_136) (fun _ _ => ⟨rfl, rfl, (by decide : 12 + 0 ≤ _), (by decide : 42 + 0 ≤ _)⟩)
    dsimp only [Pt.U, Pt.locs, Pt.cells, Pt.slots] at X383 l383 y383 z383 st383 hQ383
    subst y383 z383
    obtain ⟨rfl, Nq383, Kx383, Bq383⟩ := hQ383
    have N383 : Fr n0 L383 := by rw [l383]; exact Fr.app N369 Nq383
    obtain ⟨ar383, cl383, ty383, Kq383, gar383, Arq383⟩ := Kx383
    have Z383 : n0 ≤ T383.heap.size := Nat.le_trans Z369 Kq383.1
    have f384 := f370.keep Kq383 (ninS (Ne.symm ne_b10_ev21) (ninS (ne_arr f379 (hw _ (List.mem_of_getElem? (i := 51) rfl)) Arq383) nin0))
    have f385 := f371.keep Kq383 (ninS (Ne.symm ne_b10_ev21) (ninS (ne_arr f379 (hw _ (List.mem_of_getElem? (i := 51) rfl)) Arq383) nin0))
    have f386 := f372.keep Kq383 (ninS (Ne.symm ne_b10_ev28) (ninS (ne_arr f380 (hw _ (List.mem_of_getElem? (i := 51) rfl)) Arq383) nin0))
    have f387 := f373.keep Kq383 (ninS (Ne.symm ne_b10_ev28) (ninS (ne_arr f380 (hw _ (List.mem_of_getElem? (i := 51) rfl)) Arq383) nin0))
    have f388 := f374.keep Kq383 (ninS (Ne.symm ne_b10_ev38) (ninS (ne_arr f381 (hw _ (List.mem_of_getElem? (i := 51) rfl)) Arq383) nin0))
    have f389 := f375.keep Kq383 (ninS (Ne.symm ne_b10_ev38) (ninS (ne_arr f381 (hw _ (List.mem_of_getElem? (i := 51) rfl)) Arq383) nin0))
    have f390 := f376.keep Kq383 (ninS (Ne.symm ne_b10_ev51) (ninS (ne_arr f382 (hw _ (List.mem_of_getElem? (i := 51) rfl)) Arq383) nin0))
    have f391 := f377.keep Kq383 (ninS (Ne.symm ne_b10_ev51) (ninS (ne_arr f382 (hw _ (List.mem_of_getElem? (i := 51) rfl)) Arq383) nin0))
    have f392 := f378.keep Kq383
    have f393 := f379.keep Kq383
    have f394 := f380.keep Kq383
    have f395 := f381.keep Kq383
    have f396 := f382.keep Kq383
    have Od383 := Od369.keep Kq383 (allS ge_b10 (allS gar383 all0))
    obtain ⟨cq397, kq397, q397a, q397b, q397c⟩ := isOf hZ rfl f392
    obtain ⟨_, _, ⟨T397, L397, k397, n397⟩, -, X397, ⟨Lc397, hQ397, l397, y397, z397⟩, st397⟩ := X383.virtualBack hx (y := (⟨"com/example/reroutine/reroutine/replanning/ExecutedDay", "add", "(Lcom/example/reroutine/reroutine/scenario/Event;)V"⟩ : MethodName)) (z := (⟨"com/example/reroutine/reroutine/replanning/ExecutedDay", "add", "(Lcom/example/reroutine/reroutine/scenario/Event;)V"⟩ : MethodName)) hown (mvT hZ (hw _ (List.mem_of_getElem? (i := 104) rfl))) (mvT hZ (hw _ (List.mem_of_getElem? (i := 105) rfl))) (notFace_of_selects (args := #[]) (mvT hZ (hw _ (List.mem_of_getElem? (i := 107) rfl)))) (mvT hZ (hw _ (List.mem_of_getElem? (i := 107) rfl))) (mvT hZ (hw _ (List.mem_of_getElem? (i := 106) rfl))) (by decide) (backOf (W := 0) (rmAdd2 l Z a0 hw [] b10 ev38 t0 t1 t2 t3 d0 d1 d2 d3 oa oc (u1 &&& (2147483647 : Int32)) T383.heap n0 Z383 Od383 hst Bq383 ge_b10 ne_b10_ev38 f395 f388 f389) hZ (hw _ (List.mem_of_getElem? (i := 108) rfl)) (hw _ (List.mem_of_getElem? (i := 29) rfl)) (by decide) (by decide)) q397a q397c (g := (mkF m 148 #[iv u0, iv u1, iv u2, iv (7 : Int32), iv (u1 &&& (2147483647 : Int32)), rv sv1, rv sv3, rv sv6, rv b10, rv ev21, rv ev28, rv ev38, rv ev51, .unset] [(.ref ev38), (.ref b10)])) rfl (by rw [hml]; rfl) (Steps.refl _) (argsL := [(.ref ev38)]) (rest := []) (lenOf pd_14 rfl) rfl (by show 2 * 0 + _ ≤ _; exact Nat.le_of_eq rfl) (hb hby at_148) (fun _ _ => ⟨rfl, rfl, (by decide : 12 + 0 ≤ _), (by decide : 42 + 0 ≤ _)⟩)
    dsimp only [Pt.U, Pt.locs, Pt.cells, Pt.slots] at X397 l397 y397 z397 st397 hQ397
    subst y397 z397
    obtain ⟨rfl, Nq397, Kx397, Bq397⟩ := hQ397
    have N397 : Fr n0 L397 := by rw [l397]; exact Fr.app N383 Nq397
    obtain ⟨ar397, cl397, ty397, Kq397, gar397, Arq397⟩ := Kx397
    have Z397 : n0 ≤ T397.heap.size := Nat.le_trans Z383 Kq397.1
    have f398 := f384.keep Kq397 (ninS (Ne.symm ne_b10_ev21) (ninS (ne_arr f393 (hw _ (List.mem_of_getElem? (i := 51) rfl)) Arq397) nin0))
    have f399 := f385.keep Kq397 (ninS (Ne.symm ne_b10_ev21) (ninS (ne_arr f393 (hw _ (List.mem_of_getElem? (i := 51) rfl)) Arq397) nin0))
    have f400 := f386.keep Kq397 (ninS (Ne.symm ne_b10_ev28) (ninS (ne_arr f394 (hw _ (List.mem_of_getElem? (i := 51) rfl)) Arq397) nin0))
    have f401 := f387.keep Kq397 (ninS (Ne.symm ne_b10_ev28) (ninS (ne_arr f394 (hw _ (List.mem_of_getElem? (i := 51) rfl)) Arq397) nin0))
    have f402 := f388.keep Kq397 (ninS (Ne.symm ne_b10_ev38) (ninS (ne_arr f395 (hw _ (List.mem_of_getElem? (i := 51) rfl)) Arq397) nin0))
    have f403 := f389.keep Kq397 (ninS (Ne.symm ne_b10_ev38) (ninS (ne_arr f395 (hw _ (List.mem_of_getElem? (i := 51) rfl)) Arq397) nin0))
    have f404 := f390.keep Kq397 (ninS (Ne.symm ne_b10_ev51) (ninS (ne_arr f396 (hw _ (List.mem_of_getElem? (i := 51) rfl)) Arq397) nin0))
    have f405 := f391.keep Kq397 (ninS (Ne.symm ne_b10_ev51) (ninS (ne_arr f396 (hw _ (List.mem_of_getElem? (i := 51) rfl)) Arq397) nin0))
    have f406 := f392.keep Kq397
    have f407 := f393.keep Kq397
    have f408 := f394.keep Kq397
    have f409 := f395.keep Kq397
    have f410 := f396.keep Kq397
    have Od397 := Od383.keep Kq397 (allS ge_b10 (allS gar397 all0))
    obtain ⟨cq411, kq411, q411a, q411b, q411c⟩ := isOf hZ rfl f406
    obtain ⟨_, _, ⟨T411, L411, k411, n411⟩, -, X411, ⟨Lc411, hQ411, l411, y411, z411⟩, st411⟩ := X397.virtualBack hx (y := (⟨"com/example/reroutine/reroutine/replanning/ExecutedDay", "add", "(Lcom/example/reroutine/reroutine/scenario/Event;)V"⟩ : MethodName)) (z := (⟨"com/example/reroutine/reroutine/replanning/ExecutedDay", "add", "(Lcom/example/reroutine/reroutine/scenario/Event;)V"⟩ : MethodName)) hown (mvT hZ (hw _ (List.mem_of_getElem? (i := 104) rfl))) (mvT hZ (hw _ (List.mem_of_getElem? (i := 105) rfl))) (notFace_of_selects (args := #[]) (mvT hZ (hw _ (List.mem_of_getElem? (i := 107) rfl)))) (mvT hZ (hw _ (List.mem_of_getElem? (i := 107) rfl))) (mvT hZ (hw _ (List.mem_of_getElem? (i := 106) rfl))) (by decide) (backOf (W := 0) (rmAdd3 l Z a0 hw [] b10 ev51 t0 t1 t2 t3 d0 d1 d2 d3 oa oc (u1 &&& (2147483647 : Int32)) T397.heap n0 Z397 Od397 hst Bq397 ge_b10 ne_b10_ev51 f410 f404 f405) hZ (hw _ (List.mem_of_getElem? (i := 108) rfl)) (hw _ (List.mem_of_getElem? (i := 29) rfl)) (by decide) (by decide)) q411a q411c (g := (mkF m 160 #[iv u0, iv u1, iv u2, iv (7 : Int32), iv (u1 &&& (2147483647 : Int32)), rv sv1, rv sv3, rv sv6, rv b10, rv ev21, rv ev28, rv ev38, rv ev51, .unset] [(.ref ev51), (.ref b10)])) rfl (by rw [hml]; rfl) (Steps.refl _) (argsL := [(.ref ev51)]) (rest := []) (lenOf pd_14 rfl) rfl (by show 2 * 0 + _ ≤ _; exact Nat.le_of_eq rfl) (hb hby at_160) (fun _ _ => ⟨rfl, rfl, (by decide : 12 + 0 ≤ _), (by decide : 42 + 0 ≤ _)⟩)
    dsimp only [Pt.U, Pt.locs, Pt.cells, Pt.slots] at X411 l411 y411 z411 st411 hQ411
    subst y411 z411
    obtain ⟨rfl, Nq411, Kx411, Bq411⟩ := hQ411
    have N411 : Fr n0 L411 := by rw [l411]; exact Fr.app N397 Nq411
    obtain ⟨ar411, cl411, ty411, Kq411, gar411, Arq411⟩ := Kx411
    have Z411 : n0 ≤ T411.heap.size := Nat.le_trans Z397 Kq411.1
    have f412 := f398.keep Kq411 (ninS (Ne.symm ne_b10_ev21) (ninS (ne_arr f407 (hw _ (List.mem_of_getElem? (i := 51) rfl)) Arq411) nin0))
    have f413 := f399.keep Kq411 (ninS (Ne.symm ne_b10_ev21) (ninS (ne_arr f407 (hw _ (List.mem_of_getElem? (i := 51) rfl)) Arq411) nin0))
    have f414 := f400.keep Kq411 (ninS (Ne.symm ne_b10_ev28) (ninS (ne_arr f408 (hw _ (List.mem_of_getElem? (i := 51) rfl)) Arq411) nin0))
    have f415 := f401.keep Kq411 (ninS (Ne.symm ne_b10_ev28) (ninS (ne_arr f408 (hw _ (List.mem_of_getElem? (i := 51) rfl)) Arq411) nin0))
    have f416 := f402.keep Kq411 (ninS (Ne.symm ne_b10_ev38) (ninS (ne_arr f409 (hw _ (List.mem_of_getElem? (i := 51) rfl)) Arq411) nin0))
    have f417 := f403.keep Kq411 (ninS (Ne.symm ne_b10_ev38) (ninS (ne_arr f409 (hw _ (List.mem_of_getElem? (i := 51) rfl)) Arq411) nin0))
    have f418 := f404.keep Kq411 (ninS (Ne.symm ne_b10_ev51) (ninS (ne_arr f410 (hw _ (List.mem_of_getElem? (i := 51) rfl)) Arq411) nin0))
    have f419 := f405.keep Kq411 (ninS (Ne.symm ne_b10_ev51) (ninS (ne_arr f410 (hw _ (List.mem_of_getElem? (i := 51) rfl)) Arq411) nin0))
    have f420 := f406.keep Kq411
    have f421 := f407.keep Kq411
    have f422 := f408.keep Kq411
    have f423 := f409.keep Kq411
    have f424 := f410.keep Kq411
    have Od411 := Od397.keep Kq411 (allS ge_b10 (allS gar411 all0))
    obtain ⟨cq425, kq425, q425a, q425b, q425c⟩ := isOf hZ rfl f420
    obtain ⟨_, _, ⟨T425, L425, k425, n425⟩, -, X425, ⟨Lc425, hQ425, l425, y425, z425⟩, st425⟩ := X411.virtualBack hx (y := (⟨"com/example/reroutine/reroutine/replanning/ExecutedDay", "add", "(Lcom/example/reroutine/reroutine/scenario/Event;)V"⟩ : MethodName)) (z := (⟨"com/example/reroutine/reroutine/replanning/ExecutedDay", "add", "(Lcom/example/reroutine/reroutine/scenario/Event;)V"⟩ : MethodName)) hown (mvT hZ (hw _ (List.mem_of_getElem? (i := 104) rfl))) (mvT hZ (hw _ (List.mem_of_getElem? (i := 105) rfl))) (notFace_of_selects (args := #[]) (mvT hZ (hw _ (List.mem_of_getElem? (i := 107) rfl)))) (mvT hZ (hw _ (List.mem_of_getElem? (i := 107) rfl))) (mvT hZ (hw _ (List.mem_of_getElem? (i := 106) rfl))) (by decide) (backOf (W := 0) (rmAdd4 l Z a0 hw [] b10 ev21 t0 t1 t2 t3 d0 d1 d2 d3 oa oc (u1 &&& (2147483647 : Int32)) T411.heap n0 Z411 Od411 hst Bq411 ge_b10 ne_b10_ev21 f421 f412 f413) hZ (hw _ (List.mem_of_getElem? (i := 108) rfl)) (hw _ (List.mem_of_getElem? (i := 29) rfl)) (by decide) (by decide)) q425a q425c (g := (mkF m 172 #[iv u0, iv u1, iv u2, iv (7 : Int32), iv (u1 &&& (2147483647 : Int32)), rv sv1, rv sv3, rv sv6, rv b10, rv ev21, rv ev28, rv ev38, rv ev51, .unset] [(.ref ev21), (.ref b10)])) rfl (by rw [hml]; rfl) (Steps.refl _) (argsL := [(.ref ev21)]) (rest := []) (lenOf pd_14 rfl) rfl (by show 2 * 0 + _ ≤ _; exact Nat.le_of_eq rfl) (hb hby at_172) (fun _ _ => ⟨rfl, rfl, (by decide : 12 + 1 ≤ _), (by decide : 42 + 8 ≤ _)⟩)
    dsimp only [Pt.U, Pt.locs, Pt.cells, Pt.slots] at X425 l425 y425 z425 st425 hQ425
    subst y425 z425
    obtain ⟨rfl, Nq425, Kx425, Bq425⟩ := hQ425
    have N425 : Fr n0 L425 := by rw [l425]; exact Fr.app N411 Nq425
    obtain ⟨ar425, cl425, ty425, Kq425, gar425, Arq425⟩ := Kx425
    have Z425 : n0 ≤ T425.heap.size := Nat.le_trans Z411 Kq425.1
    have f426 := f412.keep Kq425 (ninS (Ne.symm ne_b10_ev21) (ninS (ne_arr f421 (hw _ (List.mem_of_getElem? (i := 51) rfl)) Arq425) nin0))
    have f427 := f413.keep Kq425 (ninS (Ne.symm ne_b10_ev21) (ninS (ne_arr f421 (hw _ (List.mem_of_getElem? (i := 51) rfl)) Arq425) nin0))
    have f428 := f414.keep Kq425 (ninS (Ne.symm ne_b10_ev28) (ninS (ne_arr f422 (hw _ (List.mem_of_getElem? (i := 51) rfl)) Arq425) nin0))
    have f429 := f415.keep Kq425 (ninS (Ne.symm ne_b10_ev28) (ninS (ne_arr f422 (hw _ (List.mem_of_getElem? (i := 51) rfl)) Arq425) nin0))
    have f430 := f416.keep Kq425 (ninS (Ne.symm ne_b10_ev38) (ninS (ne_arr f423 (hw _ (List.mem_of_getElem? (i := 51) rfl)) Arq425) nin0))
    have f431 := f417.keep Kq425 (ninS (Ne.symm ne_b10_ev38) (ninS (ne_arr f423 (hw _ (List.mem_of_getElem? (i := 51) rfl)) Arq425) nin0))
    have f432 := f418.keep Kq425 (ninS (Ne.symm ne_b10_ev51) (ninS (ne_arr f424 (hw _ (List.mem_of_getElem? (i := 51) rfl)) Arq425) nin0))
    have f433 := f419.keep Kq425 (ninS (Ne.symm ne_b10_ev51) (ninS (ne_arr f424 (hw _ (List.mem_of_getElem? (i := 51) rfl)) Arq425) nin0))
    have f434 := f420.keep Kq425
    have f435 := f421.keep Kq425
    have f436 := f422.keep Kq425
    have f437 := f423.keep Kq425
    have f438 := f424.keep Kq425
    have Od425 := Od411.keep Kq425 (allS ge_b10 (allS gar425 all0))
    obtain ⟨cq439, kq439, q439a, q439b, q439c⟩ := isOf hZ rfl f434
    obtain ⟨_, _, ⟨T439, L439, k439, n439⟩, -, X439, ⟨Lc439, hQ439, l439, y439, z439⟩, st439⟩ := X425.virtualBack hx (y := (⟨"com/example/reroutine/reroutine/replanning/ExecutedDay", "add", "(Lcom/example/reroutine/reroutine/scenario/Event;)V"⟩ : MethodName)) (z := (⟨"com/example/reroutine/reroutine/replanning/ExecutedDay", "add", "(Lcom/example/reroutine/reroutine/scenario/Event;)V"⟩ : MethodName)) hown (mvT hZ (hw _ (List.mem_of_getElem? (i := 104) rfl))) (mvT hZ (hw _ (List.mem_of_getElem? (i := 105) rfl))) (notFace_of_selects (args := #[]) (mvT hZ (hw _ (List.mem_of_getElem? (i := 107) rfl)))) (mvT hZ (hw _ (List.mem_of_getElem? (i := 107) rfl))) (mvT hZ (hw _ (List.mem_of_getElem? (i := 106) rfl))) (by decide) (backOf (W := 0) (rmAdd5 l Z a0 hw [] b10 ev28 t0 t1 t2 t3 d0 d1 d2 d3 oa oc (u1 &&& (2147483647 : Int32)) T425.heap n0 Z425 Od425 hst Bq425 ge_b10 ne_b10_ev28 f436 f428 f429) hZ (hw _ (List.mem_of_getElem? (i := 108) rfl)) (hw _ (List.mem_of_getElem? (i := 29) rfl)) (by decide) (by decide)) q439a q439c (g := (mkF m 184 #[iv u0, iv u1, iv u2, iv (7 : Int32), iv (u1 &&& (2147483647 : Int32)), rv sv1, rv sv3, rv sv6, rv b10, rv ev21, rv ev28, rv ev38, rv ev51, .unset] [(.ref ev28), (.ref b10)])) rfl (by rw [hml]; rfl) (Steps.refl _) (argsL := [(.ref ev28)]) (rest := []) (lenOf pd_14 rfl) rfl (by show 2 * 0 + _ ≤ _; exact Nat.le_of_eq rfl) (hb hby at_184) (fun _ _ => ⟨rfl, rfl, (by decide : 13 + 0 ≤ _), (by decide : 50 + 0 ≤ _)⟩)
    dsimp only [Pt.U, Pt.locs, Pt.cells, Pt.slots] at X439 l439 y439 z439 st439 hQ439
    subst y439 z439
    obtain ⟨rfl, Nq439, Kx439, Bq439⟩ := hQ439
    have N439 : Fr n0 L439 := by rw [l439]; exact Fr.app N425 Nq439
    obtain ⟨ar439, cl439, ty439, Kq439, gar439, Arq439⟩ := Kx439
    have Z439 : n0 ≤ T439.heap.size := Nat.le_trans Z425 Kq439.1
    have f440 := f426.keep Kq439 (ninS (Ne.symm ne_b10_ev21) (ninS (ne_arr f435 (hw _ (List.mem_of_getElem? (i := 51) rfl)) Arq439) nin0))
    have f441 := f427.keep Kq439 (ninS (Ne.symm ne_b10_ev21) (ninS (ne_arr f435 (hw _ (List.mem_of_getElem? (i := 51) rfl)) Arq439) nin0))
    have f442 := f428.keep Kq439 (ninS (Ne.symm ne_b10_ev28) (ninS (ne_arr f436 (hw _ (List.mem_of_getElem? (i := 51) rfl)) Arq439) nin0))
    have f443 := f429.keep Kq439 (ninS (Ne.symm ne_b10_ev28) (ninS (ne_arr f436 (hw _ (List.mem_of_getElem? (i := 51) rfl)) Arq439) nin0))
    have f444 := f430.keep Kq439 (ninS (Ne.symm ne_b10_ev38) (ninS (ne_arr f437 (hw _ (List.mem_of_getElem? (i := 51) rfl)) Arq439) nin0))
    have f445 := f431.keep Kq439 (ninS (Ne.symm ne_b10_ev38) (ninS (ne_arr f437 (hw _ (List.mem_of_getElem? (i := 51) rfl)) Arq439) nin0))
    have f446 := f432.keep Kq439 (ninS (Ne.symm ne_b10_ev51) (ninS (ne_arr f438 (hw _ (List.mem_of_getElem? (i := 51) rfl)) Arq439) nin0))
    have f447 := f433.keep Kq439 (ninS (Ne.symm ne_b10_ev51) (ninS (ne_arr f438 (hw _ (List.mem_of_getElem? (i := 51) rfl)) Arq439) nin0))
    have f448 := f434.keep Kq439
    have f449 := f435.keep Kq439
    have f450 := f436.keep Kq439
    have f451 := f437.keep Kq439
    have f452 := f438.keep Kq439
    have Od439 := Od425.keep Kq439 (allS ge_b10 (allS gar439 all0))
    obtain ⟨cq453, kq453, q453a, q453b, q453c⟩ := isOf hZ rfl f448
    obtain ⟨_, _, ⟨T453, L453, k453, n453⟩, -, X453, ⟨Lc453, hQ453, l453, y453, z453⟩, st453⟩ := X439.virtualBack hx (y := (⟨"com/example/reroutine/reroutine/replanning/ExecutedDay", "add", "(Lcom/example/reroutine/reroutine/scenario/Event;)V"⟩ : MethodName)) (z := (⟨"com/example/reroutine/reroutine/replanning/ExecutedDay", "add", "(Lcom/example/reroutine/reroutine/scenario/Event;)V"⟩ : MethodName)) hown (mvT hZ (hw _ (List.mem_of_getElem? (i := 104) rfl))) (mvT hZ (hw _ (List.mem_of_getElem? (i := 105) rfl))) (notFace_of_selects (args := #[]) (mvT hZ (hw _ (List.mem_of_getElem? (i := 107) rfl)))) (mvT hZ (hw _ (List.mem_of_getElem? (i := 107) rfl))) (mvT hZ (hw _ (List.mem_of_getElem? (i := 106) rfl))) (by decide) (backOf (W := 0) (rmAdd6 l Z a0 hw [] b10 ev38 t0 t1 t2 t3 d0 d1 d2 d3 oa oc (u1 &&& (2147483647 : Int32)) T439.heap n0 Z439 Od439 hst Bq439 ge_b10 ne_b10_ev38 f451 f444 f445) hZ (hw _ (List.mem_of_getElem? (i := 108) rfl)) (hw _ (List.mem_of_getElem? (i := 29) rfl)) (by decide) (by decide)) q453a q453c (g := (mkF m 197 #[iv u0, iv u1, iv u2, iv (7 : Int32), iv (u1 &&& (2147483647 : Int32)), rv sv1, rv sv3, rv sv6, rv b10, rv ev21, rv ev28, rv ev38, rv ev51, .unset] [(.ref ev38), (.ref b10)])) rfl (by rw [hml]; rfl) (Steps.refl _) (argsL := [(.ref ev38)]) (rest := []) (lenOf pd_14 rfl) rfl (by show 2 * 0 + _ ≤ _; exact Nat.le_of_eq rfl) (hb hby at_197) (fun _ _ => ⟨rfl, rfl, (by decide : 13 + 0 ≤ _), (by decide : 50 + 0 ≤ _)⟩)
    dsimp only [Pt.U, Pt.locs, Pt.cells, Pt.slots] at X453 l453 y453 z453 st453 hQ453
    subst y453 z453
    obtain ⟨rfl, Nq453, Kx453, Bq453⟩ := hQ453
    have N453 : Fr n0 L453 := by rw [l453]; exact Fr.app N439 Nq453
    obtain ⟨ar453, cl453, ty453, Kq453, gar453, Arq453⟩ := Kx453
    have Z453 : n0 ≤ T453.heap.size := Nat.le_trans Z439 Kq453.1
    have f454 := f440.keep Kq453 (ninS (Ne.symm ne_b10_ev21) (ninS (ne_arr f449 (hw _ (List.mem_of_getElem? (i := 51) rfl)) Arq453) nin0))
    have f455 := f441.keep Kq453 (ninS (Ne.symm ne_b10_ev21) (ninS (ne_arr f449 (hw _ (List.mem_of_getElem? (i := 51) rfl)) Arq453) nin0))
    have f456 := f442.keep Kq453 (ninS (Ne.symm ne_b10_ev28) (ninS (ne_arr f450 (hw _ (List.mem_of_getElem? (i := 51) rfl)) Arq453) nin0))
    have f457 := f443.keep Kq453 (ninS (Ne.symm ne_b10_ev28) (ninS (ne_arr f450 (hw _ (List.mem_of_getElem? (i := 51) rfl)) Arq453) nin0))
    have f458 := f444.keep Kq453 (ninS (Ne.symm ne_b10_ev38) (ninS (ne_arr f451 (hw _ (List.mem_of_getElem? (i := 51) rfl)) Arq453) nin0))
    have f459 := f445.keep Kq453 (ninS (Ne.symm ne_b10_ev38) (ninS (ne_arr f451 (hw _ (List.mem_of_getElem? (i := 51) rfl)) Arq453) nin0))
    have f460 := f446.keep Kq453 (ninS (Ne.symm ne_b10_ev51) (ninS (ne_arr f452 (hw _ (List.mem_of_getElem? (i := 51) rfl)) Arq453) nin0))
    have f461 := f447.keep Kq453 (ninS (Ne.symm ne_b10_ev51) (ninS (ne_arr f452 (hw _ (List.mem_of_getElem? (i := 51) rfl)) Arq453) nin0))
    have f462 := f448.keep Kq453
    have f463 := f449.keep Kq453
    have f464 := f450.keep Kq453
    have f465 := f451.keep Kq453
    have f466 := f452.keep Kq453
    have Od453 := Od439.keep Kq453 (allS ge_b10 (allS gar453 all0))
    obtain ⟨cq467, kq467, q467a, q467b, q467c⟩ := isOf hZ rfl f462
    obtain ⟨_, _, ⟨T467, L467, k467, n467⟩, -, X467, ⟨Lc467, hQ467, l467, y467, z467⟩, st467⟩ := X453.virtualBack hx (y := (⟨"com/example/reroutine/reroutine/replanning/ExecutedDay", "activitiesReached", "()I"⟩ : MethodName)) (z := (⟨"com/example/reroutine/reroutine/replanning/ExecutedDay", "activitiesReached", "()I"⟩ : MethodName)) hown (mvT hZ (hw _ (List.mem_of_getElem? (i := 97) rfl))) (mvT hZ (hw _ (List.mem_of_getElem? (i := 98) rfl))) (notFace_of_selects (args := #[]) (mvT hZ (hw _ (List.mem_of_getElem? (i := 100) rfl)))) (mvT hZ (hw _ (List.mem_of_getElem? (i := 100) rfl))) (mvT hZ (hw _ (List.mem_of_getElem? (i := 99) rfl))) (by decide) (backOf (W := 0) (rmQ7 l Z a0 hw [] b10 t0 t1 t2 t3 d0 d1 d2 d3 oa oc T453.heap n0 Z453 Od453 hst Bq453.2.1) hZ (hw _ (List.mem_of_getElem? (i := 101) rfl)) (hw _ (List.mem_of_getElem? (i := 29) rfl)) (by decide) (by decide)) q467a q467c (g := (mkF m 241 #[iv u0, iv u1, iv u2, iv (7 : Int32), iv (u1 &&& (2147483647 : Int32)), rv sv1, rv sv3, rv sv6, rv b10, rv ev21, rv ev28, rv ev38, rv ev51, iv (2 : Int32)] [(.ref b10)])) rfl (by rw [hml]; rfl) (Steps.refl _) (argsL := []) (rest := []) (lenOf pd_9 rfl) rfl (by show 2 * 0 + _ ≤ _; exact Nat.le_of_eq rfl) (hb hby at_241) (fun _ _ => ⟨rfl, rfl, (by decide : 13 + 0 ≤ _), (by decide : 50 + 0 ≤ _)⟩)
    dsimp only [Pt.U, Pt.locs, Pt.cells, Pt.slots] at X467 l467 y467 z467 st467 hQ467
    subst y467 z467
    obtain ⟨rfl, Nq467, eq467⟩ := hQ467
    have N467 : Fr n0 L467 := by rw [l467]; exact Fr.app N453 Nq467
    obtain ⟨fs, hr, hrun, hended, hW, hsame⟩ := X467.leave (v := some (.int (1 : Int32))) (fun h => by rw [Bd.returns] at h; cases h)
    refine ⟨_, _, S67 _ ?_, hrun, hended, _, _, rfl, ?_, ⟨_, rfl⟩, hW, hsame.mono (by decide) (by decide)⟩
    · skip
      show Steps p.tables e below (T51.setTop (mkF m 117 #[iv u0, iv u1, iv u2, iv (7 : Int32), iv (u1 &&& (2147483647 : Int32)), rv sv1, rv sv3, rv sv6, rv b10, rv ev21, rv ev28, rv ev38, rv ev51, .unset] [(.int (7 : Int32))])) _
      refine XS.ifNo X51.here hx rfl (hb hby at_117) rfl ((if0 _ _).trans (tlt (by decide : (0 : Int32) < (7 : Int32))).2.2.2) ?_
      show Steps p.tables e below (T51.setTop (mkF m 120 #[iv u0, iv u1, iv u2, iv (7 : Int32), iv (u1 &&& (2147483647 : Int32)), rv sv1, rv sv3, rv sv6, rv b10, rv ev21, rv ev28, rv ev38, rv ev51, .unset] [])) _
      refine XS.aload X51.here hx rfl (hb hby at_120) rfl rfl ?_
      show Steps p.tables e below (T51.setTop (mkF m 122 #[iv u0, iv u1, iv u2, iv (7 : Int32), iv (u1 &&& (2147483647 : Int32)), rv sv1, rv sv3, rv sv6, rv b10, rv ev21, rv ev28, rv ev38, rv ev51, .unset] [(.ref b10)])) _
      refine XS.aload X51.here hx rfl (hb hby at_122) rfl rfl ?_
      show Steps p.tables e below (T51.setTop (mkF m 124 #[iv u0, iv u1, iv u2, iv (7 : Int32), iv (u1 &&& (2147483647 : Int32)), rv sv1, rv sv3, rv sv6, rv b10, rv ev21, rv ev28, rv ev38, rv ev51, .unset] [(.ref ev21), (.ref b10)])) _
      refine st369.trans ?_
      show Steps p.tables e below (T369.setTop (mkF m 127 #[iv u0, iv u1, iv u2, iv (7 : Int32), iv (u1 &&& (2147483647 : Int32)), rv sv1, rv sv3, rv sv6, rv b10, rv ev21, rv ev28, rv ev38, rv ev51, .unset] [])) _
      refine XS.iloadN X369.here hx rfl (hb hby at_127) rfl ?_
      show Steps p.tables e below (T369.setTop (mkF m 128 #[iv u0, iv u1, iv u2, iv (7 : Int32), iv (u1 &&& (2147483647 : Int32)), rv sv1, rv sv3, rv sv6, rv b10, rv ev21, rv ev28, rv ev38, rv ev51, .unset] [(.int (7 : Int32))])) _
      refine XS.iconst X369.here hx rfl (hb hby at_128) ?_
      show Steps p.tables e below (T369.setTop (mkF m 129 #[iv u0, iv u1, iv u2, iv (7 : Int32), iv (u1 &&& (2147483647 : Int32)), rv sv1, rv sv3, rv sv6, rv b10, rv ev21, rv ev28, rv ev38, rv ev51, .unset] [(.int (1 : Int32)), (.int (7 : Int32))])) _
      refine XS.icmpNo X369.here hx rfl (hb hby at_129) rfl (tlt (by decide : (1 : Int32) < (7 : Int32))).2.2.2 ?_
      show Steps p.tables e below (T369.setTop (mkF m 132 #[iv u0, iv u1, iv u2, iv (7 : Int32), iv (u1 &&& (2147483647 : Int32)), rv sv1, rv sv3, rv sv6, rv b10, rv ev21, rv ev28, rv ev38, rv ev51, .unset] [])) _
      refine XS.aload X369.here hx rfl (hb hby at_132) rfl rfl ?_
      show Steps p.tables e below (T369.setTop (mkF m 134 #[iv u0, iv u1, iv u2, iv (7 : Int32), iv (u1 &&& (2147483647 : Int32)), rv sv1, rv sv3, rv sv6, rv b10, rv ev21, rv ev28, rv ev38, rv ev51, .unset] [(.ref b10)])) _
      refine XS.aload X369.here hx rfl (hb hby at_134) rfl rfl ?_
      show Steps p.tables e below (T369.setTop (mkF m 136 #[iv u0, iv u1, iv u2, iv (7 : Int32), iv (u1 &&& (2147483647 : Int32)), rv sv1, rv sv3, rv sv6, rv b10, rv ev21, rv ev28, rv ev38, rv ev51, .unset] [(.ref ev28), (.ref b10)])) _
      refine st383.trans ?_
      show Steps p.tables e below (T383.setTop (mkF m 139 #[iv u0, iv u1, iv u2, iv (7 : Int32), iv (u1 &&& (2147483647 : Int32)), rv sv1, rv sv3, rv sv6, rv b10, rv ev21, rv ev28, rv ev38, rv ev51, .unset] [])) _
      refine XS.iloadN X383.here hx rfl (hb hby at_139) rfl ?_
      show Steps p.tables e below (T383.setTop (mkF m 140 #[iv u0, iv u1, iv u2, iv (7 : Int32), iv (u1 &&& (2147483647 : Int32)), rv sv1, rv sv3, rv sv6, rv b10, rv ev21, rv ev28, rv ev38, rv ev51, .unset] [(.int (7 : Int32))])) _
      refine XS.iconst X383.here hx rfl (hb hby at_140) ?_
      show Steps p.tables e below (T383.setTop (mkF m 141 #[iv u0, iv u1, iv u2, iv (7 : Int32), iv (u1 &&& (2147483647 : Int32)), rv sv1, rv sv3, rv sv6, rv b10, rv ev21, rv ev28, rv ev38, rv ev51, .unset] [(.int (2 : Int32)), (.int (7 : Int32))])) _
      refine XS.icmpNo X383.here hx rfl (hb hby at_141) rfl (tlt (by decide : (2 : Int32) < (7 : Int32))).2.2.2 ?_
      show Steps p.tables e below (T383.setTop (mkF m 144 #[iv u0, iv u1, iv u2, iv (7 : Int32), iv (u1 &&& (2147483647 : Int32)), rv sv1, rv sv3, rv sv6, rv b10, rv ev21, rv ev28, rv ev38, rv ev51, .unset] [])) _
      refine XS.aload X383.here hx rfl (hb hby at_144) rfl rfl ?_
      show Steps p.tables e below (T383.setTop (mkF m 146 #[iv u0, iv u1, iv u2, iv (7 : Int32), iv (u1 &&& (2147483647 : Int32)), rv sv1, rv sv3, rv sv6, rv b10, rv ev21, rv ev28, rv ev38, rv ev51, .unset] [(.ref b10)])) _
      refine XS.aload X383.here hx rfl (hb hby at_146) rfl rfl ?_
      show Steps p.tables e below (T383.setTop (mkF m 148 #[iv u0, iv u1, iv u2, iv (7 : Int32), iv (u1 &&& (2147483647 : Int32)), rv sv1, rv sv3, rv sv6, rv b10, rv ev21, rv ev28, rv ev38, rv ev51, .unset] [(.ref ev38), (.ref b10)])) _
      refine st397.trans ?_
      show Steps p.tables e below (T397.setTop (mkF m 151 #[iv u0, iv u1, iv u2, iv (7 : Int32), iv (u1 &&& (2147483647 : Int32)), rv sv1, rv sv3, rv sv6, rv b10, rv ev21, rv ev28, rv ev38, rv ev51, .unset] [])) _
      refine XS.iloadN X397.here hx rfl (hb hby at_151) rfl ?_
      show Steps p.tables e below (T397.setTop (mkF m 152 #[iv u0, iv u1, iv u2, iv (7 : Int32), iv (u1 &&& (2147483647 : Int32)), rv sv1, rv sv3, rv sv6, rv b10, rv ev21, rv ev28, rv ev38, rv ev51, .unset] [(.int (7 : Int32))])) _
      refine XS.iconst X397.here hx rfl (hb hby at_152) ?_
      show Steps p.tables e below (T397.setTop (mkF m 153 #[iv u0, iv u1, iv u2, iv (7 : Int32), iv (u1 &&& (2147483647 : Int32)), rv sv1, rv sv3, rv sv6, rv b10, rv ev21, rv ev28, rv ev38, rv ev51, .unset] [(.int (3 : Int32)), (.int (7 : Int32))])) _
      refine XS.icmpNo X397.here hx rfl (hb hby at_153) rfl (tlt (by decide : (3 : Int32) < (7 : Int32))).2.2.2 ?_
      show Steps p.tables e below (T397.setTop (mkF m 156 #[iv u0, iv u1, iv u2, iv (7 : Int32), iv (u1 &&& (2147483647 : Int32)), rv sv1, rv sv3, rv sv6, rv b10, rv ev21, rv ev28, rv ev38, rv ev51, .unset] [])) _
      refine XS.aload X397.here hx rfl (hb hby at_156) rfl rfl ?_
      show Steps p.tables e below (T397.setTop (mkF m 158 #[iv u0, iv u1, iv u2, iv (7 : Int32), iv (u1 &&& (2147483647 : Int32)), rv sv1, rv sv3, rv sv6, rv b10, rv ev21, rv ev28, rv ev38, rv ev51, .unset] [(.ref b10)])) _
      refine XS.aload X397.here hx rfl (hb hby at_158) rfl rfl ?_
      show Steps p.tables e below (T397.setTop (mkF m 160 #[iv u0, iv u1, iv u2, iv (7 : Int32), iv (u1 &&& (2147483647 : Int32)), rv sv1, rv sv3, rv sv6, rv b10, rv ev21, rv ev28, rv ev38, rv ev51, .unset] [(.ref ev51), (.ref b10)])) _
      refine st411.trans ?_
      show Steps p.tables e below (T411.setTop (mkF m 163 #[iv u0, iv u1, iv u2, iv (7 : Int32), iv (u1 &&& (2147483647 : Int32)), rv sv1, rv sv3, rv sv6, rv b10, rv ev21, rv ev28, rv ev38, rv ev51, .unset] [])) _
      refine XS.iloadN X411.here hx rfl (hb hby at_163) rfl ?_
      show Steps p.tables e below (T411.setTop (mkF m 164 #[iv u0, iv u1, iv u2, iv (7 : Int32), iv (u1 &&& (2147483647 : Int32)), rv sv1, rv sv3, rv sv6, rv b10, rv ev21, rv ev28, rv ev38, rv ev51, .unset] [(.int (7 : Int32))])) _
      refine XS.iconst X411.here hx rfl (hb hby at_164) ?_
      show Steps p.tables e below (T411.setTop (mkF m 165 #[iv u0, iv u1, iv u2, iv (7 : Int32), iv (u1 &&& (2147483647 : Int32)), rv sv1, rv sv3, rv sv6, rv b10, rv ev21, rv ev28, rv ev38, rv ev51, .unset] [(.int (4 : Int32)), (.int (7 : Int32))])) _
      refine XS.icmpNo X411.here hx rfl (hb hby at_165) rfl (tlt (by decide : (4 : Int32) < (7 : Int32))).2.2.2 ?_
      show Steps p.tables e below (T411.setTop (mkF m 168 #[iv u0, iv u1, iv u2, iv (7 : Int32), iv (u1 &&& (2147483647 : Int32)), rv sv1, rv sv3, rv sv6, rv b10, rv ev21, rv ev28, rv ev38, rv ev51, .unset] [])) _
      refine XS.aload X411.here hx rfl (hb hby at_168) rfl rfl ?_
      show Steps p.tables e below (T411.setTop (mkF m 170 #[iv u0, iv u1, iv u2, iv (7 : Int32), iv (u1 &&& (2147483647 : Int32)), rv sv1, rv sv3, rv sv6, rv b10, rv ev21, rv ev28, rv ev38, rv ev51, .unset] [(.ref b10)])) _
      refine XS.aload X411.here hx rfl (hb hby at_170) rfl rfl ?_
      show Steps p.tables e below (T411.setTop (mkF m 172 #[iv u0, iv u1, iv u2, iv (7 : Int32), iv (u1 &&& (2147483647 : Int32)), rv sv1, rv sv3, rv sv6, rv b10, rv ev21, rv ev28, rv ev38, rv ev51, .unset] [(.ref ev21), (.ref b10)])) _
      refine st425.trans ?_
      show Steps p.tables e below (T425.setTop (mkF m 175 #[iv u0, iv u1, iv u2, iv (7 : Int32), iv (u1 &&& (2147483647 : Int32)), rv sv1, rv sv3, rv sv6, rv b10, rv ev21, rv ev28, rv ev38, rv ev51, .unset] [])) _
      refine XS.iloadN X425.here hx rfl (hb hby at_175) rfl ?_
      show Steps p.tables e below (T425.setTop (mkF m 176 #[iv u0, iv u1, iv u2, iv (7 : Int32), iv (u1 &&& (2147483647 : Int32)), rv sv1, rv sv3, rv sv6, rv b10, rv ev21, rv ev28, rv ev38, rv ev51, .unset] [(.int (7 : Int32))])) _
      refine XS.iconst X425.here hx rfl (hb hby at_176) ?_
      show Steps p.tables e below (T425.setTop (mkF m 177 #[iv u0, iv u1, iv u2, iv (7 : Int32), iv (u1 &&& (2147483647 : Int32)), rv sv1, rv sv3, rv sv6, rv b10, rv ev21, rv ev28, rv ev38, rv ev51, .unset] [(.int (5 : Int32)), (.int (7 : Int32))])) _
      refine XS.icmpNo X425.here hx rfl (hb hby at_177) rfl (tlt (by decide : (5 : Int32) < (7 : Int32))).2.2.2 ?_
      show Steps p.tables e below (T425.setTop (mkF m 180 #[iv u0, iv u1, iv u2, iv (7 : Int32), iv (u1 &&& (2147483647 : Int32)), rv sv1, rv sv3, rv sv6, rv b10, rv ev21, rv ev28, rv ev38, rv ev51, .unset] [])) _
      refine XS.aload X425.here hx rfl (hb hby at_180) rfl rfl ?_
      show Steps p.tables e below (T425.setTop (mkF m 182 #[iv u0, iv u1, iv u2, iv (7 : Int32), iv (u1 &&& (2147483647 : Int32)), rv sv1, rv sv3, rv sv6, rv b10, rv ev21, rv ev28, rv ev38, rv ev51, .unset] [(.ref b10)])) _
      refine XS.aload X425.here hx rfl (hb hby at_182) rfl rfl ?_
      show Steps p.tables e below (T425.setTop (mkF m 184 #[iv u0, iv u1, iv u2, iv (7 : Int32), iv (u1 &&& (2147483647 : Int32)), rv sv1, rv sv3, rv sv6, rv b10, rv ev21, rv ev28, rv ev38, rv ev51, .unset] [(.ref ev28), (.ref b10)])) _
      refine st439.trans ?_
      show Steps p.tables e below (T439.setTop (mkF m 187 #[iv u0, iv u1, iv u2, iv (7 : Int32), iv (u1 &&& (2147483647 : Int32)), rv sv1, rv sv3, rv sv6, rv b10, rv ev21, rv ev28, rv ev38, rv ev51, .unset] [])) _
      refine XS.iloadN X439.here hx rfl (hb hby at_187) rfl ?_
      show Steps p.tables e below (T439.setTop (mkF m 188 #[iv u0, iv u1, iv u2, iv (7 : Int32), iv (u1 &&& (2147483647 : Int32)), rv sv1, rv sv3, rv sv6, rv b10, rv ev21, rv ev28, rv ev38, rv ev51, .unset] [(.int (7 : Int32))])) _
      refine XS.bipush X439.here hx rfl (hb hby at_188) ?_
      show Steps p.tables e below (T439.setTop (mkF m 190 #[iv u0, iv u1, iv u2, iv (7 : Int32), iv (u1 &&& (2147483647 : Int32)), rv sv1, rv sv3, rv sv6, rv b10, rv ev21, rv ev28, rv ev38, rv ev51, .unset] [(.int (6 : Int32)), (.int (7 : Int32))])) _
      refine XS.icmpNo X439.here hx rfl (hb hby at_190) rfl (tlt (by decide : (6 : Int32) < (7 : Int32))).2.2.2 ?_
      show Steps p.tables e below (T439.setTop (mkF m 193 #[iv u0, iv u1, iv u2, iv (7 : Int32), iv (u1 &&& (2147483647 : Int32)), rv sv1, rv sv3, rv sv6, rv b10, rv ev21, rv ev28, rv ev38, rv ev51, .unset] [])) _
      refine XS.aload X439.here hx rfl (hb hby at_193) rfl rfl ?_
      show Steps p.tables e below (T439.setTop (mkF m 195 #[iv u0, iv u1, iv u2, iv (7 : Int32), iv (u1 &&& (2147483647 : Int32)), rv sv1, rv sv3, rv sv6, rv b10, rv ev21, rv ev28, rv ev38, rv ev51, .unset] [(.ref b10)])) _
      refine XS.aload X439.here hx rfl (hb hby at_195) rfl rfl ?_
      show Steps p.tables e below (T439.setTop (mkF m 197 #[iv u0, iv u1, iv u2, iv (7 : Int32), iv (u1 &&& (2147483647 : Int32)), rv sv1, rv sv3, rv sv6, rv b10, rv ev21, rv ev28, rv ev38, rv ev51, .unset] [(.ref ev38), (.ref b10)])) _
      refine st453.trans ?_
      show Steps p.tables e below (T453.setTop (mkF m 200 #[iv u0, iv u1, iv u2, iv (7 : Int32), iv (u1 &&& (2147483647 : Int32)), rv sv1, rv sv3, rv sv6, rv b10, rv ev21, rv ev28, rv ev38, rv ev51, .unset] [])) _
      refine XS.iloadN X453.here hx rfl (hb hby at_200) rfl ?_
      show Steps p.tables e below (T453.setTop (mkF m 201 #[iv u0, iv u1, iv u2, iv (7 : Int32), iv (u1 &&& (2147483647 : Int32)), rv sv1, rv sv3, rv sv6, rv b10, rv ev21, rv ev28, rv ev38, rv ev51, .unset] [(.int (7 : Int32))])) _
      refine XS.bipush X453.here hx rfl (hb hby at_201) ?_
      show Steps p.tables e below (T453.setTop (mkF m 203 #[iv u0, iv u1, iv u2, iv (7 : Int32), iv (u1 &&& (2147483647 : Int32)), rv sv1, rv sv3, rv sv6, rv b10, rv ev21, rv ev28, rv ev38, rv ev51, .unset] [(.int (7 : Int32)), (.int (7 : Int32))])) _
      refine XS.icmpYes X453.here hx rfl (pc0 := 203) (pc' := 213) rfl (hb hby at_203) rfl (flt (by decide : ¬ ((7 : Int32) < (7 : Int32)))).2.2.2 (by decide) (by decide) ?_
      show Steps p.tables e below (T453.setTop (mkF m 213 #[iv u0, iv u1, iv u2, iv (7 : Int32), iv (u1 &&& (2147483647 : Int32)), rv sv1, rv sv3, rv sv6, rv b10, rv ev21, rv ev28, rv ev38, rv ev51, .unset] [])) _
      refine XS.iloadN X453.here hx rfl (hb hby at_213) rfl ?_
      show Steps p.tables e below (T453.setTop (mkF m 214 #[iv u0, iv u1, iv u2, iv (7 : Int32), iv (u1 &&& (2147483647 : Int32)), rv sv1, rv sv3, rv sv6, rv b10, rv ev21, rv ev28, rv ev38, rv ev51, .unset] [(.int (7 : Int32))])) _
      refine XS.iconst X453.here hx rfl (hb hby at_214) ?_
      show Steps p.tables e below (T453.setTop (mkF m 215 #[iv u0, iv u1, iv u2, iv (7 : Int32), iv (u1 &&& (2147483647 : Int32)), rv sv1, rv sv3, rv sv6, rv b10, rv ev21, rv ev28, rv ev38, rv ev51, .unset] [(.int (4 : Int32)), (.int (7 : Int32))])) _
      refine XS.icmpYes X453.here hx rfl (pc0 := 215) (pc' := 224) rfl (hb hby at_215) rfl (flt (by decide : ¬ ((7 : Int32) < (4 : Int32)))).2.1 (by decide) (by decide) ?_
      show Steps p.tables e below (T453.setTop (mkF m 224 #[iv u0, iv u1, iv u2, iv (7 : Int32), iv (u1 &&& (2147483647 : Int32)), rv sv1, rv sv3, rv sv6, rv b10, rv ev21, rv ev28, rv ev38, rv ev51, .unset] [])) _
      refine XS.iloadN X453.here hx rfl (hb hby at_224) rfl ?_
      show Steps p.tables e below (T453.setTop (mkF m 225 #[iv u0, iv u1, iv u2, iv (7 : Int32), iv (u1 &&& (2147483647 : Int32)), rv sv1, rv sv3, rv sv6, rv b10, rv ev21, rv ev28, rv ev38, rv ev51, .unset] [(.int (7 : Int32))])) _
      refine XS.bipush X453.here hx rfl (hb hby at_225) ?_
      show Steps p.tables e below (T453.setTop (mkF m 227 #[iv u0, iv u1, iv u2, iv (7 : Int32), iv (u1 &&& (2147483647 : Int32)), rv sv1, rv sv3, rv sv6, rv b10, rv ev21, rv ev28, rv ev38, rv ev51, .unset] [(.int (8 : Int32)), (.int (7 : Int32))])) _
      refine XS.icmpNo X453.here hx rfl (hb hby at_227) rfl (tlt (by decide : (7 : Int32) < (8 : Int32))).2.1 ?_
      show Steps p.tables e below (T453.setTop (mkF m 230 #[iv u0, iv u1, iv u2, iv (7 : Int32), iv (u1 &&& (2147483647 : Int32)), rv sv1, rv sv3, rv sv6, rv b10, rv ev21, rv ev28, rv ev38, rv ev51, .unset] [])) _
      refine XS.iconst X453.here hx rfl (hb hby at_230) ?_
      show Steps p.tables e below (T453.setTop (mkF m 231 #[iv u0, iv u1, iv u2, iv (7 : Int32), iv (u1 &&& (2147483647 : Int32)), rv sv1, rv sv3, rv sv6, rv b10, rv ev21, rv ev28, rv ev38, rv ev51, .unset] [(.int (2 : Int32))])) _
      refine XS.istore X453.here hx rfl (hb hby at_231) rfl (l' := #[iv u0, iv u1, iv u2, iv (7 : Int32), iv (u1 &&& (2147483647 : Int32)), rv sv1, rv sv3, rv sv6, rv b10, rv ev21, rv ev28, rv ev38, rv ev51, iv (2 : Int32)]) rfl ?_
      show Steps p.tables e below (T453.setTop (mkF m 233 #[iv u0, iv u1, iv u2, iv (7 : Int32), iv (u1 &&& (2147483647 : Int32)), rv sv1, rv sv3, rv sv6, rv b10, rv ev21, rv ev28, rv ev38, rv ev51, iv (2 : Int32)] [])) _
      refine XS.goto X453.here hx rfl (pc0 := 233) (pc' := 239) rfl (hb hby at_233) (by decide) (by decide) ?_
      show Steps p.tables e below (T453.setTop (mkF m 239 #[iv u0, iv u1, iv u2, iv (7 : Int32), iv (u1 &&& (2147483647 : Int32)), rv sv1, rv sv3, rv sv6, rv b10, rv ev21, rv ev28, rv ev38, rv ev51, iv (2 : Int32)] [])) _
      refine XS.aload X453.here hx rfl (hb hby at_239) rfl rfl ?_
      show Steps p.tables e below (T453.setTop (mkF m 241 #[iv u0, iv u1, iv u2, iv (7 : Int32), iv (u1 &&& (2147483647 : Int32)), rv sv1, rv sv3, rv sv6, rv b10, rv ev21, rv ev28, rv ev38, rv ev51, iv (2 : Int32)] [(.ref b10)])) _
      refine st467.trans ?_
      show Steps p.tables e below (T467.setTop (mkF m 244 #[iv u0, iv u1, iv u2, iv (7 : Int32), iv (u1 &&& (2147483647 : Int32)), rv sv1, rv sv3, rv sv6, rv b10, rv ev21, rv ev28, rv ev38, rv ev51, iv (2 : Int32)] [(.int (2 : Int32))])) _
      refine XS.iload X467.here hx rfl (hb hby at_244) rfl ?_
      show Steps p.tables e below (T467.setTop (mkF m 246 #[iv u0, iv u1, iv u2, iv (7 : Int32), iv (u1 &&& (2147483647 : Int32)), rv sv1, rv sv3, rv sv6, rv b10, rv ev21, rv ev28, rv ev38, rv ev51, iv (2 : Int32)] [(.int (2 : Int32)), (.int (2 : Int32))])) _
      refine XS.icmpNo X467.here hx rfl (hb hby at_246) rfl (teq (by decide : (2 : Int32) = (2 : Int32))).2 ?_
      show Steps p.tables e below (T467.setTop (mkF m 249 #[iv u0, iv u1, iv u2, iv (7 : Int32), iv (u1 &&& (2147483647 : Int32)), rv sv1, rv sv3, rv sv6, rv b10, rv ev21, rv ev28, rv ev38, rv ev51, iv (2 : Int32)] [])) _
      refine XS.iconst X467.here hx rfl (hb hby at_249) ?_
      show Steps p.tables e below (T467.setTop (mkF m 250 #[iv u0, iv u1, iv u2, iv (7 : Int32), iv (u1 &&& (2147483647 : Int32)), rv sv1, rv sv3, rv sv6, rv b10, rv ev21, rv ev28, rv ev38, rv ev51, iv (2 : Int32)] [(.int (1 : Int32))])) _
      refine XS.goto X467.here hx rfl (pc0 := 250) (pc' := 254) rfl (hb hby at_250) (by decide) (by decide) ?_
      show Steps p.tables e below (T467.setTop (mkF m 254 #[iv u0, iv u1, iv u2, iv (7 : Int32), iv (u1 &&& (2147483647 : Int32)), rv sv1, rv sv3, rv sv6, rv b10, rv ev21, rv ev28, rv ev38, rv ev51, iv (2 : Int32)] [(.int (1 : Int32))])) _
      exact retN X467 hx (t := .boolean) Bd.returns (by simp) (hb hby at_254) hr
    · show Q0 Z u0 u1 u2 t0 t1 t2 t3 d0 d1 d2 d3 oa oc G1 h0 n0 _ T467.heap _
      rw [eq467]
      exact ⟨rfl, N467⟩
  · skip
    rw [hn_] at S67
    obtain ⟨cq468, kq468, q468a, q468b, q468c⟩ := isOf hZ rfl f56
    obtain ⟨_, _, ⟨T468, L468, k468, n468⟩, -, X468, ⟨Lc468, hQ468, l468, y468, z468⟩, st468⟩ := X51.virtualBack hx (y := (⟨"com/example/reroutine/reroutine/replanning/ExecutedDay", "add", "(Lcom/example/reroutine/reroutine/scenario/Event;)V"⟩ : MethodName)) (z := (⟨"com/example/reroutine/reroutine/replanning/ExecutedDay", "add", "(Lcom/example/reroutine/reroutine/scenario/Event;)V"⟩ : MethodName)) hown (mvT hZ (hw _ (List.mem_of_getElem? (i := 104) rfl))) (mvT hZ (hw _ (List.mem_of_getElem? (i := 105) rfl))) (notFace_of_selects (args := #[]) (mvT hZ (hw _ (List.mem_of_getElem? (i := 107) rfl)))) (mvT hZ (hw _ (List.mem_of_getElem? (i := 107) rfl))) (mvT hZ (hw _ (List.mem_of_getElem? (i := 106) rfl))) (by decide) (backOf (W := 0) (rmAdd0 l Z a0 hw [] b10 ev21 t0 t1 t2 t3 d0 d1 d2 d3 oa oc (u1 &&& (2147483647 : Int32)) T51.heap n0 Z51 Od52 hst f66 ge_b10 ne_b10_ev21 f57 f58 f59) hZ (hw _ (List.mem_of_getElem? (i := 108) rfl)) (hw _ (List.mem_of_getElem? (i := 29) rfl)) (by decide) (by decide)) q468a q468c (g := (mkF m 124 #[iv u0, iv u1, iv u2, iv (8 : Int32), iv (u1 &&& (2147483647 : Int32)), rv sv1, rv sv3, rv sv6, rv b10, rv ev21, rv ev28, rv ev38, rv ev51, .unset] [(.ref ev21), (.ref b10)])) rfl (by rw [hml]; rfl) (Steps.refl _) (argsL := [(.ref ev21)]) (rest := []) (lenOf pd_14 rfl) rfl (by show 2 * 0 + _ ≤ _; exact Nat.le_of_eq rfl) (hb hby at_124) (fun _ _ => ⟨rfl, rfl, (by decide : 12 + 0 ≤ _), (by decide : 42 + 0 ≤ _)⟩)
    dsimp only [Pt.U, Pt.locs, Pt.cells, Pt.slots] at X468 l468 y468 z468 st468 hQ468
    subst y468 z468
    obtain ⟨rfl, Nq468, Kx468, Bq468⟩ := hQ468
    have N468 : Fr n0 L468 := by rw [l468]; exact Fr.app N51 Nq468
    obtain ⟨ar468, cl468, ty468, Kq468, gar468, Arq468⟩ := Kx468
    have Z468 : n0 ≤ T468.heap.size := Nat.le_trans Z51 Kq468.1
    have f469 := f58.keep Kq468 (ninS (Ne.symm ne_b10_ev21) (ninS (ne_arr f57 (hw _ (List.mem_of_getElem? (i := 51) rfl)) Arq468) nin0))
    have f470 := f59.keep Kq468 (ninS (Ne.symm ne_b10_ev21) (ninS (ne_arr f57 (hw _ (List.mem_of_getElem? (i := 51) rfl)) Arq468) nin0))
    have f471 := f61.keep Kq468 (ninS (Ne.symm ne_b10_ev28) (ninS (ne_arr f60 (hw _ (List.mem_of_getElem? (i := 51) rfl)) Arq468) nin0))
    have f472 := f62.keep Kq468 (ninS (Ne.symm ne_b10_ev28) (ninS (ne_arr f60 (hw _ (List.mem_of_getElem? (i := 51) rfl)) Arq468) nin0))
    have f473 := f64.keep Kq468 (ninS (Ne.symm ne_b10_ev38) (ninS (ne_arr f63 (hw _ (List.mem_of_getElem? (i := 51) rfl)) Arq468) nin0))
    have f474 := f65.keep Kq468 (ninS (Ne.symm ne_b10_ev38) (ninS (ne_arr f63 (hw _ (List.mem_of_getElem? (i := 51) rfl)) Arq468) nin0))
    have f475 := Fm51.keep Kq468 (ninS (Ne.symm ne_b10_ev51) (ninS (ne_arr Eq51 (hw _ (List.mem_of_getElem? (i := 51) rfl)) Arq468) nin0))
    have f476 := Ft51.keep Kq468 (ninS (Ne.symm ne_b10_ev51) (ninS (ne_arr Eq51 (hw _ (List.mem_of_getElem? (i := 51) rfl)) Arq468) nin0))
    have f477 := f56.keep Kq468
    have f478 := f57.keep Kq468
    have f479 := f60.keep Kq468
    have f480 := f63.keep Kq468
    have f481 := Eq51.keep Kq468
    have Od468 := Od52.keep Kq468 (allS ge_b10 (allS gar468 all0))
    obtain ⟨cq482, kq482, q482a, q482b, q482c⟩ := isOf hZ rfl f477
    obtain ⟨_, _, ⟨T482, L482, k482, n482⟩, -, X482, ⟨Lc482, hQ482, l482, y482, z482⟩, st482⟩ := X468.virtualBack hx (y := (⟨"com/example/reroutine/reroutine/replanning/ExecutedDay", "add", "(Lcom/example/reroutine/reroutine/scenario/Event;)V"⟩ : MethodName)) (z := (⟨"com/example/reroutine/reroutine/replanning/ExecutedDay", "add", "(Lcom/example/reroutine/reroutine/scenario/Event;)V"⟩ : MethodName)) hown (mvT hZ (hw _ (List.mem_of_getElem? (i := 104) rfl))) (mvT hZ (hw _ (List.mem_of_getElem? (i := 105) rfl))) (notFace_of_selects (args := #[]) (mvT hZ (hw _ (List.mem_of_getElem? (i := 107) rfl)))) (mvT hZ (hw _ (List.mem_of_getElem? (i := 107) rfl))) (mvT hZ (hw _ (List.mem_of_getElem? (i := 106) rfl))) (by decide) (backOf (W := 0) (rmAdd1 l Z a0 hw [] b10 ev28 t0 t1 t2 t3 d0 d1 d2 d3 oa oc (u1 &&& (2147483647 : Int32)) T468.heap n0 Z468 Od468 hst Bq468 ge_b10 ne_b10_ev28 f479 f471 f472) hZ (hw _ (List.mem_of_getElem? (i := 108) rfl)) (hw _ (List.mem_of_getElem? (i := 29) rfl)) (by decide) (by decide)) q482a q482c (g := (mkF m 136 #[iv u0, iv u1, iv u2, iv (8 : Int32), iv (u1 &&& (2147483647 : Int32)), rv sv1, rv sv3, rv sv6, rv b10, rv ev21, rv ev28, rv ev38, rv ev51, .unset] [(.ref ev28), (.ref b10)])) rfl (by rw [hml]; rfl) (Steps.refl _) (argsL := [(.ref ev28)]) (rest := []) (lenOf pd_14 rfl) rfl (by show 2 * 0 + _ ≤ _; exact Nat.le_of_eq rfl) (hb hby at_136) (fun _ _ => ⟨rfl, rfl, (by decide : 12 + 0 ≤ _), (by decide : 42 + 0 ≤ _)⟩)
    dsimp only [Pt.U, Pt.locs, Pt.cells, Pt.slots] at X482 l482 y482 z482 st482 hQ482
    subst y482 z482
    obtain ⟨rfl, Nq482, Kx482, Bq482⟩ := hQ482
    have N482 : Fr n0 L482 := by rw [l482]; exact Fr.app N468 Nq482
    obtain ⟨ar482, cl482, ty482, Kq482, gar482, Arq482⟩ := Kx482
    have Z482 : n0 ≤ T482.heap.size := Nat.le_trans Z468 Kq482.1
    have f483 := f469.keep Kq482 (ninS (Ne.symm ne_b10_ev21) (ninS (ne_arr f478 (hw _ (List.mem_of_getElem? (i := 51) rfl)) Arq482) nin0))
    have f484 := f470.keep Kq482 (ninS (Ne.symm ne_b10_ev21) (ninS (ne_arr f478 (hw _ (List.mem_of_getElem? (i := 51) rfl)) Arq482) nin0))
    have f485 := f471.keep Kq482 (ninS (Ne.symm ne_b10_ev28) (ninS (ne_arr f479 (hw _ (List.mem_of_getElem? (i := 51) rfl)) Arq482) nin0))
    have f486 := f472.keep Kq482 (ninS (Ne.symm ne_b10_ev28) (ninS (ne_arr f479 (hw _ (List.mem_of_getElem? (i := 51) rfl)) Arq482) nin0))
    have f487 := f473.keep Kq482 (ninS (Ne.symm ne_b10_ev38) (ninS (ne_arr f480 (hw _ (List.mem_of_getElem? (i := 51) rfl)) Arq482) nin0))
    have f488 := f474.keep Kq482 (ninS (Ne.symm ne_b10_ev38) (ninS (ne_arr f480 (hw _ (List.mem_of_getElem? (i := 51) rfl)) Arq482) nin0))
    have f489 := f475.keep Kq482 (ninS (Ne.symm ne_b10_ev51) (ninS (ne_arr f481 (hw _ (List.mem_of_getElem? (i := 51) rfl)) Arq482) nin0))
    have f490 := f476.keep Kq482 (ninS (Ne.symm ne_b10_ev51) (ninS (ne_arr f481 (hw _ (List.mem_of_getElem? (i := 51) rfl)) Arq482) nin0))
    have f491 := f477.keep Kq482
    have f492 := f478.keep Kq482
    have f493 := f479.keep Kq482
    have f494 := f480.keep Kq482
    have f495 := f481.keep Kq482
    have Od482 := Od468.keep Kq482 (allS ge_b10 (allS gar482 all0))
    obtain ⟨cq496, kq496, q496a, q496b, q496c⟩ := isOf hZ rfl f491
    obtain ⟨_, _, ⟨T496, L496, k496, n496⟩, -, X496, ⟨Lc496, hQ496, l496, y496, z496⟩, st496⟩ := X482.virtualBack hx (y := (⟨"com/example/reroutine/reroutine/replanning/ExecutedDay", "add", "(Lcom/example/reroutine/reroutine/scenario/Event;)V"⟩ : MethodName)) (z := (⟨"com/example/reroutine/reroutine/replanning/ExecutedDay", "add", "(Lcom/example/reroutine/reroutine/scenario/Event;)V"⟩ : MethodName)) hown (mvT hZ (hw _ (List.mem_of_getElem? (i := 104) rfl))) (mvT hZ (hw _ (List.mem_of_getElem? (i := 105) rfl))) (notFace_of_selects (args := #[]) (mvT hZ (hw _ (List.mem_of_getElem? (i := 107) rfl)))) (mvT hZ (hw _ (List.mem_of_getElem? (i := 107) rfl))) (mvT hZ (hw _ (List.mem_of_getElem? (i := 106) rfl))) (by decide) (backOf (W := 0) (rmAdd2 l Z a0 hw [] b10 ev38 t0 t1 t2 t3 d0 d1 d2 d3 oa oc (u1 &&& (2147483647 : Int32)) T482.heap n0 Z482 Od482 hst Bq482 ge_b10 ne_b10_ev38 f494 f487 f488) hZ (hw _ (List.mem_of_getElem? (i := 108) rfl)) (hw _ (List.mem_of_getElem? (i := 29) rfl)) (by decide) (by decide)) q496a q496c (g := (mkF m 148 #[iv u0, iv u1, iv u2, iv (8 : Int32), iv (u1 &&& (2147483647 : Int32)), rv sv1, rv sv3, rv sv6, rv b10, rv ev21, rv ev28, rv ev38, rv ev51, .unset] [(.ref ev38), (.ref b10)])) rfl (by rw [hml]; rfl) (Steps.refl _) (argsL := [(.ref ev38)]) (rest := []) (lenOf pd_14 rfl) rfl (by show 2 * 0 + _ ≤ _; exact Nat.le_of_eq rfl) (hb hby at_148) (fun _ _ => ⟨rfl, rfl, (by decide : 12 + 0 ≤ _), (by decide : 42 + 0 ≤ _)⟩)
    dsimp only [Pt.U, Pt.locs, Pt.cells, Pt.slots] at X496 l496 y496 z496 st496 hQ496
    subst y496 z496
    obtain ⟨rfl, Nq496, Kx496, Bq496⟩ := hQ496
    have N496 : Fr n0 L496 := by rw [l496]; exact Fr.app N482 Nq496
    obtain ⟨ar496, cl496, ty496, Kq496, gar496, Arq496⟩ := Kx496
    have Z496 : n0 ≤ T496.heap.size := Nat.le_trans Z482 Kq496.1
    have f497 := f483.keep Kq496 (ninS (Ne.symm ne_b10_ev21) (ninS (ne_arr f492 (hw _ (List.mem_of_getElem? (i := 51) rfl)) Arq496) nin0))
    have f498 := f484.keep Kq496 (ninS (Ne.symm ne_b10_ev21) (ninS (ne_arr f492 (hw _ (List.mem_of_getElem? (i := 51) rfl)) Arq496) nin0))
    have f499 := f485.keep Kq496 (ninS (Ne.symm ne_b10_ev28) (ninS (ne_arr f493 (hw _ (List.mem_of_getElem? (i := 51) rfl)) Arq496) nin0))
    have f500 := f486.keep Kq496 (ninS (Ne.symm ne_b10_ev28) (ninS (ne_arr f493 (hw _ (List.mem_of_getElem? (i := 51) rfl)) Arq496) nin0))
    have f501 := f487.keep Kq496 (ninS (Ne.symm ne_b10_ev38) (ninS (ne_arr f494 (hw _ (List.mem_of_getElem? (i := 51) rfl)) Arq496) nin0))
    have f502 := f488.keep Kq496 (ninS (Ne.symm ne_b10_ev38) (ninS (ne_arr f494 (hw _ (List.mem_of_getElem? (i := 51) rfl)) Arq496) nin0))
    have f503 := f489.keep Kq496 (ninS (Ne.symm ne_b10_ev51) (ninS (ne_arr f495 (hw _ (List.mem_of_getElem? (i := 51) rfl)) Arq496) nin0))
    have f504 := f490.keep Kq496 (ninS (Ne.symm ne_b10_ev51) (ninS (ne_arr f495 (hw _ (List.mem_of_getElem? (i := 51) rfl)) Arq496) nin0))
    have f505 := f491.keep Kq496
    have f506 := f492.keep Kq496
    have f507 := f493.keep Kq496
    have f508 := f494.keep Kq496
    have f509 := f495.keep Kq496
    have Od496 := Od482.keep Kq496 (allS ge_b10 (allS gar496 all0))
    obtain ⟨cq510, kq510, q510a, q510b, q510c⟩ := isOf hZ rfl f505
    obtain ⟨_, _, ⟨T510, L510, k510, n510⟩, -, X510, ⟨Lc510, hQ510, l510, y510, z510⟩, st510⟩ := X496.virtualBack hx (y := (⟨"com/example/reroutine/reroutine/replanning/ExecutedDay", "add", "(Lcom/example/reroutine/reroutine/scenario/Event;)V"⟩ : MethodName)) (z := (⟨"com/example/reroutine/reroutine/replanning/ExecutedDay", "add", "(Lcom/example/reroutine/reroutine/scenario/Event;)V"⟩ : MethodName)) hown (mvT hZ (hw _ (List.mem_of_getElem? (i := 104) rfl))) (mvT hZ (hw _ (List.mem_of_getElem? (i := 105) rfl))) (notFace_of_selects (args := #[]) (mvT hZ (hw _ (List.mem_of_getElem? (i := 107) rfl)))) (mvT hZ (hw _ (List.mem_of_getElem? (i := 107) rfl))) (mvT hZ (hw _ (List.mem_of_getElem? (i := 106) rfl))) (by decide) (backOf (W := 0) (rmAdd3 l Z a0 hw [] b10 ev51 t0 t1 t2 t3 d0 d1 d2 d3 oa oc (u1 &&& (2147483647 : Int32)) T496.heap n0 Z496 Od496 hst Bq496 ge_b10 ne_b10_ev51 f509 f503 f504) hZ (hw _ (List.mem_of_getElem? (i := 108) rfl)) (hw _ (List.mem_of_getElem? (i := 29) rfl)) (by decide) (by decide)) q510a q510c (g := (mkF m 160 #[iv u0, iv u1, iv u2, iv (8 : Int32), iv (u1 &&& (2147483647 : Int32)), rv sv1, rv sv3, rv sv6, rv b10, rv ev21, rv ev28, rv ev38, rv ev51, .unset] [(.ref ev51), (.ref b10)])) rfl (by rw [hml]; rfl) (Steps.refl _) (argsL := [(.ref ev51)]) (rest := []) (lenOf pd_14 rfl) rfl (by show 2 * 0 + _ ≤ _; exact Nat.le_of_eq rfl) (hb hby at_160) (fun _ _ => ⟨rfl, rfl, (by decide : 12 + 0 ≤ _), (by decide : 42 + 0 ≤ _)⟩)
    dsimp only [Pt.U, Pt.locs, Pt.cells, Pt.slots] at X510 l510 y510 z510 st510 hQ510
    subst y510 z510
    obtain ⟨rfl, Nq510, Kx510, Bq510⟩ := hQ510
    have N510 : Fr n0 L510 := by rw [l510]; exact Fr.app N496 Nq510
    obtain ⟨ar510, cl510, ty510, Kq510, gar510, Arq510⟩ := Kx510
    have Z510 : n0 ≤ T510.heap.size := Nat.le_trans Z496 Kq510.1
    have f511 := f497.keep Kq510 (ninS (Ne.symm ne_b10_ev21) (ninS (ne_arr f506 (hw _ (List.mem_of_getElem? (i := 51) rfl)) Arq510) nin0))
    have f512 := f498.keep Kq510 (ninS (Ne.symm ne_b10_ev21) (ninS (ne_arr f506 (hw _ (List.mem_of_getElem? (i := 51) rfl)) Arq510) nin0))
    have f513 := f499.keep Kq510 (ninS (Ne.symm ne_b10_ev28) (ninS (ne_arr f507 (hw _ (List.mem_of_getElem? (i := 51) rfl)) Arq510) nin0))
    have f514 := f500.keep Kq510 (ninS (Ne.symm ne_b10_ev28) (ninS (ne_arr f507 (hw _ (List.mem_of_getElem? (i := 51) rfl)) Arq510) nin0))
    have f515 := f501.keep Kq510 (ninS (Ne.symm ne_b10_ev38) (ninS (ne_arr f508 (hw _ (List.mem_of_getElem? (i := 51) rfl)) Arq510) nin0))
    have f516 := f502.keep Kq510 (ninS (Ne.symm ne_b10_ev38) (ninS (ne_arr f508 (hw _ (List.mem_of_getElem? (i := 51) rfl)) Arq510) nin0))
    have f517 := f503.keep Kq510 (ninS (Ne.symm ne_b10_ev51) (ninS (ne_arr f509 (hw _ (List.mem_of_getElem? (i := 51) rfl)) Arq510) nin0))
    have f518 := f504.keep Kq510 (ninS (Ne.symm ne_b10_ev51) (ninS (ne_arr f509 (hw _ (List.mem_of_getElem? (i := 51) rfl)) Arq510) nin0))
    have f519 := f505.keep Kq510
    have f520 := f506.keep Kq510
    have f521 := f507.keep Kq510
    have f522 := f508.keep Kq510
    have f523 := f509.keep Kq510
    have Od510 := Od496.keep Kq510 (allS ge_b10 (allS gar510 all0))
    obtain ⟨cq524, kq524, q524a, q524b, q524c⟩ := isOf hZ rfl f519
    obtain ⟨_, _, ⟨T524, L524, k524, n524⟩, -, X524, ⟨Lc524, hQ524, l524, y524, z524⟩, st524⟩ := X510.virtualBack hx (y := (⟨"com/example/reroutine/reroutine/replanning/ExecutedDay", "add", "(Lcom/example/reroutine/reroutine/scenario/Event;)V"⟩ : MethodName)) (z := (⟨"com/example/reroutine/reroutine/replanning/ExecutedDay", "add", "(Lcom/example/reroutine/reroutine/scenario/Event;)V"⟩ : MethodName)) hown (mvT hZ (hw _ (List.mem_of_getElem? (i := 104) rfl))) (mvT hZ (hw _ (List.mem_of_getElem? (i := 105) rfl))) (notFace_of_selects (args := #[]) (mvT hZ (hw _ (List.mem_of_getElem? (i := 107) rfl)))) (mvT hZ (hw _ (List.mem_of_getElem? (i := 107) rfl))) (mvT hZ (hw _ (List.mem_of_getElem? (i := 106) rfl))) (by decide) (backOf (W := 0) (rmAdd4 l Z a0 hw [] b10 ev21 t0 t1 t2 t3 d0 d1 d2 d3 oa oc (u1 &&& (2147483647 : Int32)) T510.heap n0 Z510 Od510 hst Bq510 ge_b10 ne_b10_ev21 f520 f511 f512) hZ (hw _ (List.mem_of_getElem? (i := 108) rfl)) (hw _ (List.mem_of_getElem? (i := 29) rfl)) (by decide) (by decide)) q524a q524c (g := (mkF m 172 #[iv u0, iv u1, iv u2, iv (8 : Int32), iv (u1 &&& (2147483647 : Int32)), rv sv1, rv sv3, rv sv6, rv b10, rv ev21, rv ev28, rv ev38, rv ev51, .unset] [(.ref ev21), (.ref b10)])) rfl (by rw [hml]; rfl) (Steps.refl _) (argsL := [(.ref ev21)]) (rest := []) (lenOf pd_14 rfl) rfl (by show 2 * 0 + _ ≤ _; exact Nat.le_of_eq rfl) (hb hby at_172) (fun _ _ => ⟨rfl, rfl, (by decide : 12 + 1 ≤ _), (by decide : 42 + 8 ≤ _)⟩)
    dsimp only [Pt.U, Pt.locs, Pt.cells, Pt.slots] at X524 l524 y524 z524 st524 hQ524
    subst y524 z524
    obtain ⟨rfl, Nq524, Kx524, Bq524⟩ := hQ524
    have N524 : Fr n0 L524 := by rw [l524]; exact Fr.app N510 Nq524
    obtain ⟨ar524, cl524, ty524, Kq524, gar524, Arq524⟩ := Kx524
    have Z524 : n0 ≤ T524.heap.size := Nat.le_trans Z510 Kq524.1
    have f525 := f511.keep Kq524 (ninS (Ne.symm ne_b10_ev21) (ninS (ne_arr f520 (hw _ (List.mem_of_getElem? (i := 51) rfl)) Arq524) nin0))
    have f526 := f512.keep Kq524 (ninS (Ne.symm ne_b10_ev21) (ninS (ne_arr f520 (hw _ (List.mem_of_getElem? (i := 51) rfl)) Arq524) nin0))
    have f527 := f513.keep Kq524 (ninS (Ne.symm ne_b10_ev28) (ninS (ne_arr f521 (hw _ (List.mem_of_getElem? (i := 51) rfl)) Arq524) nin0))
    have f528 := f514.keep Kq524 (ninS (Ne.symm ne_b10_ev28) (ninS (ne_arr f521 (hw _ (List.mem_of_getElem? (i := 51) rfl)) Arq524) nin0))
    have f529 := f515.keep Kq524 (ninS (Ne.symm ne_b10_ev38) (ninS (ne_arr f522 (hw _ (List.mem_of_getElem? (i := 51) rfl)) Arq524) nin0))
    have f530 := f516.keep Kq524 (ninS (Ne.symm ne_b10_ev38) (ninS (ne_arr f522 (hw _ (List.mem_of_getElem? (i := 51) rfl)) Arq524) nin0))
    have f531 := f517.keep Kq524 (ninS (Ne.symm ne_b10_ev51) (ninS (ne_arr f523 (hw _ (List.mem_of_getElem? (i := 51) rfl)) Arq524) nin0))
    have f532 := f518.keep Kq524 (ninS (Ne.symm ne_b10_ev51) (ninS (ne_arr f523 (hw _ (List.mem_of_getElem? (i := 51) rfl)) Arq524) nin0))
    have f533 := f519.keep Kq524
    have f534 := f520.keep Kq524
    have f535 := f521.keep Kq524
    have f536 := f522.keep Kq524
    have f537 := f523.keep Kq524
    have Od524 := Od510.keep Kq524 (allS ge_b10 (allS gar524 all0))
    obtain ⟨cq538, kq538, q538a, q538b, q538c⟩ := isOf hZ rfl f533
    obtain ⟨_, _, ⟨T538, L538, k538, n538⟩, -, X538, ⟨Lc538, hQ538, l538, y538, z538⟩, st538⟩ := X524.virtualBack hx (y := (⟨"com/example/reroutine/reroutine/replanning/ExecutedDay", "add", "(Lcom/example/reroutine/reroutine/scenario/Event;)V"⟩ : MethodName)) (z := (⟨"com/example/reroutine/reroutine/replanning/ExecutedDay", "add", "(Lcom/example/reroutine/reroutine/scenario/Event;)V"⟩ : MethodName)) hown (mvT hZ (hw _ (List.mem_of_getElem? (i := 104) rfl))) (mvT hZ (hw _ (List.mem_of_getElem? (i := 105) rfl))) (notFace_of_selects (args := #[]) (mvT hZ (hw _ (List.mem_of_getElem? (i := 107) rfl)))) (mvT hZ (hw _ (List.mem_of_getElem? (i := 107) rfl))) (mvT hZ (hw _ (List.mem_of_getElem? (i := 106) rfl))) (by decide) (backOf (W := 0) (rmAdd5 l Z a0 hw [] b10 ev28 t0 t1 t2 t3 d0 d1 d2 d3 oa oc (u1 &&& (2147483647 : Int32)) T524.heap n0 Z524 Od524 hst Bq524 ge_b10 ne_b10_ev28 f535 f527 f528) hZ (hw _ (List.mem_of_getElem? (i := 108) rfl)) (hw _ (List.mem_of_getElem? (i := 29) rfl)) (by decide) (by decide)) q538a q538c (g := (mkF m 184 #[iv u0, iv u1, iv u2, iv (8 : Int32), iv (u1 &&& (2147483647 : Int32)), rv sv1, rv sv3, rv sv6, rv b10, rv ev21, rv ev28, rv ev38, rv ev51, .unset] [(.ref ev28), (.ref b10)])) rfl (by rw [hml]; rfl) (Steps.refl _) (argsL := [(.ref ev28)]) (rest := []) (lenOf pd_14 rfl) rfl (by show 2 * 0 + _ ≤ _; exact Nat.le_of_eq rfl) (hb hby at_184) (fun _ _ => ⟨rfl, rfl, (by decide : 13 + 0 ≤ _), (by decide : 50 + 0 ≤ _)⟩)
    dsimp only [Pt.U, Pt.locs, Pt.cells, Pt.slots] at X538 l538 y538 z538 st538 hQ538
    subst y538 z538
    obtain ⟨rfl, Nq538, Kx538, Bq538⟩ := hQ538
    have N538 : Fr n0 L538 := by rw [l538]; exact Fr.app N524 Nq538
    obtain ⟨ar538, cl538, ty538, Kq538, gar538, Arq538⟩ := Kx538
    have Z538 : n0 ≤ T538.heap.size := Nat.le_trans Z524 Kq538.1
    have f539 := f525.keep Kq538 (ninS (Ne.symm ne_b10_ev21) (ninS (ne_arr f534 (hw _ (List.mem_of_getElem? (i := 51) rfl)) Arq538) nin0))
    have f540 := f526.keep Kq538 (ninS (Ne.symm ne_b10_ev21) (ninS (ne_arr f534 (hw _ (List.mem_of_getElem? (i := 51) rfl)) Arq538) nin0))
    have f541 := f527.keep Kq538 (ninS (Ne.symm ne_b10_ev28) (ninS (ne_arr f535 (hw _ (List.mem_of_getElem? (i := 51) rfl)) Arq538) nin0))
    have f542 := f528.keep Kq538 (ninS (Ne.symm ne_b10_ev28) (ninS (ne_arr f535 (hw _ (List.mem_of_getElem? (i := 51) rfl)) Arq538) nin0))
    have f543 := f529.keep Kq538 (ninS (Ne.symm ne_b10_ev38) (ninS (ne_arr f536 (hw _ (List.mem_of_getElem? (i := 51) rfl)) Arq538) nin0))
    have f544 := f530.keep Kq538 (ninS (Ne.symm ne_b10_ev38) (ninS (ne_arr f536 (hw _ (List.mem_of_getElem? (i := 51) rfl)) Arq538) nin0))
    have f545 := f531.keep Kq538 (ninS (Ne.symm ne_b10_ev51) (ninS (ne_arr f537 (hw _ (List.mem_of_getElem? (i := 51) rfl)) Arq538) nin0))
    have f546 := f532.keep Kq538 (ninS (Ne.symm ne_b10_ev51) (ninS (ne_arr f537 (hw _ (List.mem_of_getElem? (i := 51) rfl)) Arq538) nin0))
    have f547 := f533.keep Kq538
    have f548 := f534.keep Kq538
    have f549 := f535.keep Kq538
    have f550 := f536.keep Kq538
    have f551 := f537.keep Kq538
    have Od538 := Od524.keep Kq538 (allS ge_b10 (allS gar538 all0))
    obtain ⟨cq552, kq552, q552a, q552b, q552c⟩ := isOf hZ rfl f547
    obtain ⟨_, _, ⟨T552, L552, k552, n552⟩, -, X552, ⟨Lc552, hQ552, l552, y552, z552⟩, st552⟩ := X538.virtualBack hx (y := (⟨"com/example/reroutine/reroutine/replanning/ExecutedDay", "add", "(Lcom/example/reroutine/reroutine/scenario/Event;)V"⟩ : MethodName)) (z := (⟨"com/example/reroutine/reroutine/replanning/ExecutedDay", "add", "(Lcom/example/reroutine/reroutine/scenario/Event;)V"⟩ : MethodName)) hown (mvT hZ (hw _ (List.mem_of_getElem? (i := 104) rfl))) (mvT hZ (hw _ (List.mem_of_getElem? (i := 105) rfl))) (notFace_of_selects (args := #[]) (mvT hZ (hw _ (List.mem_of_getElem? (i := 107) rfl)))) (mvT hZ (hw _ (List.mem_of_getElem? (i := 107) rfl))) (mvT hZ (hw _ (List.mem_of_getElem? (i := 106) rfl))) (by decide) (backOf (W := 0) (rmAdd6 l Z a0 hw [] b10 ev38 t0 t1 t2 t3 d0 d1 d2 d3 oa oc (u1 &&& (2147483647 : Int32)) T538.heap n0 Z538 Od538 hst Bq538 ge_b10 ne_b10_ev38 f550 f543 f544) hZ (hw _ (List.mem_of_getElem? (i := 108) rfl)) (hw _ (List.mem_of_getElem? (i := 29) rfl)) (by decide) (by decide)) q552a q552c (g := (mkF m 197 #[iv u0, iv u1, iv u2, iv (8 : Int32), iv (u1 &&& (2147483647 : Int32)), rv sv1, rv sv3, rv sv6, rv b10, rv ev21, rv ev28, rv ev38, rv ev51, .unset] [(.ref ev38), (.ref b10)])) rfl (by rw [hml]; rfl) (Steps.refl _) (argsL := [(.ref ev38)]) (rest := []) (lenOf pd_14 rfl) rfl (by show 2 * 0 + _ ≤ _; exact Nat.le_of_eq rfl) (hb hby at_197) (fun _ _ => ⟨rfl, rfl, (by decide : 13 + 0 ≤ _), (by decide : 50 + 0 ≤ _)⟩)
    dsimp only [Pt.U, Pt.locs, Pt.cells, Pt.slots] at X552 l552 y552 z552 st552 hQ552
    subst y552 z552
    obtain ⟨rfl, Nq552, Kx552, Bq552⟩ := hQ552
    have N552 : Fr n0 L552 := by rw [l552]; exact Fr.app N538 Nq552
    obtain ⟨ar552, cl552, ty552, Kq552, gar552, Arq552⟩ := Kx552
    have Z552 : n0 ≤ T552.heap.size := Nat.le_trans Z538 Kq552.1
    have f553 := f539.keep Kq552 (ninS (Ne.symm ne_b10_ev21) (ninS (ne_arr f548 (hw _ (List.mem_of_getElem? (i := 51) rfl)) Arq552) nin0))
    have f554 := f540.keep Kq552 (ninS (Ne.symm ne_b10_ev21) (ninS (ne_arr f548 (hw _ (List.mem_of_getElem? (i := 51) rfl)) Arq552) nin0))
    have f555 := f541.keep Kq552 (ninS (Ne.symm ne_b10_ev28) (ninS (ne_arr f549 (hw _ (List.mem_of_getElem? (i := 51) rfl)) Arq552) nin0))
    have f556 := f542.keep Kq552 (ninS (Ne.symm ne_b10_ev28) (ninS (ne_arr f549 (hw _ (List.mem_of_getElem? (i := 51) rfl)) Arq552) nin0))
    have f557 := f543.keep Kq552 (ninS (Ne.symm ne_b10_ev38) (ninS (ne_arr f550 (hw _ (List.mem_of_getElem? (i := 51) rfl)) Arq552) nin0))
    have f558 := f544.keep Kq552 (ninS (Ne.symm ne_b10_ev38) (ninS (ne_arr f550 (hw _ (List.mem_of_getElem? (i := 51) rfl)) Arq552) nin0))
    have f559 := f545.keep Kq552 (ninS (Ne.symm ne_b10_ev51) (ninS (ne_arr f551 (hw _ (List.mem_of_getElem? (i := 51) rfl)) Arq552) nin0))
    have f560 := f546.keep Kq552 (ninS (Ne.symm ne_b10_ev51) (ninS (ne_arr f551 (hw _ (List.mem_of_getElem? (i := 51) rfl)) Arq552) nin0))
    have f561 := f547.keep Kq552
    have f562 := f548.keep Kq552
    have f563 := f549.keep Kq552
    have f564 := f550.keep Kq552
    have f565 := f551.keep Kq552
    have Od552 := Od538.keep Kq552 (allS ge_b10 (allS gar552 all0))
    obtain ⟨cq566, kq566, q566a, q566b, q566c⟩ := isOf hZ rfl f561
    obtain ⟨_, _, ⟨T566, L566, k566, n566⟩, -, X566, ⟨Lc566, hQ566, l566, y566, z566⟩, st566⟩ := X552.virtualBack hx (y := (⟨"com/example/reroutine/reroutine/replanning/ExecutedDay", "add", "(Lcom/example/reroutine/reroutine/scenario/Event;)V"⟩ : MethodName)) (z := (⟨"com/example/reroutine/reroutine/replanning/ExecutedDay", "add", "(Lcom/example/reroutine/reroutine/scenario/Event;)V"⟩ : MethodName)) hown (mvT hZ (hw _ (List.mem_of_getElem? (i := 104) rfl))) (mvT hZ (hw _ (List.mem_of_getElem? (i := 105) rfl))) (notFace_of_selects (args := #[]) (mvT hZ (hw _ (List.mem_of_getElem? (i := 107) rfl)))) (mvT hZ (hw _ (List.mem_of_getElem? (i := 107) rfl))) (mvT hZ (hw _ (List.mem_of_getElem? (i := 106) rfl))) (by decide) (backOf (W := 0) (rmAdd7 l Z a0 hw [] b10 ev51 t0 t1 t2 t3 d0 d1 d2 d3 oa oc (u1 &&& (2147483647 : Int32)) T552.heap n0 Z552 Od552 hst Bq552 ge_b10 ne_b10_ev51 f565 f559 f560) hZ (hw _ (List.mem_of_getElem? (i := 108) rfl)) (hw _ (List.mem_of_getElem? (i := 29) rfl)) (by decide) (by decide)) q566a q566c (g := (mkF m 210 #[iv u0, iv u1, iv u2, iv (8 : Int32), iv (u1 &&& (2147483647 : Int32)), rv sv1, rv sv3, rv sv6, rv b10, rv ev21, rv ev28, rv ev38, rv ev51, .unset] [(.ref ev51), (.ref b10)])) rfl (by rw [hml]; rfl) (Steps.refl _) (argsL := [(.ref ev51)]) (rest := []) (lenOf pd_14 rfl) rfl (by show 2 * 0 + _ ≤ _; exact Nat.le_of_eq rfl) (hb hby at_210) (fun _ _ => ⟨rfl, rfl, (by decide : 13 + 0 ≤ _), (by decide : 50 + 0 ≤ _)⟩)
    dsimp only [Pt.U, Pt.locs, Pt.cells, Pt.slots] at X566 l566 y566 z566 st566 hQ566
    subst y566 z566
    obtain ⟨rfl, Nq566, Kx566, Bq566⟩ := hQ566
    have N566 : Fr n0 L566 := by rw [l566]; exact Fr.app N552 Nq566
    obtain ⟨ar566, cl566, ty566, Kq566, gar566, Arq566⟩ := Kx566
    have Z566 : n0 ≤ T566.heap.size := Nat.le_trans Z552 Kq566.1
    have f567 := f553.keep Kq566 (ninS (Ne.symm ne_b10_ev21) (ninS (ne_arr f562 (hw _ (List.mem_of_getElem? (i := 51) rfl)) Arq566) nin0))
    have f568 := f554.keep Kq566 (ninS (Ne.symm ne_b10_ev21) (ninS (ne_arr f562 (hw _ (List.mem_of_getElem? (i := 51) rfl)) Arq566) nin0))
    have f569 := f555.keep Kq566 (ninS (Ne.symm ne_b10_ev28) (ninS (ne_arr f563 (hw _ (List.mem_of_getElem? (i := 51) rfl)) Arq566) nin0))
    have f570 := f556.keep Kq566 (ninS (Ne.symm ne_b10_ev28) (ninS (ne_arr f563 (hw _ (List.mem_of_getElem? (i := 51) rfl)) Arq566) nin0))
    have f571 := f557.keep Kq566 (ninS (Ne.symm ne_b10_ev38) (ninS (ne_arr f564 (hw _ (List.mem_of_getElem? (i := 51) rfl)) Arq566) nin0))
    have f572 := f558.keep Kq566 (ninS (Ne.symm ne_b10_ev38) (ninS (ne_arr f564 (hw _ (List.mem_of_getElem? (i := 51) rfl)) Arq566) nin0))
    have f573 := f559.keep Kq566 (ninS (Ne.symm ne_b10_ev51) (ninS (ne_arr f565 (hw _ (List.mem_of_getElem? (i := 51) rfl)) Arq566) nin0))
    have f574 := f560.keep Kq566 (ninS (Ne.symm ne_b10_ev51) (ninS (ne_arr f565 (hw _ (List.mem_of_getElem? (i := 51) rfl)) Arq566) nin0))
    have f575 := f561.keep Kq566
    have f576 := f562.keep Kq566
    have f577 := f563.keep Kq566
    have f578 := f564.keep Kq566
    have f579 := f565.keep Kq566
    have Od566 := Od552.keep Kq566 (allS ge_b10 (allS gar566 all0))
    obtain ⟨cq580, kq580, q580a, q580b, q580c⟩ := isOf hZ rfl f575
    obtain ⟨_, _, ⟨T580, L580, k580, n580⟩, -, X580, ⟨Lc580, hQ580, l580, y580, z580⟩, st580⟩ := X566.virtualBack hx (y := (⟨"com/example/reroutine/reroutine/replanning/ExecutedDay", "activitiesReached", "()I"⟩ : MethodName)) (z := (⟨"com/example/reroutine/reroutine/replanning/ExecutedDay", "activitiesReached", "()I"⟩ : MethodName)) hown (mvT hZ (hw _ (List.mem_of_getElem? (i := 97) rfl))) (mvT hZ (hw _ (List.mem_of_getElem? (i := 98) rfl))) (notFace_of_selects (args := #[]) (mvT hZ (hw _ (List.mem_of_getElem? (i := 100) rfl)))) (mvT hZ (hw _ (List.mem_of_getElem? (i := 100) rfl))) (mvT hZ (hw _ (List.mem_of_getElem? (i := 99) rfl))) (by decide) (backOf (W := 0) (rmQ8 l Z a0 hw [] b10 t0 t1 t2 t3 d0 d1 d2 d3 oa oc T566.heap n0 Z566 Od566 hst Bq566.2.1) hZ (hw _ (List.mem_of_getElem? (i := 101) rfl)) (hw _ (List.mem_of_getElem? (i := 29) rfl)) (by decide) (by decide)) q580a q580c (g := (mkF m 241 #[iv u0, iv u1, iv u2, iv (8 : Int32), iv (u1 &&& (2147483647 : Int32)), rv sv1, rv sv3, rv sv6, rv b10, rv ev21, rv ev28, rv ev38, rv ev51, iv (3 : Int32)] [(.ref b10)])) rfl (by rw [hml]; rfl) (Steps.refl _) (argsL := []) (rest := []) (lenOf pd_9 rfl) rfl (by show 2 * 0 + _ ≤ _; exact Nat.le_of_eq rfl) (hb hby at_241) (fun _ _ => ⟨rfl, rfl, (by decide : 13 + 0 ≤ _), (by decide : 50 + 0 ≤ _)⟩)
    dsimp only [Pt.U, Pt.locs, Pt.cells, Pt.slots] at X580 l580 y580 z580 st580 hQ580
    subst y580 z580
    obtain ⟨rfl, Nq580, eq580⟩ := hQ580
    have N580 : Fr n0 L580 := by rw [l580]; exact Fr.app N566 Nq580
    obtain ⟨fs, hr, hrun, hended, hW, hsame⟩ := X580.leave (v := some (.int (1 : Int32))) (fun h => by rw [Bd.returns] at h; cases h)
    refine ⟨_, _, S67 _ ?_, hrun, hended, _, _, rfl, ?_, ⟨_, rfl⟩, hW, hsame.mono (by decide) (by decide)⟩
    · skip
      show Steps p.tables e below (T51.setTop (mkF m 117 #[iv u0, iv u1, iv u2, iv (8 : Int32), iv (u1 &&& (2147483647 : Int32)), rv sv1, rv sv3, rv sv6, rv b10, rv ev21, rv ev28, rv ev38, rv ev51, .unset] [(.int (8 : Int32))])) _
      refine XS.ifNo X51.here hx rfl (hb hby at_117) rfl ((if0 _ _).trans (tlt (by decide : (0 : Int32) < (8 : Int32))).2.2.2) ?_
      show Steps p.tables e below (T51.setTop (mkF m 120 #[iv u0, iv u1, iv u2, iv (8 : Int32), iv (u1 &&& (2147483647 : Int32)), rv sv1, rv sv3, rv sv6, rv b10, rv ev21, rv ev28, rv ev38, rv ev51, .unset] [])) _
      refine XS.aload X51.here hx rfl (hb hby at_120) rfl rfl ?_
      show Steps p.tables e below (T51.setTop (mkF m 122 #[iv u0, iv u1, iv u2, iv (8 : Int32), iv (u1 &&& (2147483647 : Int32)), rv sv1, rv sv3, rv sv6, rv b10, rv ev21, rv ev28, rv ev38, rv ev51, .unset] [(.ref b10)])) _
      refine XS.aload X51.here hx rfl (hb hby at_122) rfl rfl ?_
      show Steps p.tables e below (T51.setTop (mkF m 124 #[iv u0, iv u1, iv u2, iv (8 : Int32), iv (u1 &&& (2147483647 : Int32)), rv sv1, rv sv3, rv sv6, rv b10, rv ev21, rv ev28, rv ev38, rv ev51, .unset] [(.ref ev21), (.ref b10)])) _
      refine st468.trans ?_
      show Steps p.tables e below (T468.setTop (mkF m 127 #[iv u0, iv u1, iv u2, iv (8 : Int32), iv (u1 &&& (2147483647 : Int32)), rv sv1, rv sv3, rv sv6, rv b10, rv ev21, rv ev28, rv ev38, rv ev51, .unset] [])) _
      refine XS.iloadN X468.here hx rfl (hb hby at_127) rfl ?_
      show Steps p.tables e below (T468.setTop (mkF m 128 #[iv u0, iv u1, iv u2, iv (8 : Int32), iv (u1 &&& (2147483647 : Int32)), rv sv1, rv sv3, rv sv6, rv b10, rv ev21, rv ev28, rv ev38, rv ev51, .unset] [(.int (8 : Int32))])) _
      refine XS.iconst X468.here hx rfl (hb hby at_128) ?_
      show Steps p.tables e below (T468.setTop (mkF m 129 #[iv u0, iv u1, iv u2, iv (8 : Int32), iv (u1 &&& (2147483647 : Int32)), rv sv1, rv sv3, rv sv6, rv b10, rv ev21, rv ev28, rv ev38, rv ev51, .unset] [(.int (1 : Int32)), (.int (8 : Int32))])) _
      refine XS.icmpNo X468.here hx rfl (hb hby at_129) rfl (tlt (by decide : (1 : Int32) < (8 : Int32))).2.2.2 ?_
      show Steps p.tables e below (T468.setTop (mkF m 132 #[iv u0, iv u1, iv u2, iv (8 : Int32), iv (u1 &&& (2147483647 : Int32)), rv sv1, rv sv3, rv sv6, rv b10, rv ev21, rv ev28, rv ev38, rv ev51, .unset] [])) _
      refine XS.aload X468.here hx rfl (hb hby at_132) rfl rfl ?_
      show Steps p.tables e below (T468.setTop (mkF m 134 #[iv u0, iv u1, iv u2, iv (8 : Int32), iv (u1 &&& (2147483647 : Int32)), rv sv1, rv sv3, rv sv6, rv b10, rv ev21, rv ev28, rv ev38, rv ev51, .unset] [(.ref b10)])) _
      refine XS.aload X468.here hx rfl (hb hby at_134) rfl rfl ?_
      show Steps p.tables e below (T468.setTop (mkF m 136 #[iv u0, iv u1, iv u2, iv (8 : Int32), iv (u1 &&& (2147483647 : Int32)), rv sv1, rv sv3, rv sv6, rv b10, rv ev21, rv ev28, rv ev38, rv ev51, .unset] [(.ref ev28), (.ref b10)])) _
      refine st482.trans ?_
      show Steps p.tables e below (T482.setTop (mkF m 139 #[iv u0, iv u1, iv u2, iv (8 : Int32), iv (u1 &&& (2147483647 : Int32)), rv sv1, rv sv3, rv sv6, rv b10, rv ev21, rv ev28, rv ev38, rv ev51, .unset] [])) _
      refine XS.iloadN X482.here hx rfl (hb hby at_139) rfl ?_
      show Steps p.tables e below (T482.setTop (mkF m 140 #[iv u0, iv u1, iv u2, iv (8 : Int32), iv (u1 &&& (2147483647 : Int32)), rv sv1, rv sv3, rv sv6, rv b10, rv ev21, rv ev28, rv ev38, rv ev51, .unset] [(.int (8 : Int32))])) _
      refine XS.iconst X482.here hx rfl (hb hby at_140) ?_
      show Steps p.tables e below (T482.setTop (mkF m 141 #[iv u0, iv u1, iv u2, iv (8 : Int32), iv (u1 &&& (2147483647 : Int32)), rv sv1, rv sv3, rv sv6, rv b10, rv ev21, rv ev28, rv ev38, rv ev51, .unset] [(.int (2 : Int32)), (.int (8 : Int32))])) _
      refine XS.icmpNo X482.here hx rfl (hb hby at_141) rfl (tlt (by decide : (2 : Int32) < (8 : Int32))).2.2.2 ?_
      show Steps p.tables e below (T482.setTop (mkF m 144 #[iv u0, iv u1, iv u2, iv (8 : Int32), iv (u1 &&& (2147483647 : Int32)), rv sv1, rv sv3, rv sv6, rv b10, rv ev21, rv ev28, rv ev38, rv ev51, .unset] [])) _
      refine XS.aload X482.here hx rfl (hb hby at_144) rfl rfl ?_
      show Steps p.tables e below (T482.setTop (mkF m 146 #[iv u0, iv u1, iv u2, iv (8 : Int32), iv (u1 &&& (2147483647 : Int32)), rv sv1, rv sv3, rv sv6, rv b10, rv ev21, rv ev28, rv ev38, rv ev51, .unset] [(.ref b10)])) _
      refine XS.aload X482.here hx rfl (hb hby at_146) rfl rfl ?_
      show Steps p.tables e below (T482.setTop (mkF m 148 #[iv u0, iv u1, iv u2, iv (8 : Int32), iv (u1 &&& (2147483647 : Int32)), rv sv1, rv sv3, rv sv6, rv b10, rv ev21, rv ev28, rv ev38, rv ev51, .unset] [(.ref ev38), (.ref b10)])) _
      refine st496.trans ?_
      show Steps p.tables e below (T496.setTop (mkF m 151 #[iv u0, iv u1, iv u2, iv (8 : Int32), iv (u1 &&& (2147483647 : Int32)), rv sv1, rv sv3, rv sv6, rv b10, rv ev21, rv ev28, rv ev38, rv ev51, .unset] [])) _
      refine XS.iloadN X496.here hx rfl (hb hby at_151) rfl ?_
      show Steps p.tables e below (T496.setTop (mkF m 152 #[iv u0, iv u1, iv u2, iv (8 : Int32), iv (u1 &&& (2147483647 : Int32)), rv sv1, rv sv3, rv sv6, rv b10, rv ev21, rv ev28, rv ev38, rv ev51, .unset] [(.int (8 : Int32))])) _
      refine XS.iconst X496.here hx rfl (hb hby at_152) ?_
      show Steps p.tables e below (T496.setTop (mkF m 153 #[iv u0, iv u1, iv u2, iv (8 : Int32), iv (u1 &&& (2147483647 : Int32)), rv sv1, rv sv3, rv sv6, rv b10, rv ev21, rv ev28, rv ev38, rv ev51, .unset] [(.int (3 : Int32)), (.int (8 : Int32))])) _
      refine XS.icmpNo X496.here hx rfl (hb hby at_153) rfl (tlt (by decide : (3 : Int32) < (8 : Int32))).2.2.2 ?_
      show Steps p.tables e below (T496.setTop (mkF m 156 #[iv u0, iv u1, iv u2, iv (8 : Int32), iv (u1 &&& (2147483647 : Int32)), rv sv1, rv sv3, rv sv6, rv b10, rv ev21, rv ev28, rv ev38, rv ev51, .unset] [])) _
      refine XS.aload X496.here hx rfl (hb hby at_156) rfl rfl ?_
      show Steps p.tables e below (T496.setTop (mkF m 158 #[iv u0, iv u1, iv u2, iv (8 : Int32), iv (u1 &&& (2147483647 : Int32)), rv sv1, rv sv3, rv sv6, rv b10, rv ev21, rv ev28, rv ev38, rv ev51, .unset] [(.ref b10)])) _
      refine XS.aload X496.here hx rfl (hb hby at_158) rfl rfl ?_
      show Steps p.tables e below (T496.setTop (mkF m 160 #[iv u0, iv u1, iv u2, iv (8 : Int32), iv (u1 &&& (2147483647 : Int32)), rv sv1, rv sv3, rv sv6, rv b10, rv ev21, rv ev28, rv ev38, rv ev51, .unset] [(.ref ev51), (.ref b10)])) _
      refine st510.trans ?_
      show Steps p.tables e below (T510.setTop (mkF m 163 #[iv u0, iv u1, iv u2, iv (8 : Int32), iv (u1 &&& (2147483647 : Int32)), rv sv1, rv sv3, rv sv6, rv b10, rv ev21, rv ev28, rv ev38, rv ev51, .unset] [])) _
      refine XS.iloadN X510.here hx rfl (hb hby at_163) rfl ?_
      show Steps p.tables e below (T510.setTop (mkF m 164 #[iv u0, iv u1, iv u2, iv (8 : Int32), iv (u1 &&& (2147483647 : Int32)), rv sv1, rv sv3, rv sv6, rv b10, rv ev21, rv ev28, rv ev38, rv ev51, .unset] [(.int (8 : Int32))])) _
      refine XS.iconst X510.here hx rfl (hb hby at_164) ?_
      show Steps p.tables e below (T510.setTop (mkF m 165 #[iv u0, iv u1, iv u2, iv (8 : Int32), iv (u1 &&& (2147483647 : Int32)), rv sv1, rv sv3, rv sv6, rv b10, rv ev21, rv ev28, rv ev38, rv ev51, .unset] [(.int (4 : Int32)), (.int (8 : Int32))])) _
      refine XS.icmpNo X510.here hx rfl (hb hby at_165) rfl (tlt (by decide : (4 : Int32) < (8 : Int32))).2.2.2 ?_
      show Steps p.tables e below (T510.setTop (mkF m 168 #[iv u0, iv u1, iv u2, iv (8 : Int32), iv (u1 &&& (2147483647 : Int32)), rv sv1, rv sv3, rv sv6, rv b10, rv ev21, rv ev28, rv ev38, rv ev51, .unset] [])) _
      refine XS.aload X510.here hx rfl (hb hby at_168) rfl rfl ?_
      show Steps p.tables e below (T510.setTop (mkF m 170 #[iv u0, iv u1, iv u2, iv (8 : Int32), iv (u1 &&& (2147483647 : Int32)), rv sv1, rv sv3, rv sv6, rv b10, rv ev21, rv ev28, rv ev38, rv ev51, .unset] [(.ref b10)])) _
      refine XS.aload X510.here hx rfl (hb hby at_170) rfl rfl ?_
      show Steps p.tables e below (T510.setTop (mkF m 172 #[iv u0, iv u1, iv u2, iv (8 : Int32), iv (u1 &&& (2147483647 : Int32)), rv sv1, rv sv3, rv sv6, rv b10, rv ev21, rv ev28, rv ev38, rv ev51, .unset] [(.ref ev21), (.ref b10)])) _
      refine st524.trans ?_
      show Steps p.tables e below (T524.setTop (mkF m 175 #[iv u0, iv u1, iv u2, iv (8 : Int32), iv (u1 &&& (2147483647 : Int32)), rv sv1, rv sv3, rv sv6, rv b10, rv ev21, rv ev28, rv ev38, rv ev51, .unset] [])) _
      refine XS.iloadN X524.here hx rfl (hb hby at_175) rfl ?_
      show Steps p.tables e below (T524.setTop (mkF m 176 #[iv u0, iv u1, iv u2, iv (8 : Int32), iv (u1 &&& (2147483647 : Int32)), rv sv1, rv sv3, rv sv6, rv b10, rv ev21, rv ev28, rv ev38, rv ev51, .unset] [(.int (8 : Int32))])) _
      refine XS.iconst X524.here hx rfl (hb hby at_176) ?_
      show Steps p.tables e below (T524.setTop (mkF m 177 #[iv u0, iv u1, iv u2, iv (8 : Int32), iv (u1 &&& (2147483647 : Int32)), rv sv1, rv sv3, rv sv6, rv b10, rv ev21, rv ev28, rv ev38, rv ev51, .unset] [(.int (5 : Int32)), (.int (8 : Int32))])) _
      refine XS.icmpNo X524.here hx rfl (hb hby at_177) rfl (tlt (by decide : (5 : Int32) < (8 : Int32))).2.2.2 ?_
      show Steps p.tables e below (T524.setTop (mkF m 180 #[iv u0, iv u1, iv u2, iv (8 : Int32), iv (u1 &&& (2147483647 : Int32)), rv sv1, rv sv3, rv sv6, rv b10, rv ev21, rv ev28, rv ev38, rv ev51, .unset] [])) _
      refine XS.aload X524.here hx rfl (hb hby at_180) rfl rfl ?_
      show Steps p.tables e below (T524.setTop (mkF m 182 #[iv u0, iv u1, iv u2, iv (8 : Int32), iv (u1 &&& (2147483647 : Int32)), rv sv1, rv sv3, rv sv6, rv b10, rv ev21, rv ev28, rv ev38, rv ev51, .unset] [(.ref b10)])) _
      refine XS.aload X524.here hx rfl (hb hby at_182) rfl rfl ?_
      show Steps p.tables e below (T524.setTop (mkF m 184 #[iv u0, iv u1, iv u2, iv (8 : Int32), iv (u1 &&& (2147483647 : Int32)), rv sv1, rv sv3, rv sv6, rv b10, rv ev21, rv ev28, rv ev38, rv ev51, .unset] [(.ref ev28), (.ref b10)])) _
      refine st538.trans ?_
      show Steps p.tables e below (T538.setTop (mkF m 187 #[iv u0, iv u1, iv u2, iv (8 : Int32), iv (u1 &&& (2147483647 : Int32)), rv sv1, rv sv3, rv sv6, rv b10, rv ev21, rv ev28, rv ev38, rv ev51, .unset] [])) _
      refine XS.iloadN X538.here hx rfl (hb hby at_187) rfl ?_
      show Steps p.tables e below (T538.setTop (mkF m 188 #[iv u0, iv u1, iv u2, iv (8 : Int32), iv (u1 &&& (2147483647 : Int32)), rv sv1, rv sv3, rv sv6, rv b10, rv ev21, rv ev28, rv ev38, rv ev51, .unset] [(.int (8 : Int32))])) _
      refine XS.bipush X538.here hx rfl (hb hby at_188) ?_
      show Steps p.tables e below (T538.setTop (mkF m 190 #[iv u0, iv u1, iv u2, iv (8 : Int32), iv (u1 &&& (2147483647 : Int32)), rv sv1, rv sv3, rv sv6, rv b10, rv ev21, rv ev28, rv ev38, rv ev51, .unset] [(.int (6 : Int32)), (.int (8 : Int32))])) _
      refine XS.icmpNo X538.here hx rfl (hb hby at_190) rfl (tlt (by decide : (6 : Int32) < (8 : Int32))).2.2.2 ?_
      show Steps p.tables e below (T538.setTop (mkF m 193 #[iv u0, iv u1, iv u2, iv (8 : Int32), iv (u1 &&& (2147483647 : Int32)), rv sv1, rv sv3, rv sv6, rv b10, rv ev21, rv ev28, rv ev38, rv ev51, .unset] [])) _
      refine XS.aload X538.here hx rfl (hb hby at_193) rfl rfl ?_
      show Steps p.tables e below (T538.setTop (mkF m 195 #[iv u0, iv u1, iv u2, iv (8 : Int32), iv (u1 &&& (2147483647 : Int32)), rv sv1, rv sv3, rv sv6, rv b10, rv ev21, rv ev28, rv ev38, rv ev51, .unset] [(.ref b10)])) _
      refine XS.aload X538.here hx rfl (hb hby at_195) rfl rfl ?_
      show Steps p.tables e below (T538.setTop (mkF m 197 #[iv u0, iv u1, iv u2, iv (8 : Int32), iv (u1 &&& (2147483647 : Int32)), rv sv1, rv sv3, rv sv6, rv b10, rv ev21, rv ev28, rv ev38, rv ev51, .unset] [(.ref ev38), (.ref b10)])) _
      refine st552.trans ?_
      show Steps p.tables e below (T552.setTop (mkF m 200 #[iv u0, iv u1, iv u2, iv (8 : Int32), iv (u1 &&& (2147483647 : Int32)), rv sv1, rv sv3, rv sv6, rv b10, rv ev21, rv ev28, rv ev38, rv ev51, .unset] [])) _
      refine XS.iloadN X552.here hx rfl (hb hby at_200) rfl ?_
      show Steps p.tables e below (T552.setTop (mkF m 201 #[iv u0, iv u1, iv u2, iv (8 : Int32), iv (u1 &&& (2147483647 : Int32)), rv sv1, rv sv3, rv sv6, rv b10, rv ev21, rv ev28, rv ev38, rv ev51, .unset] [(.int (8 : Int32))])) _
      refine XS.bipush X552.here hx rfl (hb hby at_201) ?_
      show Steps p.tables e below (T552.setTop (mkF m 203 #[iv u0, iv u1, iv u2, iv (8 : Int32), iv (u1 &&& (2147483647 : Int32)), rv sv1, rv sv3, rv sv6, rv b10, rv ev21, rv ev28, rv ev38, rv ev51, .unset] [(.int (7 : Int32)), (.int (8 : Int32))])) _
      refine XS.icmpNo X552.here hx rfl (hb hby at_203) rfl (tlt (by decide : (7 : Int32) < (8 : Int32))).2.2.2 ?_
      show Steps p.tables e below (T552.setTop (mkF m 206 #[iv u0, iv u1, iv u2, iv (8 : Int32), iv (u1 &&& (2147483647 : Int32)), rv sv1, rv sv3, rv sv6, rv b10, rv ev21, rv ev28, rv ev38, rv ev51, .unset] [])) _
      refine XS.aload X552.here hx rfl (hb hby at_206) rfl rfl ?_
      show Steps p.tables e below (T552.setTop (mkF m 208 #[iv u0, iv u1, iv u2, iv (8 : Int32), iv (u1 &&& (2147483647 : Int32)), rv sv1, rv sv3, rv sv6, rv b10, rv ev21, rv ev28, rv ev38, rv ev51, .unset] [(.ref b10)])) _
      refine XS.aload X552.here hx rfl (hb hby at_208) rfl rfl ?_
      show Steps p.tables e below (T552.setTop (mkF m 210 #[iv u0, iv u1, iv u2, iv (8 : Int32), iv (u1 &&& (2147483647 : Int32)), rv sv1, rv sv3, rv sv6, rv b10, rv ev21, rv ev28, rv ev38, rv ev51, .unset] [(.ref ev51), (.ref b10)])) _
      refine st566.trans ?_
      show Steps p.tables e below (T566.setTop (mkF m 213 #[iv u0, iv u1, iv u2, iv (8 : Int32), iv (u1 &&& (2147483647 : Int32)), rv sv1, rv sv3, rv sv6, rv b10, rv ev21, rv ev28, rv ev38, rv ev51, .unset] [])) _
      refine XS.iloadN X566.here hx rfl (hb hby at_213) rfl ?_
      show Steps p.tables e below (T566.setTop (mkF m 214 #[iv u0, iv u1, iv u2, iv (8 : Int32), iv (u1 &&& (2147483647 : Int32)), rv sv1, rv sv3, rv sv6, rv b10, rv ev21, rv ev28, rv ev38, rv ev51, .unset] [(.int (8 : Int32))])) _
      refine XS.iconst X566.here hx rfl (hb hby at_214) ?_
      show Steps p.tables e below (T566.setTop (mkF m 215 #[iv u0, iv u1, iv u2, iv (8 : Int32), iv (u1 &&& (2147483647 : Int32)), rv sv1, rv sv3, rv sv6, rv b10, rv ev21, rv ev28, rv ev38, rv ev51, .unset] [(.int (4 : Int32)), (.int (8 : Int32))])) _
      refine XS.icmpYes X566.here hx rfl (pc0 := 215) (pc' := 224) rfl (hb hby at_215) rfl (flt (by decide : ¬ ((8 : Int32) < (4 : Int32)))).2.1 (by decide) (by decide) ?_
      show Steps p.tables e below (T566.setTop (mkF m 224 #[iv u0, iv u1, iv u2, iv (8 : Int32), iv (u1 &&& (2147483647 : Int32)), rv sv1, rv sv3, rv sv6, rv b10, rv ev21, rv ev28, rv ev38, rv ev51, .unset] [])) _
      refine XS.iloadN X566.here hx rfl (hb hby at_224) rfl ?_
      show Steps p.tables e below (T566.setTop (mkF m 225 #[iv u0, iv u1, iv u2, iv (8 : Int32), iv (u1 &&& (2147483647 : Int32)), rv sv1, rv sv3, rv sv6, rv b10, rv ev21, rv ev28, rv ev38, rv ev51, .unset] [(.int (8 : Int32))])) _
      refine XS.bipush X566.here hx rfl (hb hby at_225) ?_
      show Steps p.tables e below (T566.setTop (mkF m 227 #[iv u0, iv u1, iv u2, iv (8 : Int32), iv (u1 &&& (2147483647 : Int32)), rv sv1, rv sv3, rv sv6, rv b10, rv ev21, rv ev28, rv ev38, rv ev51, .unset] [(.int (8 : Int32)), (.int (8 : Int32))])) _
      refine XS.icmpYes X566.here hx rfl (pc0 := 227) (pc' := 236) rfl (hb hby at_227) rfl (flt (by decide : ¬ ((8 : Int32) < (8 : Int32)))).2.1 (by decide) (by decide) ?_
      show Steps p.tables e below (T566.setTop (mkF m 236 #[iv u0, iv u1, iv u2, iv (8 : Int32), iv (u1 &&& (2147483647 : Int32)), rv sv1, rv sv3, rv sv6, rv b10, rv ev21, rv ev28, rv ev38, rv ev51, .unset] [])) _
      refine XS.iconst X566.here hx rfl (hb hby at_236) ?_
      show Steps p.tables e below (T566.setTop (mkF m 237 #[iv u0, iv u1, iv u2, iv (8 : Int32), iv (u1 &&& (2147483647 : Int32)), rv sv1, rv sv3, rv sv6, rv b10, rv ev21, rv ev28, rv ev38, rv ev51, .unset] [(.int (3 : Int32))])) _
      refine XS.istore X566.here hx rfl (hb hby at_237) rfl (l' := #[iv u0, iv u1, iv u2, iv (8 : Int32), iv (u1 &&& (2147483647 : Int32)), rv sv1, rv sv3, rv sv6, rv b10, rv ev21, rv ev28, rv ev38, rv ev51, iv (3 : Int32)]) rfl ?_
      show Steps p.tables e below (T566.setTop (mkF m 239 #[iv u0, iv u1, iv u2, iv (8 : Int32), iv (u1 &&& (2147483647 : Int32)), rv sv1, rv sv3, rv sv6, rv b10, rv ev21, rv ev28, rv ev38, rv ev51, iv (3 : Int32)] [])) _
      refine XS.aload X566.here hx rfl (hb hby at_239) rfl rfl ?_
      show Steps p.tables e below (T566.setTop (mkF m 241 #[iv u0, iv u1, iv u2, iv (8 : Int32), iv (u1 &&& (2147483647 : Int32)), rv sv1, rv sv3, rv sv6, rv b10, rv ev21, rv ev28, rv ev38, rv ev51, iv (3 : Int32)] [(.ref b10)])) _
      refine st580.trans ?_
      show Steps p.tables e below (T580.setTop (mkF m 244 #[iv u0, iv u1, iv u2, iv (8 : Int32), iv (u1 &&& (2147483647 : Int32)), rv sv1, rv sv3, rv sv6, rv b10, rv ev21, rv ev28, rv ev38, rv ev51, iv (3 : Int32)] [(.int (3 : Int32))])) _
      refine XS.iload X580.here hx rfl (hb hby at_244) rfl ?_
      show Steps p.tables e below (T580.setTop (mkF m 246 #[iv u0, iv u1, iv u2, iv (8 : Int32), iv (u1 &&& (2147483647 : Int32)), rv sv1, rv sv3, rv sv6, rv b10, rv ev21, rv ev28, rv ev38, rv ev51, iv (3 : Int32)] [(.int (3 : Int32)), (.int (3 : Int32))])) _
      refine XS.icmpNo X580.here hx rfl (hb hby at_246) rfl (teq (by decide : (3 : Int32) = (3 : Int32))).2 ?_
      show Steps p.tables e below (T580.setTop (mkF m 249 #[iv u0, iv u1, iv u2, iv (8 : Int32), iv (u1 &&& (2147483647 : Int32)), rv sv1, rv sv3, rv sv6, rv b10, rv ev21, rv ev28, rv ev38, rv ev51, iv (3 : Int32)] [])) _
      refine XS.iconst X580.here hx rfl (hb hby at_249) ?_
      show Steps p.tables e below (T580.setTop (mkF m 250 #[iv u0, iv u1, iv u2, iv (8 : Int32), iv (u1 &&& (2147483647 : Int32)), rv sv1, rv sv3, rv sv6, rv b10, rv ev21, rv ev28, rv ev38, rv ev51, iv (3 : Int32)] [(.int (1 : Int32))])) _
      refine XS.goto X580.here hx rfl (pc0 := 250) (pc' := 254) rfl (hb hby at_250) (by decide) (by decide) ?_
      show Steps p.tables e below (T580.setTop (mkF m 254 #[iv u0, iv u1, iv u2, iv (8 : Int32), iv (u1 &&& (2147483647 : Int32)), rv sv1, rv sv3, rv sv6, rv b10, rv ev21, rv ev28, rv ev38, rv ev51, iv (3 : Int32)] [(.int (1 : Int32))])) _
      exact retN X580 hx (t := .boolean) Bd.returns (by simp) (hb hby at_254) hr
    · show Q0 Z u0 u1 u2 t0 t1 t2 t3 d0 d1 d2 d3 oa oc G1 h0 n0 _ T580.heap _
      rw [eq580]
      exact ⟨rfl, N580⟩
theorem own_kin {x : Value} {b : Addr} (k : Kin x (.ref b)) (k' : Kin (.ref b) x) : x.isRef = true := k'.2
theorem own_len {Z : State} {args : Array Value} {t : Term} {a : Addr} {cl : Cell} {k : Int32} (ht : t.eval args Z none [] Z = some (.ref a)) (ha : Z.arrayAt? a = some cl) (h : (Jvm.Cond.eq (.length t) (.int k)).value args Z none Z [] = some true) : cl.slots.size < 2 ^ 31 ∧ cl.slots.size.toInt32 = k := by
  by_cases q : cl.slots.size < 2 ^ 31
  · exact ⟨q, gotT (Cond.eq_ints (len_f ht ha q) rfl) h⟩
  · simp [Cond.value, Term.eval, ht, ha, q] at h
theorem own_len4 {n : Nat} (h1 : n < 2 ^ 31) (h2 : n.toInt32 = (4 : Int32)) : n = (4 : Int32).toNatClampNeg := by
  have e := len_toInt h1
  rw [h2] at e
  have : (4 : Int32).toInt = 4 := by decide
  have q : (4 : Int32).toNatClampNeg = 4 := by decide
  omega
theorem own_eqR {Z : State} {args : Array Value} {X Y : Term} {b : Addr} (hY : Y.eval args Z none [] Z = some (.ref b)) (h : (Jvm.Cond.eq X Y).value args Z none Z [] = some true) : X.eval args Z none [] Z = some (.ref b) := by
  obtain ⟨x, y, e1, e2, k1, k2⟩ := cmp_v (Or.inl h)
  cases hY.symm.trans e2
  rcases ref_cases (own_kin k1 k2) with rfl | ⟨c, rfl⟩
  · simp [Cond.value, e1, hY] at h
  · have q := gotT (eq_R e1 hY rfl rfl) h
    rw [e1, q]

set_option maxRecDepth 65536 in
set_option maxHeartbeats 40000000 in
theorem comes_1 {Post : Tables → Env → Array Value → State → Outcome → State → Prop} (hpost : ∀ tb e args s v u, (limb_1_1.after args s (.returned v) u = true ∧ limb_1_2.after args s (.returned v) u = true ∧ True) → FrameEnd s (.returned v) u (Jvm.fieldLocs frame_1_writes args s ++ Jvm.arrayLocs frame_1_arrays args s ++ Jvm.staticLocs frame_1_statics s) 40 192 → Post tb e args s (.returned v) u) :
    ArmFor flags0 classFile x code maxLocals ret World_1 tables_1 room_1 Calls_1 rest_1 Pre_1 Post := by
  intro l hfl _ _ p e ha hc hk s m args below hf hA hF happ hP
  obtain ⟨hcalls, hrest, hpre⟩ := hP
  obtain ⟨-, -, -, hnamed, -, -, -, hat⟩ := (Spec.applies_iff hf).mp happ
  obtain ⟨hg, hn⟩ := and_e (Cond.before_iff.mp (show (Jvm.Cond.and given_1 narrow_1).before args s = true from hpre))
  obtain ⟨g1, g2⟩ := and_e hg
  obtain ⟨g3, g4⟩ := and_e g2
  obtain ⟨g5, g6⟩ := and_e g4
  obtain ⟨w0, w1, w2, rfl⟩ : ∃ w0 w1 w2 : Value, args = #[w0, w1, w2] := by
    have hs : args.size = 3 := by simpa [Cond.value, given_1] using g1
    obtain ⟨L⟩ := args
    match L, hs with
    | [w0, w1, w2], _ => exact ⟨w0, w1, w2, rfl⟩
  have hw := fun d (hd : d ∈ tables_1) => atoms_spec (ws := Jvm.Cond.code x code maxLocals ret :: tables_1) hat d (List.mem_cons_of_mem _ hd)
  have hfit : Fit s := fun {y c} hc i hi => by
    obtain ⟨ha, rfl⟩ := Array.getElem?_eq_some_iff.mp hc
    have q := List.all_eq_true.mp ((Array.all_eq_true_iff_forall_mem.mp hF) _ (Array.getElem_mem ha)) i (List.mem_range.mpr hi)
    simpa [Array.getElem?_eq_getElem hi] using q
  obtain ⟨hsets, hown0⟩ := atoms_of _ (rest_1_c_eq ▸ (show rest_1_c.before _ s = true from hrest))
  have hr0 := Cond.before_iff.mp hown0
  obtain ⟨i0, ei0⟩ := is_v g3
  obtain rfl : w0 = (.int i0) := Option.some.inj ei0
  obtain ⟨i1, ei1⟩ := is_v g5
  obtain rfl : w1 = (.int i1) := Option.some.inj ei1
  obtain ⟨i2, ei2⟩ := is_v g6
  obtain rfl : w2 = (.int i2) := Option.some.inj ei2
  obtain ⟨c0, r0⟩ := and_e hn
  obtain ⟨c1, r1⟩ := and_e r0
  obtain ⟨c2, r2⟩ := and_e r1
  obtain ⟨c3, r3⟩ := and_e r2
  obtain ⟨c4, r4⟩ := and_e r3
  obtain ⟨c5, r5⟩ := and_e r4
  obtain ⟨c6, r6⟩ := and_e r5
  obtain ⟨c7, r7⟩ := and_e r6
  obtain ⟨c8, r8⟩ := and_e r7
  obtain ⟨c9, r9⟩ := and_e r8
  obtain ⟨c10, r10⟩ := and_e r9
  obtain ⟨c11, r11⟩ := and_e r10
  obtain ⟨c12, r12⟩ := and_e r11
  have c13 := r12
  obtain ⟨oa, e_oa⟩ := arr_v c0
  obtain ⟨oc, A_oa⟩ := Arr.start e_oa c0
  obtain ⟨l1, l2⟩ := own_len e_oa (A_oa.fin (Vm.Alike.refl _)) c1
  have hso := Sta.start e_oa (Or.inr ⟨(hw _ (List.mem_of_getElem? (i := 29) rfl)), (hw _ (List.mem_of_getElem? (i := 35) rfl))⟩)
  obtain ⟨t0, e_t0⟩ := exa_v c2
  have hx0 := Exa.start e_t0 c2
  have hs0 := Sta.start e_t0 (Or.inr ⟨(hw _ (List.mem_of_getElem? (i := 53) rfl)), (hw _ (List.mem_of_getElem? (i := 54) rfl))⟩)
  obtain ⟨t1, e_t1⟩ := exa_v c4
  have hx1 := Exa.start e_t1 c4
  have hs1 := Sta.start e_t1 (Or.inr ⟨(hw _ (List.mem_of_getElem? (i := 53) rfl)), (hw _ (List.mem_of_getElem? (i := 86) rfl))⟩)
  obtain ⟨t2, e_t2⟩ := exa_v c6
  have hx2 := Exa.start e_t2 c6
  have hs2 := Sta.start e_t2 (Or.inr ⟨(hw _ (List.mem_of_getElem? (i := 53) rfl)), (hw _ (List.mem_of_getElem? (i := 91) rfl))⟩)
  obtain ⟨t3, e_t3⟩ := exa_v c8
  have hx3 := Exa.start e_t3 c8
  have hs3 := Sta.start e_t3 (Or.inr ⟨(hw _ (List.mem_of_getElem? (i := 53) rfl)), (hw _ (List.mem_of_getElem? (i := 96) rfl))⟩)
  obtain ⟨d0, e_d0⟩ := exa_v c3
  obtain ⟨d1, e_d1⟩ := exa_v c5
  have e_d2 := own_eqR e_d1 c7
  have e_d3 := own_eqR e_d0 c9
  have hd0 : Fld s s.heap t0 "com/example/reroutine/reroutine/scenario/EventType" "detailAttribute" "Ljava/lang/String;" (.ref d0) := Fld.start ((fld_at e_t0).symm.trans e_d0)
  have hd1 : Fld s s.heap t1 "com/example/reroutine/reroutine/scenario/EventType" "detailAttribute" "Ljava/lang/String;" (.ref d1) := Fld.start ((fld_at e_t1).symm.trans e_d1)
  have hd2 : Fld s s.heap t2 "com/example/reroutine/reroutine/scenario/EventType" "detailAttribute" "Ljava/lang/String;" (.ref d1) := Fld.start ((fld_at e_t2).symm.trans e_d2)
  have hd3 : Fld s s.heap t3 "com/example/reroutine/reroutine/scenario/EventType" "detailAttribute" "Ljava/lang/String;" (.ref d0) := Fld.start ((fld_at e_t3).symm.trans e_d3)
  have hq0 : oc.slots[0]? = some (.ref t0) := (elem_f e_oa (show (Jvm.Term.int (0 : Int32)).eval _ s none [] s = some (.int (0 : Int32)) from rfl) (A_oa.fin (Vm.Alike.refl _)) (by decide)).symm.trans (own_eqR e_t0 c10)
  have hq1 : oc.slots[1]? = some (.ref t1) := (elem_f e_oa (show (Jvm.Term.int (1 : Int32)).eval _ s none [] s = some (.int (1 : Int32)) from rfl) (A_oa.fin (Vm.Alike.refl _)) (by decide)).symm.trans (own_eqR e_t1 c11)
  have hq2 : oc.slots[2]? = some (.ref t2) := (elem_f e_oa (show (Jvm.Term.int (2 : Int32)).eval _ s none [] s = some (.int (2 : Int32)) from rfl) (A_oa.fin (Vm.Alike.refl _)) (by decide)).symm.trans (own_eqR e_t2 c12)
  have hq3 : oc.slots[3]? = some (.ref t3) := (elem_f e_oa (show (Jvm.Term.int (3 : Int32)).eval _ s none [] s = some (.int (3 : Int32)) from rfl) (A_oa.fin (Vm.Alike.refl _)) (by decide)).symm.trans (own_eqR e_t3 c13)
  have hst : own_St s t0 t1 t2 t3 d0 d1 d1 d0 oa oc := ⟨⟨hs0, hx0, hd0⟩, ⟨hs1, hx1, hd1⟩, ⟨hs2, hx2, hd2⟩, ⟨hs3, hx3, hd3⟩, hso, A_oa, own_len4 l1 l2, hq0, hq1, hq2, hq3⟩
  have n3 := not_v (Cond.before_iff.mp (hsets _ (List.mem_of_getElem? (i := 2) rfl)))
  obtain ⟨G1, e6⟩ := is_v (Cond.before_iff.mp (hsets _ (List.mem_of_getElem? (i := 1) rfl)))
  have S8 : Sta s s.heap "java/lang/String" "COMPACT_STRINGS" "Z" (.int G1) := Sta.start e6 (Or.inl (hsets _ (List.mem_of_getElem? (i := 0) rfl)))
  have c9_ : ¬ (G1 = (0 : Int32)) := gotF (Cond.eq_ints e6 (Term.int_eval (0))) n3
  obtain ⟨n, o, h1, h2, h3, _, L, rfl, ⟨rfl, N⟩, hq⟩ := rm0 l s _ hw tables_1 i0 i1 i2 t0 t1 t2 t3 d0 d1 d1 d0 oa oc G1 s.heap s.heap.size (Nat.le_refl _) (Old.start s) hst S8 c9_ p e ha hc hk s m _ below hf ((Spec.applies_iff_loose hf).mp happ).1 ⟨rfl, State.Warmed39.refl s, rfl⟩ trivial
  refine ⟨n, _, h1, h2, h3, hpost _ _ _ _ _ _ ⟨Cond.after_iff.mpr rfl, Cond.after_iff.mpr (eq_i res_at (Term.int_eval (1)) rfl), trivial⟩ ⟨hq.1, hq.2.1, (hq.2.2.sift fun y hy => Or.inr (N y hy)).mono (by decide) (by decide)⟩⟩
theorem main_1_1 : Claimed_1_1 := comes_1 fun _ _ _ _ _ _ h hF => ⟨h.1, hF⟩
theorem main_1_2 : Claimed_1_2 := comes_1 fun _ _ _ _ _ _ h hF => ⟨h.2.1, hF⟩
end Jvm.Pilot.@@N@@
namespace Jvm.Pilot.@@N@@
open Jvm Jvm.ClassFile Sem Op Lib Jvm.Free Jvm.Stand Jvm.Pilot.@@N@@.Jvm.D
/-! MADE BY PROGRAM (witnessworld.py) out of the Statement's table words and the real class files: 26 classes; the members and pool entries that the words name. The judged class is class 1, her method 1. -/
namespace start1
open Jvm.ClassFile
def u (s : String) : CpInfo := .utf8 (stringToUtf16 s)
/-- a pool by its gaps: so many unusable entries, then the entry; so many at the end -/
def gap : Nat → List CpInfo → List CpInfo
  | 0, r => r
  | n + 1, r => .unusable :: gap n r
def poolList (es : List (Nat × CpInfo)) (last : Nat) : List CpInfo := es.foldr (fun e r => gap e.1 (e.2 :: r)) (gap last [])
def pool (es : List (Nat × CpInfo)) (last : Nat) : Array CpInfo := ⟨poolList es last⟩
def fileOf (pool : Array CpInfo) (this : Nat) (attrs : Array Attribute := #[]) (ms : Array MethodInfo := #[]) (fl : Nat := 33) (sup : Nat := 0) (ifs : Array Nat := #[]) (fds : Array FieldInfo := #[]) : ClassFile where
  minorVersion := 0
  majorVersion := 65
  constantPool := pool
  accessFlags := fl
  thisClass := this
  superClass := sup
  interfaces := ifs
  fields := fds
  methods := ms
  attributes := attrs
def plain (name : String) (sup : Option ClassId) : Class where
  name := name
  kind := .ordinary
  loader := none
  accessFlags := 33
  super := sup
  interfaces := #[]
  cf := none
  fields := #[]
  methods := #[]
  instanceTypes := #[]
  staticTypes := #[]
  resolved := #[]
  callSites := []
  init := .initialized
  statics := none
  mirror := none

def pool0 : Array CpInfo := pool [(5, u "<init>"), (0, u "()V"), (1, .class_ 10), (1, u "java/lang/Object")] 113

def k0c0 : Code := { maxStack := 0, maxLocals := 1, code := object_method_1_code, exceptionTable := #[], attributes := #[] }
def k0m0 : Method := { name := "<init>", desc := "()V", sig := { parameters := [], returnType := none }, accessFlags := 1, code := some k0c0 }
/-- java/lang/Object -/
def k0 : Class := { plain "java/lang/Object" none with
  accessFlags := 33
  interfaces := #[]
  cf := some (fileOf pool0 8 #[] #[{ accessFlags := 1, nameIndex := 5, descriptorIndex := 6, attributes := #[] }] 33 0 #[] #[])
  fields := #[]
  methods := #[k0m0]
  instanceTypes := #[]
  staticTypes := #[]
  resolved := Array.replicate 124 none
  statics := none }

def pool1 : Array CpInfo := pool [(2, .class_ 4), (1, u "java/lang/Object"), (0, u "<init>"), (0, u "()V"), (0, .integer 2147483647), (0, .methodref 9 10), (0, .class_ 11), (0, .nameAndType 12 13), (0, u "java/lang/String"), (0, u "valueOf"), (0, u "(C)Ljava/lang/String;"), (0, .class_ 15), (0, u "com/example/reroutine/reroutine/replanning/ExecutedDay"), (0, .methodref 14 17), (0, .nameAndType 5 18), (0, u "(Ljava/lang/String;)V"), (0, .methodref 20 21), (0, .class_ 22), (0, .nameAndType 23 24), (0, u "com/example/reroutine/reroutine/scenario/Event"), (0, u "actEnd"), (0, u "(ILjava/lang/String;Ljava/lang/String;Ljava/lang/String;)Lcom/example/reroutine/reroutine/scenario/Event;"), (0, .methodref 20 26), (0, .nameAndType 27 24), (0, u "departure"), (0, .methodref 20 29), (0, .nameAndType 30 24), (0, u "arrival"), (0, .methodref 20 32), (0, .nameAndType 33 24), (0, u "actStart"), (0, .methodref 14 35), (0, .nameAndType 36 37), (0, u "add"), (0, u "(Lcom/example/reroutine/reroutine/scenario/Event;)V"), (0, .methodref 14 39), (0, .nameAndType 40 41), (0, u "activitiesReached"), (0, u "()I"), (0, .class_ 43), (0, u "com/example/reroutine/reroutine/replanning/ExecutedDayActivitiesReachedPinLaw"), (2, u "law"), (0, u "(III)Z")] 3

def k1m0 : Method := { name := "<init>", desc := "()V", sig := { parameters := [], returnType := none }, accessFlags := 1, code := none }
def k1c1 : Code := { maxStack := 4, maxLocals := 14, code := code, exceptionTable := #[], attributes := #[] }
def k1m1 : Method := { name := "law", desc := "(III)Z", sig := { parameters := [.int, .int, .int], returnType := some .boolean }, accessFlags := 9, code := some k1c1 }
/-- com/example/reroutine/reroutine/replanning/ExecutedDayActivitiesReachedPinLaw -/
def k1 : Class := { plain "com/example/reroutine/reroutine/replanning/ExecutedDayActivitiesReachedPinLaw" (some 0) with
  accessFlags := 49
  interfaces := #[]
  cf := some (fileOf pool1 42 #[] #[{ accessFlags := 1, nameIndex := 5, descriptorIndex := 6, attributes := #[] }, { accessFlags := 9, nameIndex := 46, descriptorIndex := 47, attributes := #[] }] 49 2 #[] #[])
  fields := #[]
  methods := #[k1m0, k1m1]
  instanceTypes := #[]
  staticTypes := #[]
  resolved := Array.replicate 51 none
  statics := none }

def pool2 : Array CpInfo := pool [(1, .class_ 2), (0, u "java/io/Serializable"), (0, .class_ 4), (0, u "java/lang/Object")] 2

/-- java/io/Serializable -/
def k2 : Class := { plain "java/io/Serializable" (some 0) with
  accessFlags := 1537
  interfaces := #[]
  cf := some (fileOf pool2 1 #[] #[] 1537 3 #[] #[])
  fields := #[]
  methods := #[]
  instanceTypes := #[]
  staticTypes := #[]
  resolved := Array.replicate 7 none
  statics := none }

def pool3 : Array CpInfo := pool [(1, .class_ 2), (0, u "java/lang/Comparable"), (0, .class_ 4), (0, u "java/lang/Object")] 7

/-- java/lang/Comparable -/
def k3 : Class := { plain "java/lang/Comparable" (some 0) with
  accessFlags := 1537
  interfaces := #[]
  cf := some (fileOf pool3 1 #[] #[] 1537 3 #[] #[])
  fields := #[]
  methods := #[]
  instanceTypes := #[]
  staticTypes := #[]
  resolved := Array.replicate 12 none
  statics := none }

def pool4 : Array CpInfo := pool [(2, .class_ 4), (1, u "java/lang/CharSequence"), (42, .class_ 48), (0, u "java/lang/CharSequence$1CodePointIterator"), (10, .class_ 60), (0, u "java/lang/CharSequence$1CharIterator"), (5, .class_ 67), (0, u "java/lang/Object")] 63

/-- java/lang/CharSequence -/
def k4 : Class := { plain "java/lang/CharSequence" (some 0) with
  accessFlags := 1537
  interfaces := #[]
  cf := some (fileOf pool4 2 #[.nestMembers #[47, 59]] #[] 1537 66 #[] #[])
  fields := #[]
  methods := #[]
  instanceTypes := #[]
  staticTypes := #[]
  resolved := Array.replicate 131 none
  statics := none }

def pool5 : Array CpInfo := pool [(1, .class_ 2), (0, u "java/lang/constant/Constable"), (0, .class_ 4), (0, u "java/lang/Object")] 6

/-- java/lang/constant/Constable -/
def k5 : Class := { plain "java/lang/constant/Constable" (some 0) with
  accessFlags := 1537
  interfaces := #[]
  cf := some (fileOf pool5 1 #[] #[] 1537 3 #[] #[])
  fields := #[]
  methods := #[]
  instanceTypes := #[]
  staticTypes := #[]
  resolved := Array.replicate 11 none
  statics := none }

def pool6 : Array CpInfo := pool [(1, .class_ 2), (0, u "java/lang/constant/ConstantDesc"), (0, .class_ 4), (0, u "java/lang/Object")] 32

/-- java/lang/constant/ConstantDesc -/
def k6 : Class := { plain "java/lang/constant/ConstantDesc" (some 0) with
  accessFlags := 1537
  interfaces := #[]
  cf := some (fileOf pool6 1 #[] #[] 1537 3 #[] #[])
  fields := #[]
  methods := #[]
  instanceTypes := #[]
  staticTypes := #[]
  resolved := Array.replicate 37 none
  statics := none }

def pool7 : Array CpInfo := pool [(1, .methodref 2 3), (0, .class_ 4), (0, .nameAndType 5 6), (0, u "java/lang/Object"), (0, u "<init>"), (0, u "()V"), (2, .fieldref 10 11), (0, .class_ 12), (0, .nameAndType 13 14), (0, u "java/lang/String"), (0, u "value"), (0, u "[B"), (0, .fieldref 10 16), (0, .nameAndType 17 18), (0, u "coder"), (0, u "B"), (2, u "hash"), (0, u "I"), (2, u "hashIsZero"), (0, u "Z"), (11, .fieldref 10 39), (0, .nameAndType 40 26), (0, u "COMPACT_STRINGS"), (12, u "toBytes"), (53, .class_ 109), (1, u "java/lang/StringLatin1"), (99, .methodref 10 210), (0, .nameAndType 5 211), (0, u "([BB)V"), (157, u "(C)Z"), (205, .class_ 576), (0, u "java/lang/CharSequence"), (22, u "CASE_INSENSITIVE_ORDER"), (0, u "Ljava/util/Comparator;"), (181, u "valueOf"), (0, u "(C)Ljava/lang/String;"), (231, .methodref 107 1016), (0, .nameAndType 1017 369), (0, u "canEncode"), (0, .methodref 107 1019), (0, .nameAndType 53 1020), (0, u "(C)[B"), (80, u "serialPersistentFields"), (0, u "[Ljava/io/ObjectStreamField;"), (0, .class_ 1104), (0, u "java/lang/String$CaseInsensitiveComparator"), (1, .class_ 1107), (0, u "java/io/Serializable"), (0, .class_ 1109), (0, u "java/lang/Comparable"), (0, .class_ 1111), (0, u "java/lang/constant/Constable"), (0, .class_ 1113), (0, u "java/lang/constant/ConstantDesc"), (2, u "serialVersionUID"), (0, u "J"), (3, u "REPL"), (0, u "C"), (2, u "LATIN1"), (1, u "UTF16")] 323

def k7m0 : Method := { name := "<init>", desc := "()V", sig := { parameters := [], returnType := none }, accessFlags := 1, code := none }
def k7c1 : Code := { maxStack := 4, maxLocals := 1, code := jdk_42_method_139_code, exceptionTable := #[], attributes := #[] }
def k7m1 : Method := { name := "valueOf", desc := "(C)Ljava/lang/String;", sig := { parameters := [.char], returnType := some (.object "java/lang/String") }, accessFlags := 9, code := some k7c1 }
def k7c2 : Code := { maxStack := 2, maxLocals := 3, code := jdk_42_method_151_code, exceptionTable := #[], attributes := #[] }
def k7m2 : Method := { name := "<init>", desc := "([BB)V", sig := { parameters := [(.array .byte), .byte], returnType := none }, accessFlags := 0, code := some k7c2 }
/-- java/lang/String -/
def k7 : Class := { plain "java/lang/String" (some 0) with
  accessFlags := 49
  interfaces := #[2, 3, 4, 5, 6]
  cf := some (fileOf pool7 10 #[.nestMembers #[1103]] #[{ accessFlags := 1, nameIndex := 5, descriptorIndex := 6, attributes := #[] }, { accessFlags := 9, nameIndex := 782, descriptorIndex := 783, attributes := #[] }, { accessFlags := 0, nameIndex := 5, descriptorIndex := 211, attributes := #[] }] 49 2 #[1106, 1108, 575, 1110, 1112] #[{ accessFlags := 18, nameIndex := 13, descriptorIndex := 14, attributes := #[] }, { accessFlags := 18, nameIndex := 17, descriptorIndex := 18, attributes := #[] }, { accessFlags := 2, nameIndex := 21, descriptorIndex := 22, attributes := #[] }, { accessFlags := 2, nameIndex := 25, descriptorIndex := 26, attributes := #[] }, { accessFlags := 26, nameIndex := 1116, descriptorIndex := 1117, attributes := #[] }, { accessFlags := 24, nameIndex := 40, descriptorIndex := 26, attributes := #[] }, { accessFlags := 26, nameIndex := 1101, descriptorIndex := 1102, attributes := #[] }, { accessFlags := 26, nameIndex := 1121, descriptorIndex := 1122, attributes := #[] }, { accessFlags := 25, nameIndex := 599, descriptorIndex := 600, attributes := #[] }, { accessFlags := 24, nameIndex := 1125, descriptorIndex := 18, attributes := #[] }, { accessFlags := 24, nameIndex := 1127, descriptorIndex := 18, attributes := #[] }])
  fields := #[{ name := "value", type := (.array .byte), accessFlags := 18, slot := 0, constantValue := 0 }, { name := "coder", type := .byte, accessFlags := 18, slot := 1, constantValue := 0 }, { name := "hash", type := .int, accessFlags := 2, slot := 2, constantValue := 0 }, { name := "hashIsZero", type := .boolean, accessFlags := 2, slot := 3, constantValue := 0 }, { name := "serialVersionUID", type := .long, accessFlags := 26, slot := 0, constantValue := 0 }, { name := "COMPACT_STRINGS", type := .boolean, accessFlags := 24, slot := 1, constantValue := 0 }, { name := "serialPersistentFields", type := (.array (.object "java/io/ObjectStreamField")), accessFlags := 26, slot := 2, constantValue := 0 }, { name := "REPL", type := .char, accessFlags := 26, slot := 3, constantValue := 0 }, { name := "CASE_INSENSITIVE_ORDER", type := (.object "java/util/Comparator"), accessFlags := 25, slot := 4, constantValue := 0 }, { name := "LATIN1", type := .byte, accessFlags := 24, slot := 5, constantValue := 0 }, { name := "UTF16", type := .byte, accessFlags := 24, slot := 6, constantValue := 0 }]
  methods := #[k7m0, k7m1, k7m2]
  instanceTypes := #[(.array .byte), .byte, .int, .boolean]
  staticTypes := #[.long, .boolean, (.array (.object "java/io/ObjectStreamField")), .char, (.object "java/util/Comparator"), .byte, .byte]
  resolved := Array.replicate 1451 none
  statics := some 0 }

def pool8 : Array CpInfo := pool [(4, .class_ 6), (1, u "java/lang/Object"), (0, u "<init>"), (0, u "()V"), (5, .class_ 16), (1, u "java/lang/StringLatin1"), (73, u "canEncode"), (14, u "(C)Z"), (15, u "$assertionsDisabled"), (0, u "Z"), (98, .class_ 223), (1, u "java/lang/StringLatin1$LinesSpliterator"), (156, u "toBytes"), (1, u "(C)[B"), (7, .class_ 391), (0, u "java/lang/StringLatin1$CharsSpliterator")] 3

def k8m0 : Method := { name := "<init>", desc := "()V", sig := { parameters := [], returnType := none }, accessFlags := 0, code := none }
def k8c1 : Code := { maxStack := 2, maxLocals := 1, code := jdk_43_method_3_code, exceptionTable := #[], attributes := #[] }
def k8m1 : Method := { name := "canEncode", desc := "(C)Z", sig := { parameters := [.char], returnType := some .boolean }, accessFlags := 9, code := some k8c1 }
def k8c2 : Code := { maxStack := 4, maxLocals := 1, code := jdk_43_method_46_code, exceptionTable := #[], attributes := #[] }
def k8m2 : Method := { name := "toBytes", desc := "(C)[B", sig := { parameters := [.char], returnType := some (.array .byte) }, accessFlags := 9, code := some k8c2 }
/-- java/lang/StringLatin1 -/
def k8 : Class := { plain "java/lang/StringLatin1" (some 0) with
  accessFlags := 48
  interfaces := #[]
  cf := some (fileOf pool8 14 #[.nestMembers #[390, 221]] #[{ accessFlags := 0, nameIndex := 7, descriptorIndex := 8, attributes := #[] }, { accessFlags := 9, nameIndex := 90, descriptorIndex := 105, attributes := #[] }, { accessFlags := 9, nameIndex := 380, descriptorIndex := 382, attributes := #[] }] 48 4 #[] #[{ accessFlags := 4120, nameIndex := 121, descriptorIndex := 122, attributes := #[] }])
  fields := #[{ name := "$assertionsDisabled", type := .boolean, accessFlags := 4120, slot := 0, constantValue := 0 }]
  methods := #[k8m0, k8m1, k8m2]
  instanceTypes := #[]
  staticTypes := #[.boolean]
  resolved := Array.replicate 395 none
  statics := none }

def pool9 : Array CpInfo := pool [(1, .methodref 2 3), (0, .class_ 4), (0, .nameAndType 5 6), (0, u "java/lang/Object"), (0, u "<init>"), (0, u "()V"), (0, .fieldref 8 9), (0, .class_ 10), (0, .nameAndType 11 12), (0, u "com/example/reroutine/reroutine/replanning/ExecutedDay"), (0, u "ORDER"), (0, u "[Lcom/example/reroutine/reroutine/scenario/EventType;"), (0, .fieldref 8 14), (0, .nameAndType 15 16), (0, u "times"), (0, u "[I"), (0, .methodref 18 19), (0, .class_ 20), (0, .nameAndType 21 22), (0, u "java/util/Objects"), (0, u "requireNonNull"), (0, u "(Ljava/lang/Object;)Ljava/lang/Object;"), (0, .class_ 24), (0, u "java/lang/String"), (0, .fieldref 8 26), (0, .nameAndType 27 28), (0, u "person"), (0, u "Ljava/lang/String;"), (0, .fieldref 8 30), (0, .nameAndType 31 32), (0, u "size"), (0, u "I"), (0, .methodref 34 35), (0, .class_ 36), (0, .nameAndType 37 38), (0, u "com/example/reroutine/reroutine/scenario/Event"), (0, u "type"), (0, u "()Lcom/example/reroutine/reroutine/scenario/EventType;"), (8, .methodref 34 48), (0, .nameAndType 49 50), (0, u "time"), (0, u "()I"), (12, u "(Ljava/lang/String;)V"), (0, .methodref 65 66), (0, .class_ 67), (0, .nameAndType 68 69), (0, u "java/util/Arrays"), (0, u "copyOf"), (0, u "([II)[I"), (2, u "activitiesReached"), (66, u "add"), (0, u "(Lcom/example/reroutine/reroutine/scenario/Event;)V")] 25

def k9c0 : Code := { maxStack := 2, maxLocals := 2, code := prog_12_method_1_code, exceptionTable := #[], attributes := #[] }
def k9m0 : Method := { name := "<init>", desc := "(Ljava/lang/String;)V", sig := { parameters := [(.object "java/lang/String")], returnType := none }, accessFlags := 0, code := some k9c0 }
def k9c1 : Code := { maxStack := 6, maxLocals := 3, code := prog_12_method_2_code, exceptionTable := #[], attributes := #[] }
def k9m1 : Method := { name := "add", desc := "(Lcom/example/reroutine/reroutine/scenario/Event;)V", sig := { parameters := [(.object "com/example/reroutine/reroutine/scenario/Event")], returnType := none }, accessFlags := 0, code := some k9c1 }
def k9c2 : Code := { maxStack := 3, maxLocals := 1, code := prog_12_method_3_code, exceptionTable := #[], attributes := #[] }
def k9m2 : Method := { name := "activitiesReached", desc := "()I", sig := { parameters := [], returnType := some .int }, accessFlags := 1, code := some k9c2 }
/-- com/example/reroutine/reroutine/replanning/ExecutedDay -/
def k9 : Class := { plain "com/example/reroutine/reroutine/replanning/ExecutedDay" (some 0) with
  accessFlags := 49
  interfaces := #[]
  cf := some (fileOf pool9 8 #[] #[{ accessFlags := 0, nameIndex := 5, descriptorIndex := 63, attributes := #[] }, { accessFlags := 0, nameIndex := 139, descriptorIndex := 140, attributes := #[] }, { accessFlags := 1, nameIndex := 72, descriptorIndex := 50, attributes := #[] }] 49 2 #[] #[{ accessFlags := 26, nameIndex := 11, descriptorIndex := 12, attributes := #[] }, { accessFlags := 18, nameIndex := 27, descriptorIndex := 28, attributes := #[] }, { accessFlags := 2, nameIndex := 15, descriptorIndex := 16, attributes := #[] }, { accessFlags := 2, nameIndex := 31, descriptorIndex := 32, attributes := #[] }])
  fields := #[{ name := "ORDER", type := (.array (.object "com/example/reroutine/reroutine/scenario/EventType")), accessFlags := 26, slot := 0, constantValue := 0 }, { name := "person", type := (.object "java/lang/String"), accessFlags := 18, slot := 0, constantValue := 0 }, { name := "times", type := (.array .int), accessFlags := 2, slot := 1, constantValue := 0 }, { name := "size", type := .int, accessFlags := 2, slot := 2, constantValue := 0 }]
  methods := #[k9m0, k9m1, k9m2]
  instanceTypes := #[(.object "java/lang/String"), (.array .int), .int]
  staticTypes := #[(.array (.object "com/example/reroutine/reroutine/scenario/EventType"))]
  resolved := Array.replicate 166 none
  statics := some 1 }

def pool10 : Array CpInfo := pool [(2, .class_ 4), (1, u "java/lang/Object"), (0, u "<init>"), (0, u "()V"), (35, .class_ 44), (1, u "java/util/Objects"), (0, u "requireNonNull"), (0, u "(Ljava/lang/Object;)Ljava/lang/Object;")] 137

def k10m0 : Method := { name := "<init>", desc := "()V", sig := { parameters := [], returnType := none }, accessFlags := 2, code := none }
def k10c1 : Code := { maxStack := 2, maxLocals := 1, code := jdk_31_method_10_code, exceptionTable := #[], attributes := #[] }
def k10m1 : Method := { name := "requireNonNull", desc := "(Ljava/lang/Object;)Ljava/lang/Object;", sig := { parameters := [(.object "java/lang/Object")], returnType := some (.object "java/lang/Object") }, accessFlags := 9, code := some k10c1 }
/-- java/util/Objects -/
def k10 : Class := { plain "java/util/Objects" (some 0) with
  accessFlags := 49
  interfaces := #[]
  cf := some (fileOf pool10 42 #[] #[{ accessFlags := 2, nameIndex := 5, descriptorIndex := 6, attributes := #[] }, { accessFlags := 9, nameIndex := 45, descriptorIndex := 46, attributes := #[] }] 49 2 #[] #[])
  fields := #[]
  methods := #[k10m0, k10m1]
  instanceTypes := #[]
  staticTypes := #[]
  resolved := Array.replicate 184 none
  statics := none }

def pool11 : Array CpInfo := pool [(1, .methodref 2 3), (0, .class_ 4), (0, .nameAndType 5 6), (0, u "java/lang/Object"), (0, u "<init>"), (0, u "()V"), (0, .class_ 8), (0, u "java/lang/Record")] 13

def k11c0 : Code := { maxStack := 1, maxLocals := 1, code := jdk_30_method_1_code, exceptionTable := #[], attributes := #[] }
def k11m0 : Method := { name := "<init>", desc := "()V", sig := { parameters := [], returnType := none }, accessFlags := 4, code := some k11c0 }
/-- java/lang/Record -/
def k11 : Class := { plain "java/lang/Record" (some 0) with
  accessFlags := 1057
  interfaces := #[]
  cf := some (fileOf pool11 7 #[] #[{ accessFlags := 4, nameIndex := 5, descriptorIndex := 6, attributes := #[] }] 1057 2 #[] #[])
  fields := #[]
  methods := #[k11m0]
  instanceTypes := #[]
  staticTypes := #[]
  resolved := Array.replicate 22 none
  statics := none }

def pool12 : Array CpInfo := pool [(1, .methodref 2 3), (0, .class_ 4), (0, .nameAndType 5 6), (0, u "java/lang/Record"), (0, u "<init>"), (0, u "()V"), (0, .methodref 8 9), (0, .class_ 10), (0, .nameAndType 11 12), (0, u "java/util/Objects"), (0, u "requireNonNull"), (0, u "(Ljava/lang/Object;)Ljava/lang/Object;"), (9, .methodref 23 24), (0, .class_ 25), (0, .nameAndType 26 27), (0, u "com/example/reroutine/reroutine/scenario/EventType"), (0, u "detailAttribute"), (0, u "()Ljava/lang/String;"), (13, .fieldref 42 43), (0, .class_ 44), (0, .nameAndType 45 46), (0, u "com/example/reroutine/reroutine/scenario/Event"), (0, u "time"), (0, u "I"), (0, .fieldref 42 48), (0, .nameAndType 49 50), (0, u "type"), (0, u "Lcom/example/reroutine/reroutine/scenario/EventType;"), (0, .fieldref 42 52), (0, .nameAndType 53 54), (0, u "agent"), (0, u "Ljava/lang/String;"), (0, .fieldref 42 56), (0, .nameAndType 57 54), (0, u "link"), (0, .fieldref 42 59), (0, .nameAndType 60 54), (0, u "detail"), (0, .fieldref 23 62), (0, .nameAndType 63 50), (0, u "ACT_END"), (0, .methodref 42 65), (0, .nameAndType 5 66), (0, u "(ILcom/example/reroutine/reroutine/scenario/EventType;Ljava/lang/String;Ljava/lang/String;Ljava/lang/String;)V"), (0, .fieldref 23 68), (0, .nameAndType 69 50), (0, u "DEPARTURE"), (6, .fieldref 23 77), (0, .nameAndType 78 50), (0, u "ARRIVAL"), (0, .fieldref 23 80), (0, .nameAndType 81 50), (0, u "ACT_START"), (16, u "actEnd"), (0, u "(ILjava/lang/String;Ljava/lang/String;Ljava/lang/String;)Lcom/example/reroutine/reroutine/scenario/Event;"), (0, u "departure"), (3, u "arrival"), (0, u "actStart"), (0, u "()I"), (1, u "()Lcom/example/reroutine/reroutine/scenario/EventType;")] 34

def k12c0 : Code := { maxStack := 4, maxLocals := 6, code := prog_33_method_1_code, exceptionTable := #[], attributes := #[] }
def k12m0 : Method := { name := "<init>", desc := "(ILcom/example/reroutine/reroutine/scenario/EventType;Ljava/lang/String;Ljava/lang/String;Ljava/lang/String;)V", sig := { parameters := [.int, (.object "com/example/reroutine/reroutine/scenario/EventType"), (.object "java/lang/String"), (.object "java/lang/String"), (.object "java/lang/String")], returnType := none }, accessFlags := 1, code := some k12c0 }
def k12c1 : Code := { maxStack := 7, maxLocals := 4, code := prog_33_method_2_code, exceptionTable := #[], attributes := #[] }
def k12m1 : Method := { name := "actEnd", desc := "(ILjava/lang/String;Ljava/lang/String;Ljava/lang/String;)Lcom/example/reroutine/reroutine/scenario/Event;", sig := { parameters := [.int, (.object "java/lang/String"), (.object "java/lang/String"), (.object "java/lang/String")], returnType := some (.object "com/example/reroutine/reroutine/scenario/Event") }, accessFlags := 9, code := some k12c1 }
def k12c2 : Code := { maxStack := 7, maxLocals := 4, code := prog_33_method_3_code, exceptionTable := #[], attributes := #[] }
def k12m2 : Method := { name := "departure", desc := "(ILjava/lang/String;Ljava/lang/String;Ljava/lang/String;)Lcom/example/reroutine/reroutine/scenario/Event;", sig := { parameters := [.int, (.object "java/lang/String"), (.object "java/lang/String"), (.object "java/lang/String")], returnType := some (.object "com/example/reroutine/reroutine/scenario/Event") }, accessFlags := 9, code := some k12c2 }
def k12c3 : Code := { maxStack := 7, maxLocals := 4, code := prog_33_method_6_code, exceptionTable := #[], attributes := #[] }
def k12m3 : Method := { name := "arrival", desc := "(ILjava/lang/String;Ljava/lang/String;Ljava/lang/String;)Lcom/example/reroutine/reroutine/scenario/Event;", sig := { parameters := [.int, (.object "java/lang/String"), (.object "java/lang/String"), (.object "java/lang/String")], returnType := some (.object "com/example/reroutine/reroutine/scenario/Event") }, accessFlags := 9, code := some k12c3 }
def k12c4 : Code := { maxStack := 7, maxLocals := 4, code := prog_33_method_7_code, exceptionTable := #[], attributes := #[] }
def k12m4 : Method := { name := "actStart", desc := "(ILjava/lang/String;Ljava/lang/String;Ljava/lang/String;)Lcom/example/reroutine/reroutine/scenario/Event;", sig := { parameters := [.int, (.object "java/lang/String"), (.object "java/lang/String"), (.object "java/lang/String")], returnType := some (.object "com/example/reroutine/reroutine/scenario/Event") }, accessFlags := 9, code := some k12c4 }
def k12c5 : Code := { maxStack := 1, maxLocals := 1, code := prog_33_method_11_code, exceptionTable := #[], attributes := #[] }
def k12m5 : Method := { name := "time", desc := "()I", sig := { parameters := [], returnType := some .int }, accessFlags := 1, code := some k12c5 }
def k12c6 : Code := { maxStack := 1, maxLocals := 1, code := prog_33_method_12_code, exceptionTable := #[], attributes := #[] }
def k12m6 : Method := { name := "type", desc := "()Lcom/example/reroutine/reroutine/scenario/EventType;", sig := { parameters := [], returnType := some (.object "com/example/reroutine/reroutine/scenario/EventType") }, accessFlags := 1, code := some k12c6 }
/-- com/example/reroutine/reroutine/scenario/Event -/
def k12 : Class := { plain "com/example/reroutine/reroutine/scenario/Event" (some 11) with
  accessFlags := 49
  interfaces := #[]
  cf := some (fileOf pool12 42 #[] #[{ accessFlags := 1, nameIndex := 5, descriptorIndex := 66, attributes := #[] }, { accessFlags := 9, nameIndex := 98, descriptorIndex := 99, attributes := #[] }, { accessFlags := 9, nameIndex := 100, descriptorIndex := 99, attributes := #[] }, { accessFlags := 9, nameIndex := 104, descriptorIndex := 99, attributes := #[] }, { accessFlags := 9, nameIndex := 105, descriptorIndex := 99, attributes := #[] }, { accessFlags := 1, nameIndex := 45, descriptorIndex := 106, attributes := #[] }, { accessFlags := 1, nameIndex := 49, descriptorIndex := 108, attributes := #[] }] 49 2 #[] #[{ accessFlags := 18, nameIndex := 45, descriptorIndex := 46, attributes := #[] }, { accessFlags := 18, nameIndex := 49, descriptorIndex := 50, attributes := #[] }, { accessFlags := 18, nameIndex := 53, descriptorIndex := 54, attributes := #[] }, { accessFlags := 18, nameIndex := 57, descriptorIndex := 54, attributes := #[] }, { accessFlags := 18, nameIndex := 60, descriptorIndex := 54, attributes := #[] }])
  fields := #[{ name := "time", type := .int, accessFlags := 18, slot := 0, constantValue := 0 }, { name := "type", type := (.object "com/example/reroutine/reroutine/scenario/EventType"), accessFlags := 18, slot := 1, constantValue := 0 }, { name := "agent", type := (.object "java/lang/String"), accessFlags := 18, slot := 2, constantValue := 0 }, { name := "link", type := (.object "java/lang/String"), accessFlags := 18, slot := 3, constantValue := 0 }, { name := "detail", type := (.object "java/lang/String"), accessFlags := 18, slot := 4, constantValue := 0 }]
  methods := #[k12m0, k12m1, k12m2, k12m3, k12m4, k12m5, k12m6]
  instanceTypes := #[.int, (.object "com/example/reroutine/reroutine/scenario/EventType"), (.object "java/lang/String"), (.object "java/lang/String"), (.object "java/lang/String")]
  staticTypes := #[]
  resolved := Array.replicate 143 none
  statics := none }

def pool13 : Array CpInfo := pool [(2, .class_ 4), (1, u "java/lang/Enum"), (0, u "name"), (0, u "Ljava/lang/String;"), (2, u "ordinal"), (0, u "I"), (1, .class_ 14), (1, u "java/lang/Object"), (4, u "hash"), (86, .class_ 108), (1, u "java/lang/Enum$EnumDesc"), (2, .class_ 112), (0, u "java/lang/constant/Constable"), (0, .class_ 114), (0, u "java/lang/Comparable"), (0, .class_ 116), (0, u "java/io/Serializable")] 87

/-- java/lang/Enum -/
def k13 : Class := { plain "java/lang/Enum" (some 0) with
  accessFlags := 1057
  interfaces := #[5, 3, 2]
  cf := some (fileOf pool13 2 #[.nestMembers #[106]] #[] 1057 12 #[111, 113, 115] #[{ accessFlags := 18, nameIndex := 5, descriptorIndex := 6, attributes := #[] }, { accessFlags := 18, nameIndex := 9, descriptorIndex := 10, attributes := #[] }, { accessFlags := 2, nameIndex := 19, descriptorIndex := 10, attributes := #[] }])
  fields := #[{ name := "name", type := (.object "java/lang/String"), accessFlags := 18, slot := 0, constantValue := 0 }, { name := "ordinal", type := .int, accessFlags := 18, slot := 1, constantValue := 0 }, { name := "hash", type := .int, accessFlags := 2, slot := 2, constantValue := 0 }]
  methods := #[]
  instanceTypes := #[(.object "java/lang/String"), .int, .int]
  staticTypes := #[]
  resolved := Array.replicate 204 none
  statics := none }

def pool14 : Array CpInfo := pool [(1, .class_ 2), (0, u "com/example/reroutine/reroutine/scenario/EventType"), (2, u "ACT_END"), (0, u "Lcom/example/reroutine/reroutine/scenario/EventType;"), (2, u "DEPARTURE"), (2, u "LEFT_LINK"), (2, u "ENTERED_LINK"), (2, u "ARRIVAL"), (2, u "ACT_START"), (2, u "$VALUES"), (0, u "[Lcom/example/reroutine/reroutine/scenario/EventType;"), (6, .class_ 34), (1, u "java/lang/Enum"), (8, u "xmlName"), (0, u "Ljava/lang/String;"), (2, u "agentAttribute"), (0, .fieldref 1 49), (0, .nameAndType 50 44), (0, u "detailAttribute"), (2, u "BY_XML_NAME"), (0, u "Ljava/util/Map;"), (63, u "()Ljava/lang/String;")] 6

def k14c0 : Code := { maxStack := 1, maxLocals := 1, code := prog_34_method_7_code, exceptionTable := #[], attributes := #[] }
def k14m0 : Method := { name := "detailAttribute", desc := "()Ljava/lang/String;", sig := { parameters := [], returnType := some (.object "java/lang/String") }, accessFlags := 1, code := some k14c0 }
/-- com/example/reroutine/reroutine/scenario/EventType -/
def k14 : Class := { plain "com/example/reroutine/reroutine/scenario/EventType" (some 13) with
  accessFlags := 16433
  interfaces := #[]
  cf := some (fileOf pool14 1 #[] #[{ accessFlags := 1, nameIndex := 50, descriptorIndex := 118, attributes := #[] }] 16433 32 #[] #[{ accessFlags := 16409, nameIndex := 5, descriptorIndex := 6, attributes := #[] }, { accessFlags := 16409, nameIndex := 9, descriptorIndex := 6, attributes := #[] }, { accessFlags := 16409, nameIndex := 12, descriptorIndex := 6, attributes := #[] }, { accessFlags := 16409, nameIndex := 15, descriptorIndex := 6, attributes := #[] }, { accessFlags := 16409, nameIndex := 18, descriptorIndex := 6, attributes := #[] }, { accessFlags := 16409, nameIndex := 21, descriptorIndex := 6, attributes := #[] }, { accessFlags := 26, nameIndex := 53, descriptorIndex := 54, attributes := #[] }, { accessFlags := 18, nameIndex := 43, descriptorIndex := 44, attributes := #[] }, { accessFlags := 18, nameIndex := 47, descriptorIndex := 44, attributes := #[] }, { accessFlags := 18, nameIndex := 50, descriptorIndex := 44, attributes := #[] }, { accessFlags := 4122, nameIndex := 24, descriptorIndex := 25, attributes := #[] }])
  fields := #[{ name := "ACT_END", type := (.object "com/example/reroutine/reroutine/scenario/EventType"), accessFlags := 16409, slot := 0, constantValue := 0 }, { name := "DEPARTURE", type := (.object "com/example/reroutine/reroutine/scenario/EventType"), accessFlags := 16409, slot := 1, constantValue := 0 }, { name := "LEFT_LINK", type := (.object "com/example/reroutine/reroutine/scenario/EventType"), accessFlags := 16409, slot := 2, constantValue := 0 }, { name := "ENTERED_LINK", type := (.object "com/example/reroutine/reroutine/scenario/EventType"), accessFlags := 16409, slot := 3, constantValue := 0 }, { name := "ARRIVAL", type := (.object "com/example/reroutine/reroutine/scenario/EventType"), accessFlags := 16409, slot := 4, constantValue := 0 }, { name := "ACT_START", type := (.object "com/example/reroutine/reroutine/scenario/EventType"), accessFlags := 16409, slot := 5, constantValue := 0 }, { name := "BY_XML_NAME", type := (.object "java/util/Map"), accessFlags := 26, slot := 6, constantValue := 0 }, { name := "xmlName", type := (.object "java/lang/String"), accessFlags := 18, slot := 3, constantValue := 0 }, { name := "agentAttribute", type := (.object "java/lang/String"), accessFlags := 18, slot := 4, constantValue := 0 }, { name := "detailAttribute", type := (.object "java/lang/String"), accessFlags := 18, slot := 5, constantValue := 0 }, { name := "$VALUES", type := (.array (.object "com/example/reroutine/reroutine/scenario/EventType")), accessFlags := 4122, slot := 7, constantValue := 0 }]
  methods := #[k14m0]
  instanceTypes := #[(.object "java/lang/String"), .int, .int, (.object "java/lang/String"), (.object "java/lang/String"), (.object "java/lang/String")]
  staticTypes := #[(.object "com/example/reroutine/reroutine/scenario/EventType"), (.object "com/example/reroutine/reroutine/scenario/EventType"), (.object "com/example/reroutine/reroutine/scenario/EventType"), (.object "com/example/reroutine/reroutine/scenario/EventType"), (.object "com/example/reroutine/reroutine/scenario/EventType"), (.object "com/example/reroutine/reroutine/scenario/EventType"), (.object "java/util/Map"), (.array (.object "com/example/reroutine/reroutine/scenario/EventType"))]
  resolved := Array.replicate 125 none
  statics := some 2 }

def pool15 : Array CpInfo := pool [(2, .class_ 4), (1, u "java/lang/Object"), (0, u "<init>"), (0, u "()V"), (7, .class_ 16), (1, u "java/util/Arrays"), (57, .class_ 76), (1, u "java/util/Arrays$NaturalOrder"), (36, .class_ 115), (1, u "java/util/Arrays$LegacyMergeSort"), (1, u "Z"), (32, .methodref 151 152), (0, .class_ 153), (0, .nameAndType 154 155), (0, u "java/lang/System"), (0, u "arraycopy"), (0, u "(Ljava/lang/Object;ILjava/lang/Object;II)V"), (146, u "copyOf"), (1, .methodref 305 306), (0, .class_ 307), (0, .nameAndType 308 309), (0, u "java/lang/Math"), (0, u "min"), (0, u "(II)I"), (65, .class_ 376), (0, u "java/util/Arrays$ArrayList"), (68, u "$assertionsDisabled"), (269, u "MIN_ARRAY_SORT_GRAN"), (0, u "I"), (2, u "INSERTIONSORT_THRESHOLD"), (151, u "([II)[I"), (103, .class_ 976), (0, u "java/util/Arrays$ArrayItr")] 52

def k15m0 : Method := { name := "<init>", desc := "()V", sig := { parameters := [], returnType := none }, accessFlags := 2, code := none }
def k15c1 : Code := { maxStack := 6, maxLocals := 3, code := jdk_65_method_123_code, exceptionTable := #[], attributes := #[] }
def k15m1 : Method := { name := "copyOf", desc := "([II)[I", sig := { parameters := [(.array .int), .int], returnType := some (.array .int) }, accessFlags := 9, code := some k15c1 }
/-- java/util/Arrays -/
def k15 : Class := { plain "java/util/Arrays" (some 0) with
  accessFlags := 49
  interfaces := #[]
  cf := some (fileOf pool15 14 #[.nestMembers #[975, 375, 113, 74]] #[{ accessFlags := 2, nameIndex := 5, descriptorIndex := 6, attributes := #[] }, { accessFlags := 9, nameIndex := 302, descriptorIndex := 871, attributes := #[] }] 49 2 #[] #[{ accessFlags := 26, nameIndex := 715, descriptorIndex := 716, attributes := #[] }, { accessFlags := 26, nameIndex := 719, descriptorIndex := 716, attributes := #[] }, { accessFlags := 4120, nameIndex := 445, descriptorIndex := 117, attributes := #[] }])
  fields := #[{ name := "MIN_ARRAY_SORT_GRAN", type := .int, accessFlags := 26, slot := 0, constantValue := 0 }, { name := "INSERTIONSORT_THRESHOLD", type := .int, accessFlags := 26, slot := 1, constantValue := 0 }, { name := "$assertionsDisabled", type := .boolean, accessFlags := 4120, slot := 2, constantValue := 0 }]
  methods := #[k15m0, k15m1]
  instanceTypes := #[]
  staticTypes := #[.int, .int, .boolean]
  resolved := Array.replicate 1029 none
  statics := none }

def pool16 : Array CpInfo := pool [(1, .class_ 2), (0, u "java/lang/Math"), (1, .class_ 6), (1, u "java/lang/Object"), (0, u "<init>"), (0, u "()V"), (89, .class_ 100), (1, u "java/lang/Math$RandomNumberGeneratorHolder"), (71, u "negativeZeroFloatBits"), (0, u "J"), (2, u "negativeZeroDoubleBits"), (24, u "min"), (43, u "$assertionsDisabled"), (0, u "Z"), (88, u "(II)I"), (2, u "twoToTheDoubleScaleDown"), (0, u "D"), (4, u "twoToTheDoubleScaleUp"), (9, u "E"), (3, u "PI"), (2, u "TAU"), (2, u "DEGREES_TO_RADIANS"), (0, u "RADIANS_TO_DEGREES")] 94

def k16m0 : Method := { name := "<init>", desc := "()V", sig := { parameters := [], returnType := none }, accessFlags := 2, code := none }
def k16c1 : Code := { maxStack := 2, maxLocals := 2, code := jdk_29_method_69_code, exceptionTable := #[], attributes := #[] }
def k16m1 : Method := { name := "min", desc := "(II)I", sig := { parameters := [.int, .int], returnType := some .int }, accessFlags := 9, code := some k16c1 }
/-- java/lang/Math -/
def k16 : Class := { plain "java/lang/Math" (some 0) with
  accessFlags := 49
  interfaces := #[]
  cf := some (fileOf pool16 1 #[.nestMembers #[98]] #[{ accessFlags := 2, nameIndex := 7, descriptorIndex := 8, attributes := #[] }, { accessFlags := 9, nameIndex := 201, descriptorIndex := 335, attributes := #[] }] 49 4 #[] #[{ accessFlags := 25, nameIndex := 354, descriptorIndex := 339, attributes := #[] }, { accessFlags := 25, nameIndex := 358, descriptorIndex := 339, attributes := #[] }, { accessFlags := 25, nameIndex := 361, descriptorIndex := 339, attributes := #[] }, { accessFlags := 26, nameIndex := 364, descriptorIndex := 339, attributes := #[] }, { accessFlags := 26, nameIndex := 365, descriptorIndex := 339, attributes := #[] }, { accessFlags := 26, nameIndex := 172, descriptorIndex := 173, attributes := #[] }, { accessFlags := 26, nameIndex := 176, descriptorIndex := 173, attributes := #[] }, { accessFlags := 8, nameIndex := 344, descriptorIndex := 339, attributes := #[] }, { accessFlags := 8, nameIndex := 338, descriptorIndex := 339, attributes := #[] }, { accessFlags := 4120, nameIndex := 245, descriptorIndex := 246, attributes := #[] }])
  fields := #[{ name := "E", type := .double, accessFlags := 25, slot := 0, constantValue := 0 }, { name := "PI", type := .double, accessFlags := 25, slot := 1, constantValue := 0 }, { name := "TAU", type := .double, accessFlags := 25, slot := 2, constantValue := 0 }, { name := "DEGREES_TO_RADIANS", type := .double, accessFlags := 26, slot := 3, constantValue := 0 }, { name := "RADIANS_TO_DEGREES", type := .double, accessFlags := 26, slot := 4, constantValue := 0 }, { name := "negativeZeroFloatBits", type := .long, accessFlags := 26, slot := 5, constantValue := 0 }, { name := "negativeZeroDoubleBits", type := .long, accessFlags := 26, slot := 6, constantValue := 0 }, { name := "twoToTheDoubleScaleUp", type := .double, accessFlags := 8, slot := 7, constantValue := 0 }, { name := "twoToTheDoubleScaleDown", type := .double, accessFlags := 8, slot := 8, constantValue := 0 }, { name := "$assertionsDisabled", type := .boolean, accessFlags := 4120, slot := 9, constantValue := 0 }]
  methods := #[k16m0, k16m1]
  instanceTypes := #[]
  staticTypes := #[.double, .double, .double, .double, .double, .long, .long, .double, .double, .boolean]
  resolved := Array.replicate 460 none
  statics := none }

def pool17 : Array CpInfo := pool [(2, .class_ 4), (1, u "java/lang/Object"), (0, u "<init>"), (0, u "()V"), (1, .class_ 10), (1, u "java/lang/System"), (0, u "allowSecurityManager"), (0, u "I"), (16, u "cons"), (0, u "Ljava/io/Console;"), (77, .class_ 110), (1, u "java/lang/System$CallersHolder"), (43, u "initialErrStream"), (0, u "Ljava/io/PrintStream;"), (19, u "security"), (0, u "Ljava/lang/SecurityManager;"), (31, .class_ 209), (0, u "java/lang/System$1"), (7, u "props"), (0, u "Ljava/util/Properties;"), (2, u "lineSeparator"), (0, u "Ljava/lang/String;"), (96, .class_ 321), (1, u "java/lang/System$LoggerFinder"), (5, .class_ 328), (0, u "java/lang/System$Logger"), (67, u "err"), (2, u "out"), (91, u "notSupportedJnuEncoding"), (15, u "in"), (17, u "initialIn"), (0, u "Ljava/io/InputStream;"), (35, u "bootLayer"), (0, u "Ljava/lang/ModuleLayer;"), (99, .class_ 664), (0, u "java/lang/System$2"), (9, u "NEVER"), (2, u "MAYBE"), (49, u "arraycopy"), (0, u "(Ljava/lang/Object;ILjava/lang/Object;II)V"), (72, .class_ 802), (0, u "java/lang/System$Logger$Level")] 31

def k17m0 : Method := { name := "<init>", desc := "()V", sig := { parameters := [], returnType := none }, accessFlags := 2, code := none }
def k17m1 : Method := { name := "arraycopy", desc := "(Ljava/lang/Object;ILjava/lang/Object;II)V", sig := { parameters := [(.object "java/lang/Object"), .int, (.object "java/lang/Object"), .int, .int], returnType := none }, accessFlags := 265, code := none }
/-- java/lang/System -/
def k17 : Class := { plain "java/lang/System" (some 0) with
  accessFlags := 49
  interfaces := #[]
  cf := some (fileOf pool17 8 #[.nestMembers #[319, 327, 801, 108, 663, 208]] #[{ accessFlags := 2, nameIndex := 5, descriptorIndex := 6, attributes := #[] }, { accessFlags := 265, nameIndex := 727, descriptorIndex := 728, attributes := #[] }] 49 2 #[] #[{ accessFlags := 25, nameIndex := 507, descriptorIndex := 526, attributes := #[] }, { accessFlags := 25, nameIndex := 399, descriptorIndex := 155, attributes := #[] }, { accessFlags := 25, nameIndex := 396, descriptorIndex := 155, attributes := #[] }, { accessFlags := 10, nameIndex := 525, descriptorIndex := 526, attributes := #[] }, { accessFlags := 26, nameIndex := 674, descriptorIndex := 12, attributes := #[] }, { accessFlags := 26, nameIndex := 677, descriptorIndex := 12, attributes := #[] }, { accessFlags := 10, nameIndex := 11, descriptorIndex := 12, attributes := #[] }, { accessFlags := 74, nameIndex := 175, descriptorIndex := 176, attributes := #[] }, { accessFlags := 10, nameIndex := 491, descriptorIndex := 222, attributes := #[] }, { accessFlags := 74, nameIndex := 29, descriptorIndex := 30, attributes := #[] }, { accessFlags := 74, nameIndex := 154, descriptorIndex := 155, attributes := #[] }, { accessFlags := 10, nameIndex := 217, descriptorIndex := 218, attributes := #[] }, { accessFlags := 10, nameIndex := 221, descriptorIndex := 222, attributes := #[] }, { accessFlags := 8, nameIndex := 562, descriptorIndex := 563, attributes := #[] }])
  fields := #[{ name := "in", type := (.object "java/io/InputStream"), accessFlags := 25, slot := 0, constantValue := 0 }, { name := "out", type := (.object "java/io/PrintStream"), accessFlags := 25, slot := 1, constantValue := 0 }, { name := "err", type := (.object "java/io/PrintStream"), accessFlags := 25, slot := 2, constantValue := 0 }, { name := "initialIn", type := (.object "java/io/InputStream"), accessFlags := 10, slot := 3, constantValue := 0 }, { name := "NEVER", type := .int, accessFlags := 26, slot := 4, constantValue := 0 }, { name := "MAYBE", type := .int, accessFlags := 26, slot := 5, constantValue := 0 }, { name := "allowSecurityManager", type := .int, accessFlags := 10, slot := 6, constantValue := 0 }, { name := "security", type := (.object "java/lang/SecurityManager"), accessFlags := 74, slot := 7, constantValue := 0 }, { name := "notSupportedJnuEncoding", type := (.object "java/lang/String"), accessFlags := 10, slot := 8, constantValue := 0 }, { name := "cons", type := (.object "java/io/Console"), accessFlags := 74, slot := 9, constantValue := 0 }, { name := "initialErrStream", type := (.object "java/io/PrintStream"), accessFlags := 74, slot := 10, constantValue := 0 }, { name := "props", type := (.object "java/util/Properties"), accessFlags := 10, slot := 11, constantValue := 0 }, { name := "lineSeparator", type := (.object "java/lang/String"), accessFlags := 10, slot := 12, constantValue := 0 }, { name := "bootLayer", type := (.object "java/lang/ModuleLayer"), accessFlags := 8, slot := 13, constantValue := 0 }]
  methods := #[k17m0, k17m1]
  instanceTypes := #[]
  staticTypes := #[(.object "java/io/InputStream"), (.object "java/io/PrintStream"), (.object "java/io/PrintStream"), (.object "java/io/InputStream"), .int, .int, .int, (.object "java/lang/SecurityManager"), (.object "java/lang/String"), (.object "java/io/Console"), (.object "java/io/PrintStream"), (.object "java/util/Properties"), (.object "java/lang/String"), (.object "java/lang/ModuleLayer")]
  resolved := Array.replicate 834 none
  statics := none }

def pool18 : Array CpInfo := pool [(2, .class_ 4), (1, u "java/lang/Object"), (0, u "<init>"), (0, u "()V"), (17, .class_ 26), (1, u "jdk/internal/util/Preconditions"), (28, .class_ 56), (0, u "jdk/internal/util/Preconditions$4"), (57, .class_ 115), (0, u "jdk/internal/util/Preconditions$1"), (7, u "SIOOBE_FORMATTER"), (0, u "Ljava/util/function/BiFunction;"), (0, .class_ 126), (0, u "jdk/internal/util/Preconditions$2"), (3, u "AIOOBE_FORMATTER"), (0, .class_ 132), (0, u "jdk/internal/util/Preconditions$3"), (3, u "IOOBE_FORMATTER")] 57

def k18m0 : Method := { name := "<init>", desc := "()V", sig := { parameters := [], returnType := none }, accessFlags := 1, code := none }
/-- jdk/internal/util/Preconditions -/
def k18 : Class := { plain "jdk/internal/util/Preconditions" (some 0) with
  accessFlags := 33
  interfaces := #[]
  cf := some (fileOf pool18 24 #[.nestMembers #[55, 131, 125, 114]] #[{ accessFlags := 1, nameIndex := 5, descriptorIndex := 6, attributes := #[] }] 33 2 #[] #[{ accessFlags := 25, nameIndex := 123, descriptorIndex := 124, attributes := #[] }, { accessFlags := 25, nameIndex := 130, descriptorIndex := 124, attributes := #[] }, { accessFlags := 25, nameIndex := 136, descriptorIndex := 124, attributes := #[] }])
  fields := #[{ name := "SIOOBE_FORMATTER", type := (.object "java/util/function/BiFunction"), accessFlags := 25, slot := 0, constantValue := 0 }, { name := "AIOOBE_FORMATTER", type := (.object "java/util/function/BiFunction"), accessFlags := 25, slot := 1, constantValue := 0 }, { name := "IOOBE_FORMATTER", type := (.object "java/util/function/BiFunction"), accessFlags := 25, slot := 2, constantValue := 0 }]
  methods := #[k18m0]
  instanceTypes := #[]
  staticTypes := #[(.object "java/util/function/BiFunction"), (.object "java/util/function/BiFunction"), (.object "java/util/function/BiFunction")]
  resolved := Array.replicate 194 none
  statics := some 3 }

def pool19 : Array CpInfo := pool [(9, u "<init>"), (6, .class_ 18), (1, u "java/lang/Object"), (0, u "()V"), (1, .class_ 23), (1, u "jdk/internal/util/ArraysSupport"), (0, u "LOG2_ARRAY_LONG_INDEX_SCALE"), (0, u "I"), (2, u "U"), (0, u "Ljdk/internal/misc/Unsafe;"), (8, u "BIG_ENDIAN"), (0, u "Z"), (8, u "LOG2_BYTE_BIT_SIZE"), (4, u "LOG2_ARRAY_INT_INDEX_SCALE"), (54, u "JLA"), (0, u "Ljdk/internal/access/JavaLangAccess;"), (11, u "LOG2_ARRAY_BOOLEAN_INDEX_SCALE"), (9, u "LOG2_ARRAY_BYTE_INDEX_SCALE"), (5, u "LOG2_ARRAY_CHAR_INDEX_SCALE"), (5, u "LOG2_ARRAY_SHORT_INDEX_SCALE"), (18, u "LOG2_ARRAY_FLOAT_INDEX_SCALE"), (24, u "LOG2_ARRAY_DOUBLE_INDEX_SCALE"), (89, u "T_BOOLEAN"), (2, u "T_CHAR"), (1, u "T_FLOAT"), (1, u "T_DOUBLE"), (1, u "T_BYTE"), (1, u "T_SHORT"), (1, u "T_INT"), (1, u "T_LONG"), (1, u "SOFT_MAX_ARRAY_LENGTH")] 83

def k19m0 : Method := { name := "<init>", desc := "()V", sig := { parameters := [], returnType := none }, accessFlags := 2, code := none }
/-- jdk/internal/util/ArraysSupport -/
def k19 : Class := { plain "jdk/internal/util/ArraysSupport" (some 0) with
  accessFlags := 33
  interfaces := #[]
  cf := some (fileOf pool19 21 #[] #[{ accessFlags := 2, nameIndex := 9, descriptorIndex := 19, attributes := #[] }] 33 16 #[] #[{ accessFlags := 24, nameIndex := 28, descriptorIndex := 29, attributes := #[] }, { accessFlags := 26, nameIndex := 38, descriptorIndex := 39, attributes := #[] }, { accessFlags := 25, nameIndex := 121, descriptorIndex := 25, attributes := #[] }, { accessFlags := 25, nameIndex := 131, descriptorIndex := 25, attributes := #[] }, { accessFlags := 25, nameIndex := 137, descriptorIndex := 25, attributes := #[] }, { accessFlags := 25, nameIndex := 143, descriptorIndex := 25, attributes := #[] }, { accessFlags := 25, nameIndex := 53, descriptorIndex := 25, attributes := #[] }, { accessFlags := 25, nameIndex := 24, descriptorIndex := 25, attributes := #[] }, { accessFlags := 25, nameIndex := 162, descriptorIndex := 25, attributes := #[] }, { accessFlags := 25, nameIndex := 187, descriptorIndex := 25, attributes := #[] }, { accessFlags := 26, nameIndex := 48, descriptorIndex := 25, attributes := #[] }, { accessFlags := 25, nameIndex := 277, descriptorIndex := 25, attributes := #[] }, { accessFlags := 25, nameIndex := 280, descriptorIndex := 25, attributes := #[] }, { accessFlags := 25, nameIndex := 282, descriptorIndex := 25, attributes := #[] }, { accessFlags := 25, nameIndex := 284, descriptorIndex := 25, attributes := #[] }, { accessFlags := 25, nameIndex := 286, descriptorIndex := 25, attributes := #[] }, { accessFlags := 25, nameIndex := 288, descriptorIndex := 25, attributes := #[] }, { accessFlags := 25, nameIndex := 290, descriptorIndex := 25, attributes := #[] }, { accessFlags := 25, nameIndex := 292, descriptorIndex := 25, attributes := #[] }, { accessFlags := 26, nameIndex := 108, descriptorIndex := 109, attributes := #[] }, { accessFlags := 25, nameIndex := 294, descriptorIndex := 25, attributes := #[] }])
  fields := #[{ name := "U", type := (.object "jdk/internal/misc/Unsafe"), accessFlags := 24, slot := 0, constantValue := 0 }, { name := "BIG_ENDIAN", type := .boolean, accessFlags := 26, slot := 1, constantValue := 0 }, { name := "LOG2_ARRAY_BOOLEAN_INDEX_SCALE", type := .int, accessFlags := 25, slot := 2, constantValue := 0 }, { name := "LOG2_ARRAY_BYTE_INDEX_SCALE", type := .int, accessFlags := 25, slot := 3, constantValue := 0 }, { name := "LOG2_ARRAY_CHAR_INDEX_SCALE", type := .int, accessFlags := 25, slot := 4, constantValue := 0 }, { name := "LOG2_ARRAY_SHORT_INDEX_SCALE", type := .int, accessFlags := 25, slot := 5, constantValue := 0 }, { name := "LOG2_ARRAY_INT_INDEX_SCALE", type := .int, accessFlags := 25, slot := 6, constantValue := 0 }, { name := "LOG2_ARRAY_LONG_INDEX_SCALE", type := .int, accessFlags := 25, slot := 7, constantValue := 0 }, { name := "LOG2_ARRAY_FLOAT_INDEX_SCALE", type := .int, accessFlags := 25, slot := 8, constantValue := 0 }, { name := "LOG2_ARRAY_DOUBLE_INDEX_SCALE", type := .int, accessFlags := 25, slot := 9, constantValue := 0 }, { name := "LOG2_BYTE_BIT_SIZE", type := .int, accessFlags := 26, slot := 10, constantValue := 0 }, { name := "T_BOOLEAN", type := .int, accessFlags := 25, slot := 11, constantValue := 0 }, { name := "T_CHAR", type := .int, accessFlags := 25, slot := 12, constantValue := 0 }, { name := "T_FLOAT", type := .int, accessFlags := 25, slot := 13, constantValue := 0 }, { name := "T_DOUBLE", type := .int, accessFlags := 25, slot := 14, constantValue := 0 }, { name := "T_BYTE", type := .int, accessFlags := 25, slot := 15, constantValue := 0 }, { name := "T_SHORT", type := .int, accessFlags := 25, slot := 16, constantValue := 0 }, { name := "T_INT", type := .int, accessFlags := 25, slot := 17, constantValue := 0 }, { name := "T_LONG", type := .int, accessFlags := 25, slot := 18, constantValue := 0 }, { name := "JLA", type := (.object "jdk/internal/access/JavaLangAccess"), accessFlags := 26, slot := 19, constantValue := 0 }, { name := "SOFT_MAX_ARRAY_LENGTH", type := .int, accessFlags := 25, slot := 20, constantValue := 0 }]
  methods := #[k19m0]
  instanceTypes := #[]
  staticTypes := #[(.object "jdk/internal/misc/Unsafe"), .boolean, .int, .int, .int, .int, .int, .int, .int, .int, .int, .int, .int, .int, .int, .int, .int, .int, .int, (.object "jdk/internal/access/JavaLangAccess"), .int]
  resolved := Array.replicate 378 none
  statics := none }

def pool20 : Array CpInfo := pool [(1, u "java/lang/Cloneable"), (0, .class_ 1), (0, u "java/lang/Object"), (0, .class_ 3)] 3

/-- java/lang/Cloneable -/
def k20 : Class := { plain "java/lang/Cloneable" (some 0) with
  accessFlags := 1537
  interfaces := #[]
  cf := some (fileOf pool20 2 #[] #[] 1537 4 #[] #[])
  fields := #[]
  methods := #[]
  instanceTypes := #[]
  staticTypes := #[]
  resolved := Array.replicate 8 none
  statics := none }

/-- the primitive byte -/
def k21 : Class := { plain "byte" none with kind := .primitive 'B', accessFlags := 0x411 }
/-- [B -/
def k22 : Class := { plain "[B" (some 0) with kind := .array 21 .byte, interfaces := #[20, 2], accessFlags := 1041 }

/-- the primitive int -/
def k23 : Class := { plain "int" none with kind := .primitive 'I', accessFlags := 0x411 }
/-- [I -/
def k24 : Class := { plain "[I" (some 0) with kind := .array 23 .int, interfaces := #[20, 2], accessFlags := 1041 }

/-- [Lcom/example/reroutine/reroutine/scenario/EventType; -/
def k25 : Class := { plain "[Lcom/example/reroutine/reroutine/scenario/EventType;" (some 0) with kind := .array 14 (.object "com/example/reroutine/reroutine/scenario/EventType"), interfaces := #[20, 2], accessFlags := 1041 }

def heap : Heap := #[{ cls := 7, slots := #[.long 0, .int 1, .null, .int 0, .null, .int 0, .int 0], vm := .statics 7 },
  { cls := 9, slots := #[.ref 4], vm := .statics 9 },
  { cls := 14, slots := #[.ref 5, .ref 6, .null, .null, .ref 7, .ref 8, .null, .null], vm := .statics 14 },
  { cls := 18, slots := #[.null, .null, .null], vm := .statics 18 },
  { cls := 25, slots := #[.ref 5, .ref 6, .ref 7, .ref 8], vm := .none },
  { cls := 14, slots := #[.null, .int 0, .int 0, .null, .null, .ref 9], vm := .none },
  { cls := 14, slots := #[.null, .int 0, .int 0, .null, .null, .ref 10], vm := .none },
  { cls := 14, slots := #[.null, .int 0, .int 0, .null, .null, .ref 10], vm := .none },
  { cls := 14, slots := #[.null, .int 0, .int 0, .null, .null, .ref 9], vm := .none },
  { cls := 7, slots := #[.ref 11, .int 0, .int 0, .int 0], vm := .none },
  { cls := 7, slots := #[.ref 11, .int 0, .int 0, .int 0], vm := .none },
  { cls := 22, slots := #[.int 97], vm := .none }]
def classes : Array Class := #[k0, k1, k2, k3, k4, k5, k6, k7, k8, k9, k10, k11, k12, k13, k14, k15, k16, k17, k18, k19, k20, k21, k22, k23, k24, k25]
def interned : List (Array UInt16 × Addr) := []
def slotsUsed : Nat := 56
def theMethod : MethodId := ⟨1, 1⟩
def args0 : Array Value := #[.int 5, .int 6, .int 7]
def aboutOver (below : List Frame) : State where
  vm := { classes := classes, interned := interned.toArray }
  heap := heap
  slotsUsed := slotsUsed
  threads := #[{ frames := .invoking theMethod args0 :: below }]
def below0 : List Frame := [.native { method := ⟨0, 0⟩, args := #[] }]
def about1 : State := aboutOver below0
def p0 : Program := .bare "" "" ""
def e0 : Env := launch0.env 0 0 0
theorem w_frames : about1.frames = Frame.invoking theMethod args0 :: below0 := rfl
set_option maxRecDepth 65536 in
theorem w_args : argsFit about1.vm theMethod args0 = true := by decide +kernel
set_option maxRecDepth 65536 in
theorem w_heap : heapFits about1 = true := by decide +kernel
set_option maxRecDepth 65536 in
theorem w_runnable : about1.curStatus? = some .runnable := by decide +kernel
set_option maxRecDepth 65536 in
theorem w_alone : about1.alone = true := by decide +kernel
set_option maxRecDepth 65536 in
theorem w_named : about1.methodNamed? x = some theMethod := by decide +kernel
set_option maxRecDepth 65536 in
theorem w_hears : about1.hears theMethod below0 = true := by decide +kernel
set_option maxRecDepth 65536 in
theorem w_ripe : about1.ripe theMethod args0 below0 = true := by decide +kernel
theorem w_running : about1.status = .running := rfl
set_option maxRecDepth 65536 in
theorem w_room : about1.hasRoom e0.platform room_1 = true :=
  launch0.hasRoom_least _ room_1 (by decide +kernel) (by decide +kernel) (by decide +kernel) (by decide +kernel) (by decide +kernel) (by decide +kernel)
theorem allAtoms_all (ts : List Jvm.Cond) (a : Array Jvm.Value) (st : Jvm.State) : (allAtoms ts).before a st = ts.all (fun c => c.before a st) := by
  induction ts with
  | nil => rfl
  | cons c t ih =>
    show (Jvm.Cond.and c (allAtoms t)).before a st = _
    rw [Jvm.Cond.before_and, ih, List.all_cons]
def words1 : List Jvm.Cond := Jvm.Cond.code x code maxLocals ret :: tables_1
/-- a 'code' word, met by the world's own term for the bytes: nothing is compared byte by byte -/
theorem code_word {y : MethodName} {bytes : ByteArray} {mx : Nat} {rt : Option FieldType} {a : Array Value} {s : State} {m : MethodId} {meth : Method} {c : Code} (h1 : s.methodNamed? y = some m) (h2 : s.vm.method? m = some meth) (h3 : meth.code = some c) (h4 : c.code = bytes)
    (h5 : (c.maxLocals == mx && c.exceptionTable.isEmpty && decide (c.maxStack ≤ mostOperands) && decide (meth.sig.returnType = rt) && !meth.locks && decide (parseMethodDescriptor y.desc = some meth.sig)) = true) : (Jvm.Cond.code y bytes mx rt).before a s = true := by
  simp only [Bool.and_eq_true, beq_iff_eq, Bool.not_eq_true', decide_eq_true_eq] at h5
  obtain ⟨⟨⟨⟨⟨g1, g2⟩, g3⟩, g4⟩, g5⟩, g6⟩ := h5
  simp [Cond.before, Cond.holds, Cond.value, h1, h2, h3, h4, g1, g2, g3, g4, g5, g6]
def isCode : Jvm.Cond → Bool
  | .code _ _ _ _ => true
  | _ => false
theorem all_split {L : List Jvm.Cond} {P : Jvm.Cond → Bool} (h1 : L.all (fun c => isCode c || P c) = true) (h2 : ∀ c ∈ L.filter isCode, P c = true) : L.all P = true := by
  refine List.all_eq_true.mpr fun c hc => ?_
  have h := List.all_eq_true.mp h1 c hc
  rcases Bool.eq_false_or_eq_true (isCode c) with hi | hi
  · exact h2 c (List.mem_filter.mpr ⟨hc, hi⟩)
  · simpa [hi] using h
set_option maxRecDepth 65536 in
theorem w_c0 : (Jvm.Cond.code x code maxLocals ret).before args0 about1 = true := code_word (m := ⟨1, 1⟩) (meth := k1m1) (c := k1c1) (by decide +kernel) rfl rfl rfl (by decide +kernel)
set_option maxRecDepth 65536 in
theorem w_c1 : (Jvm.Cond.code ({ cls := "java/lang/String", name := "valueOf", desc := "(C)Ljava/lang/String;" } : Jvm.MethodName) jdk_42_method_139_code (1 : Nat) (Option.some (Jvm.ClassFile.FieldType.object "java/lang/String"))).before args0 about1 = true := code_word (m := ⟨7, 1⟩) (meth := k7m1) (c := k7c1) (by decide +kernel) rfl rfl rfl (by decide +kernel)
set_option maxRecDepth 65536 in
theorem w_c2 : (Jvm.Cond.code ({ cls := "java/lang/StringLatin1", name := "canEncode", desc := "(C)Z" } : Jvm.MethodName) jdk_43_method_3_code (1 : Nat) (Option.some Jvm.ClassFile.FieldType.boolean)).before args0 about1 = true := code_word (m := ⟨8, 1⟩) (meth := k8m1) (c := k8c1) (by decide +kernel) rfl rfl rfl (by decide +kernel)
set_option maxRecDepth 65536 in
theorem w_c3 : (Jvm.Cond.code ({ cls := "java/lang/StringLatin1", name := "toBytes", desc := "(C)[B" } : Jvm.MethodName) jdk_43_method_46_code (1 : Nat) (Option.some (Jvm.ClassFile.FieldType.array Jvm.ClassFile.FieldType.byte))).before args0 about1 = true := code_word (m := ⟨8, 2⟩) (meth := k8m2) (c := k8c2) (by decide +kernel) rfl rfl rfl (by decide +kernel)
set_option maxRecDepth 65536 in
theorem w_c4 : (Jvm.Cond.code ({ cls := "java/lang/String", name := "<init>", desc := "([BB)V" } : Jvm.MethodName) jdk_42_method_151_code (3 : Nat) (Option.none : Option Jvm.ClassFile.FieldType)).before args0 about1 = true := code_word (m := ⟨7, 2⟩) (meth := k7m2) (c := k7c2) (by decide +kernel) rfl rfl rfl (by decide +kernel)
set_option maxRecDepth 65536 in
theorem w_c5 : (Jvm.Cond.code ({ cls := "java/lang/Object", name := "<init>", desc := "()V" } : Jvm.MethodName) object_method_1_code (1 : Nat) (Option.none : Option Jvm.ClassFile.FieldType)).before args0 about1 = true := code_word (m := ⟨0, 0⟩) (meth := k0m0) (c := k0c0) (by decide +kernel) rfl rfl rfl (by decide +kernel)
set_option maxRecDepth 65536 in
theorem w_c6 : (Jvm.Cond.code ({ cls := "com/example/reroutine/reroutine/replanning/ExecutedDay", name := "<init>", desc := "(Ljava/lang/String;)V" } : Jvm.MethodName) prog_12_method_1_code (2 : Nat) (Option.none : Option Jvm.ClassFile.FieldType)).before args0 about1 = true := code_word (m := ⟨9, 0⟩) (meth := k9m0) (c := k9c0) (by decide +kernel) rfl rfl rfl (by decide +kernel)
set_option maxRecDepth 65536 in
theorem w_c7 : (Jvm.Cond.code ({ cls := "java/util/Objects", name := "requireNonNull", desc := "(Ljava/lang/Object;)Ljava/lang/Object;" } : Jvm.MethodName) jdk_31_method_10_code (1 : Nat) (Option.some (Jvm.ClassFile.FieldType.object "java/lang/Object"))).before args0 about1 = true := code_word (m := ⟨10, 1⟩) (meth := k10m1) (c := k10c1) (by decide +kernel) rfl rfl rfl (by decide +kernel)
set_option maxRecDepth 65536 in
theorem w_c8 : (Jvm.Cond.code ({ cls := "com/example/reroutine/reroutine/scenario/Event", name := "actEnd", desc := "(ILjava/lang/String;Ljava/lang/String;Ljava/lang/String;)Lcom/example/reroutine/reroutine/scenario/Event;" } : Jvm.MethodName) prog_33_method_2_code (4 : Nat) (Option.some (Jvm.ClassFile.FieldType.object "com/example/reroutine/reroutine/scenario/Event"))).before args0 about1 = true := code_word (m := ⟨12, 1⟩) (meth := k12m1) (c := k12c1) (by decide +kernel) rfl rfl rfl (by decide +kernel)
set_option maxRecDepth 65536 in
theorem w_c9 : (Jvm.Cond.code ({ cls := "com/example/reroutine/reroutine/scenario/Event", name := "<init>", desc := "(ILcom/example/reroutine/reroutine/scenario/EventType;Ljava/lang/String;Ljava/lang/String;Ljava/lang/String;)V" } : Jvm.MethodName) prog_33_method_1_code (6 : Nat) (Option.none : Option Jvm.ClassFile.FieldType)).before args0 about1 = true := code_word (m := ⟨12, 0⟩) (meth := k12m0) (c := k12c0) (by decide +kernel) rfl rfl rfl (by decide +kernel)
set_option maxRecDepth 65536 in
theorem w_c10 : (Jvm.Cond.code ({ cls := "java/lang/Record", name := "<init>", desc := "()V" } : Jvm.MethodName) jdk_30_method_1_code (1 : Nat) (Option.none : Option Jvm.ClassFile.FieldType)).before args0 about1 = true := code_word (m := ⟨11, 0⟩) (meth := k11m0) (c := k11c0) (by decide +kernel) rfl rfl rfl (by decide +kernel)
set_option maxRecDepth 65536 in
theorem w_c11 : (Jvm.Cond.code ({ cls := "com/example/reroutine/reroutine/scenario/EventType", name := "detailAttribute", desc := "()Ljava/lang/String;" } : Jvm.MethodName) prog_34_method_7_code (1 : Nat) (Option.some (Jvm.ClassFile.FieldType.object "java/lang/String"))).before args0 about1 = true := code_word (m := ⟨14, 0⟩) (meth := k14m0) (c := k14c0) (by decide +kernel) rfl rfl rfl (by decide +kernel)
set_option maxRecDepth 65536 in
theorem w_c12 : (Jvm.Cond.code ({ cls := "com/example/reroutine/reroutine/scenario/Event", name := "departure", desc := "(ILjava/lang/String;Ljava/lang/String;Ljava/lang/String;)Lcom/example/reroutine/reroutine/scenario/Event;" } : Jvm.MethodName) prog_33_method_3_code (4 : Nat) (Option.some (Jvm.ClassFile.FieldType.object "com/example/reroutine/reroutine/scenario/Event"))).before args0 about1 = true := code_word (m := ⟨12, 2⟩) (meth := k12m2) (c := k12c2) (by decide +kernel) rfl rfl rfl (by decide +kernel)
set_option maxRecDepth 65536 in
theorem w_c13 : (Jvm.Cond.code ({ cls := "com/example/reroutine/reroutine/scenario/Event", name := "arrival", desc := "(ILjava/lang/String;Ljava/lang/String;Ljava/lang/String;)Lcom/example/reroutine/reroutine/scenario/Event;" } : Jvm.MethodName) prog_33_method_6_code (4 : Nat) (Option.some (Jvm.ClassFile.FieldType.object "com/example/reroutine/reroutine/scenario/Event"))).before args0 about1 = true := code_word (m := ⟨12, 3⟩) (meth := k12m3) (c := k12c3) (by decide +kernel) rfl rfl rfl (by decide +kernel)
set_option maxRecDepth 65536 in
theorem w_c14 : (Jvm.Cond.code ({ cls := "com/example/reroutine/reroutine/scenario/Event", name := "actStart", desc := "(ILjava/lang/String;Ljava/lang/String;Ljava/lang/String;)Lcom/example/reroutine/reroutine/scenario/Event;" } : Jvm.MethodName) prog_33_method_7_code (4 : Nat) (Option.some (Jvm.ClassFile.FieldType.object "com/example/reroutine/reroutine/scenario/Event"))).before args0 about1 = true := code_word (m := ⟨12, 4⟩) (meth := k12m4) (c := k12c4) (by decide +kernel) rfl rfl rfl (by decide +kernel)
set_option maxRecDepth 65536 in
theorem w_c15 : (Jvm.Cond.code ({ cls := "com/example/reroutine/reroutine/replanning/ExecutedDay", name := "activitiesReached", desc := "()I" } : Jvm.MethodName) prog_12_method_3_code (1 : Nat) (Option.some Jvm.ClassFile.FieldType.int)).before args0 about1 = true := code_word (m := ⟨9, 2⟩) (meth := k9m2) (c := k9c2) (by decide +kernel) rfl rfl rfl (by decide +kernel)
set_option maxRecDepth 65536 in
theorem w_c16 : (Jvm.Cond.code ({ cls := "com/example/reroutine/reroutine/replanning/ExecutedDay", name := "add", desc := "(Lcom/example/reroutine/reroutine/scenario/Event;)V" } : Jvm.MethodName) prog_12_method_2_code (3 : Nat) (Option.none : Option Jvm.ClassFile.FieldType)).before args0 about1 = true := code_word (m := ⟨9, 1⟩) (meth := k9m1) (c := k9c1) (by decide +kernel) rfl rfl rfl (by decide +kernel)
set_option maxRecDepth 65536 in
theorem w_c17 : (Jvm.Cond.code ({ cls := "com/example/reroutine/reroutine/scenario/Event", name := "type", desc := "()Lcom/example/reroutine/reroutine/scenario/EventType;" } : Jvm.MethodName) prog_33_method_12_code (1 : Nat) (Option.some (Jvm.ClassFile.FieldType.object "com/example/reroutine/reroutine/scenario/EventType"))).before args0 about1 = true := code_word (m := ⟨12, 6⟩) (meth := k12m6) (c := k12c6) (by decide +kernel) rfl rfl rfl (by decide +kernel)
set_option maxRecDepth 65536 in
theorem w_c18 : (Jvm.Cond.code ({ cls := "com/example/reroutine/reroutine/scenario/Event", name := "time", desc := "()I" } : Jvm.MethodName) prog_33_method_11_code (1 : Nat) (Option.some Jvm.ClassFile.FieldType.int)).before args0 about1 = true := code_word (m := ⟨12, 5⟩) (meth := k12m5) (c := k12c5) (by decide +kernel) rfl rfl rfl (by decide +kernel)
set_option maxRecDepth 65536 in
theorem w_c19 : (Jvm.Cond.code ({ cls := "java/util/Arrays", name := "copyOf", desc := "([II)[I" } : Jvm.MethodName) jdk_65_method_123_code (3 : Nat) (Option.some (Jvm.ClassFile.FieldType.array Jvm.ClassFile.FieldType.int))).before args0 about1 = true := code_word (m := ⟨15, 1⟩) (meth := k15m1) (c := k15c1) (by decide +kernel) rfl rfl rfl (by decide +kernel)
set_option maxRecDepth 65536 in
theorem w_c20 : (Jvm.Cond.code ({ cls := "java/lang/Math", name := "min", desc := "(II)I" } : Jvm.MethodName) jdk_29_method_69_code (2 : Nat) (Option.some Jvm.ClassFile.FieldType.int)).before args0 about1 = true := code_word (m := ⟨16, 1⟩) (meth := k16m1) (c := k16c1) (by decide +kernel) rfl rfl rfl (by decide +kernel)
def codes1 : List Jvm.Cond := [Jvm.Cond.code x code maxLocals ret, Jvm.Cond.code ({ cls := "java/lang/String", name := "valueOf", desc := "(C)Ljava/lang/String;" } : Jvm.MethodName) jdk_42_method_139_code (1 : Nat) (Option.some (Jvm.ClassFile.FieldType.object "java/lang/String")), Jvm.Cond.code ({ cls := "java/lang/StringLatin1", name := "canEncode", desc := "(C)Z" } : Jvm.MethodName) jdk_43_method_3_code (1 : Nat) (Option.some Jvm.ClassFile.FieldType.boolean), Jvm.Cond.code ({ cls := "java/lang/StringLatin1", name := "toBytes", desc := "(C)[B" } : Jvm.MethodName) jdk_43_method_46_code (1 : Nat) (Option.some (Jvm.ClassFile.FieldType.array Jvm.ClassFile.FieldType.byte)), Jvm.Cond.code ({ cls := "java/lang/String", name := "<init>", desc := "([BB)V" } : Jvm.MethodName) jdk_42_method_151_code (3 : Nat) (Option.none : Option Jvm.ClassFile.FieldType), Jvm.Cond.code ({ cls := "java/lang/Object", name := "<init>", desc := "()V" } : Jvm.MethodName) object_method_1_code (1 : Nat) (Option.none : Option Jvm.ClassFile.FieldType), Jvm.Cond.code ({ cls := "com/example/reroutine/reroutine/replanning/ExecutedDay", name := "<init>", desc := "(Ljava/lang/String;)V" } : Jvm.MethodName) prog_12_method_1_code (2 : Nat) (Option.none : Option Jvm.ClassFile.FieldType), Jvm.Cond.code ({ cls := "java/util/Objects", name := "requireNonNull", desc := "(Ljava/lang/Object;)Ljava/lang/Object;" } : Jvm.MethodName) jdk_31_method_10_code (1 : Nat) (Option.some (Jvm.ClassFile.FieldType.object "java/lang/Object")), Jvm.Cond.code ({ cls := "com/example/reroutine/reroutine/scenario/Event", name := "actEnd", desc := "(ILjava/lang/String;Ljava/lang/String;Ljava/lang/String;)Lcom/example/reroutine/reroutine/scenario/Event;" } : Jvm.MethodName) prog_33_method_2_code (4 : Nat) (Option.some (Jvm.ClassFile.FieldType.object "com/example/reroutine/reroutine/scenario/Event")), Jvm.Cond.code ({ cls := "com/example/reroutine/reroutine/scenario/Event", name := "<init>", desc := "(ILcom/example/reroutine/reroutine/scenario/EventType;Ljava/lang/String;Ljava/lang/String;Ljava/lang/String;)V" } : Jvm.MethodName) prog_33_method_1_code (6 : Nat) (Option.none : Option Jvm.ClassFile.FieldType), Jvm.Cond.code ({ cls := "java/lang/Record", name := "<init>", desc := "()V" } : Jvm.MethodName) jdk_30_method_1_code (1 : Nat) (Option.none : Option Jvm.ClassFile.FieldType), Jvm.Cond.code ({ cls := "com/example/reroutine/reroutine/scenario/EventType", name := "detailAttribute", desc := "()Ljava/lang/String;" } : Jvm.MethodName) prog_34_method_7_code (1 : Nat) (Option.some (Jvm.ClassFile.FieldType.object "java/lang/String")), Jvm.Cond.code ({ cls := "com/example/reroutine/reroutine/scenario/Event", name := "departure", desc := "(ILjava/lang/String;Ljava/lang/String;Ljava/lang/String;)Lcom/example/reroutine/reroutine/scenario/Event;" } : Jvm.MethodName) prog_33_method_3_code (4 : Nat) (Option.some (Jvm.ClassFile.FieldType.object "com/example/reroutine/reroutine/scenario/Event")), Jvm.Cond.code ({ cls := "com/example/reroutine/reroutine/scenario/Event", name := "arrival", desc := "(ILjava/lang/String;Ljava/lang/String;Ljava/lang/String;)Lcom/example/reroutine/reroutine/scenario/Event;" } : Jvm.MethodName) prog_33_method_6_code (4 : Nat) (Option.some (Jvm.ClassFile.FieldType.object "com/example/reroutine/reroutine/scenario/Event")), Jvm.Cond.code ({ cls := "com/example/reroutine/reroutine/scenario/Event", name := "actStart", desc := "(ILjava/lang/String;Ljava/lang/String;Ljava/lang/String;)Lcom/example/reroutine/reroutine/scenario/Event;" } : Jvm.MethodName) prog_33_method_7_code (4 : Nat) (Option.some (Jvm.ClassFile.FieldType.object "com/example/reroutine/reroutine/scenario/Event")), Jvm.Cond.code ({ cls := "com/example/reroutine/reroutine/replanning/ExecutedDay", name := "activitiesReached", desc := "()I" } : Jvm.MethodName) prog_12_method_3_code (1 : Nat) (Option.some Jvm.ClassFile.FieldType.int), Jvm.Cond.code ({ cls := "com/example/reroutine/reroutine/replanning/ExecutedDay", name := "add", desc := "(Lcom/example/reroutine/reroutine/scenario/Event;)V" } : Jvm.MethodName) prog_12_method_2_code (3 : Nat) (Option.none : Option Jvm.ClassFile.FieldType), Jvm.Cond.code ({ cls := "com/example/reroutine/reroutine/scenario/Event", name := "type", desc := "()Lcom/example/reroutine/reroutine/scenario/EventType;" } : Jvm.MethodName) prog_33_method_12_code (1 : Nat) (Option.some (Jvm.ClassFile.FieldType.object "com/example/reroutine/reroutine/scenario/EventType")), Jvm.Cond.code ({ cls := "com/example/reroutine/reroutine/scenario/Event", name := "time", desc := "()I" } : Jvm.MethodName) prog_33_method_11_code (1 : Nat) (Option.some Jvm.ClassFile.FieldType.int), Jvm.Cond.code ({ cls := "java/util/Arrays", name := "copyOf", desc := "([II)[I" } : Jvm.MethodName) jdk_65_method_123_code (3 : Nat) (Option.some (Jvm.ClassFile.FieldType.array Jvm.ClassFile.FieldType.int)), Jvm.Cond.code ({ cls := "java/lang/Math", name := "min", desc := "(II)I" } : Jvm.MethodName) jdk_29_method_69_code (2 : Nat) (Option.some Jvm.ClassFile.FieldType.int)]
set_option maxRecDepth 65536 in
theorem codes_eq : words1.filter isCode = codes1 := rfl
theorem w_codes : ∀ c ∈ words1.filter isCode, c.before args0 about1 = true := by
  rw [codes_eq]
  intro c hc
  simp only [codes1, List.mem_cons, List.not_mem_nil, or_false] at hc
  rcases hc with rfl | rfl | rfl | rfl | rfl | rfl | rfl | rfl | rfl | rfl | rfl | rfl | rfl | rfl | rfl | rfl | rfl | rfl | rfl | rfl | rfl
  · exact w_c0
  · exact w_c1
  · exact w_c2
  · exact w_c3
  · exact w_c4
  · exact w_c5
  · exact w_c6
  · exact w_c7
  · exact w_c8
  · exact w_c9
  · exact w_c10
  · exact w_c11
  · exact w_c12
  · exact w_c13
  · exact w_c14
  · exact w_c15
  · exact w_c16
  · exact w_c17
  · exact w_c18
  · exact w_c19
  · exact w_c20
set_option maxRecDepth 65536 in
theorem w_t1 : (words1.take 24).all (fun c => isCode c || c.before args0 about1) = true := by decide +kernel
set_option maxRecDepth 65536 in
theorem w_t2 : ((words1.drop 24).take 24).all (fun c => isCode c || c.before args0 about1) = true := by decide +kernel
set_option maxRecDepth 65536 in
theorem w_t3 : (((words1.drop 24).drop 24).take 24).all (fun c => isCode c || c.before args0 about1) = true := by decide +kernel
set_option maxRecDepth 65536 in
theorem w_t4 : ((((words1.drop 24).drop 24).drop 24).take 24).all (fun c => isCode c || c.before args0 about1) = true := by decide +kernel
set_option maxRecDepth 65536 in
theorem w_t5 : (((((words1.drop 24).drop 24).drop 24).drop 24).take 24).all (fun c => isCode c || c.before args0 about1) = true := by decide +kernel
set_option maxRecDepth 65536 in
theorem w_t6 : (((((words1.drop 24).drop 24).drop 24).drop 24).drop 24).all (fun c => isCode c || c.before args0 about1) = true := by decide +kernel
theorem w_tables : (allAtoms (Jvm.Cond.code x code maxLocals ret :: tables_1)).before args0 about1 = true := by
  rw [allAtoms_all]
  show words1.all (fun c => c.before args0 about1) = true
  refine all_split ?_ w_codes
  rw [← List.take_append_drop 24 words1, List.all_append, w_t1, ← List.take_append_drop 24 (words1.drop 24), List.all_append, w_t2, ← List.take_append_drop 24 ((words1.drop 24).drop 24), List.all_append, w_t3, ← List.take_append_drop 24 (((words1.drop 24).drop 24).drop 24), List.all_append, w_t4, ← List.take_append_drop 24 ((((words1.drop 24).drop 24).drop 24).drop 24), List.all_append, w_t5, w_t6]
  rfl
set_option maxRecDepth 65536 in
theorem w_rest : rest_1_c.before args0 about1 = true := by decide +kernel
set_option maxRecDepth 65536 in
theorem w_case : (Jvm.Cond.and given_1 narrow_1).before args0 about1 = true := by decide +kernel
theorem w_applies : (headSpec (Jvm.Cond.code x code maxLocals ret :: tables_1) room_1).applies x e0.platform about1 = true :=
  (Spec.applies_iff w_frames).mpr ⟨w_running, w_runnable, w_alone, w_named, w_hears, w_ripe, w_room, w_tables⟩
theorem atStart : AtStart classFile x code maxLocals ret World_1 tables_1 room_1 Calls_1 rest_1 Pre_1 launch0 p0 e0 about1 theMethod args0 below0 :=
  ⟨lists_1, trivial, launch0.admits_env _ _ _, launch0.least_env, fairChoices_fair.cas, fairChoices_fair.clock, w_frames, w_args, w_heap, w_applies, trivial, w_rest, w_case⟩
end start1
theorem witness_1 : WitnessClaimed_1 := ⟨start1.p0, start1.e0, start1.about1, start1.theMethod, start1.args0, start1.below0, start1.atStart⟩
end Jvm.Pilot.@@N@@
