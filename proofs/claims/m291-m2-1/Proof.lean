import JvmDerived
import JvmDerived.Pilot.@@N@@Statement
import JvmDerived.Pilot.@@N@@Code
set_option linter.unusedVariables false
set_option linter.unusedSimpArgs false
@@BLOCK:NumsL.lean.txt@@
namespace Jvm.RoadKit
open Sem ClassFile Op Lib Jvm.Stand Jvm.Free Jvm.LawKit
section New
variable {p : Program} {l : Launch} {e : Env} {R : Room} {s : State} {m : MethodId} {args : Array Value} {below : List Frame} {meth : Method} {c : Code} {T : State} {locs : List Loc} {cells slots : Nat}
theorem retI (X : Stand p l e R s m args below meth c T locs cells slots) (hx : p.tables.exec = Jvm.exec) {pc : Nat} {Ls : Array Slot} {z : Int32} {rest : List Value} (hret : meth.sig.returnType = some .int) (hd : decode c.code pc = .ok (.ireturn, 1)) {fs : List Frame}
    (hl : ∀ (f : JFrame) (acts : List Action), f.method = m → f.locked = none → f.entered = [] → (doReturn e (T.setTop f) acts (some (.int z))).1 = T.setFrames fs) : Steps p.tables e below (T.setTop (mkF m pc Ls (.int z :: rest))) (T.setFrames fs) := by
  have hm' : T.vm.method? m = some meth := X.method'
  have hn : narrow .int (.int z) = .int z := rfl
  show Steps p.tables e below (T.setTop { method := m, pc := pc, locals := Ls, stack := _ :: rest, locked := none }) _
  jvm_step X.here [X.here.top, hx, hd, hm', hret, hn]
  first | (intro acts; rw [hl _ acts rfl rfl rfl]) | rw [hl _ _ rfl rfl rfl]
  exact Steps.refl _
end New
end Jvm.RoadKit
namespace Jvm.Pilot.@@N@@
open Jvm Jvm.ClassFile Sem Op Lib Jvm.Free Jvm.Stand Jvm.LawKit Jvm.RoadKit Bundle Jvm.Pilot.@@N@@.Jvm.D
theorem own_nb (y : Int32) : nar .byte (y.toInt8.toInt32) = y.toInt8.toInt32 := by
  show (y.toInt8.toInt32).toInt8.toInt32 = _
  simp
theorem own_fb (y : Int32) : fits .byte (.int (y.toInt8.toInt32)) = true := fits_nar_byte y

def own_N (Z : State) (h : Heap) (n0 : Nat) (a : Addr) (cap cn : Int32) (ks ns : List Int32) (vs : List Value) (hs : List Int64) : Prop := Exa Z h a "com/example/agouti/agouti/store/IndexBuilder$Notes" ∧ Fld Z h a "com/example/agouti/agouti/store/IndexBuilder$Notes" "count" "I" (.int cn) ∧ (ks.length = cap.toNatClampNeg ∧ ns.length = cap.toNatClampNeg ∧ vs.length = cap.toNatClampNeg ∧ hs.length = cap.toNatClampNeg) ∧ ∃ (b1 b2 b3 b4 : Addr) (k1 k2 k3 k4 : ClassId), (n0 ≤ b1 ∧ n0 ≤ b2 ∧ n0 ≤ b3 ∧ n0 ≤ b4) ∧ (a ≠ b1 ∧ a ≠ b2 ∧ a ≠ b3 ∧ a ≠ b4) ∧ (b1 ≠ b2 ∧ b1 ≠ b3 ∧ b1 ≠ b4 ∧ b2 ≠ b3 ∧ b2 ≠ b4 ∧ b3 ≠ b4) ∧ OvrA Z k3 .byte "[B" ∧ Fld Z h a "com/example/agouti/agouti/store/IndexBuilder$Notes" "kinds" "[B" (.ref b1) ∧ Fld Z h a "com/example/agouti/agouti/store/IndexBuilder$Notes" "nodes" "[I" (.ref b2) ∧ Fld Z h a "com/example/agouti/agouti/store/IndexBuilder$Notes" "values" "[[B" (.ref b3) ∧ Fld Z h a "com/example/agouti/agouti/store/IndexBuilder$Notes" "hashes" "[J" (.ref b4) ∧ Arv Z h b1 k1 .byte cap (ks.map Value.int) (.int (0 : Int32)) ∧ Arv Z h b2 k2 .int cap (ns.map Value.int) (.int (0 : Int32)) ∧ Arv Z h b3 k3 (.array .byte) cap vs .null ∧ Arv Z h b4 k4 .long cap (hs.map Value.long) (.long (0 : Int64))
def own_ad (cap cn : Int32) : Int32 := if (cn + (1 : Int32)) = cap then (1 : Int32) else (0 : Int32)
theorem own_ltn {a b : Int32} (h0 : ¬ a < 0) (h : a < b) : a.toNatClampNeg < b.toNatClampNeg := by
  simp only [Int32.lt_iff_toInt_lt, Int32.reduceToInt] at h0 h
  simp only [Int32.toNatClampNeg]; omega
theorem own_getint (xs : List Int32) (i : Nat) : (xs.map Value.int).getD i (.int 0) = .int (xs.getD i 0) := by
  simp only [List.getD_eq_getElem?_getD, List.getElem?_map]
  cases xs[i]? <;> rfl
theorem own_getlong (xs : List Int64) (i : Nat) : (xs.map Value.long).getD i (.long 0) = .long (xs.getD i 0) := by
  simp only [List.getD_eq_getElem?_getD, List.getElem?_map]
  cases xs[i]? <;> rfl

theorem d1_0 : decode prog_134_method_1_code 0 = .ok (.aload_n 0, 1) := by decide +kernel
theorem d1_1 : decode prog_134_method_1_code 1 = .ok (.invokespecial 1, 3) := by decide +kernel
theorem d1_4 : decode prog_134_method_1_code 4 = .ok (.aload_n 0, 1) := by decide +kernel
theorem d1_5 : decode prog_134_method_1_code 5 = .ok (.iload_n 1, 1) := by decide +kernel
theorem d1_6 : decode prog_134_method_1_code 6 = .ok (.newarray .byte, 2) := by decide +kernel
theorem d1_8 : decode prog_134_method_1_code 8 = .ok (.putfield 7, 3) := by decide +kernel
theorem d1_11 : decode prog_134_method_1_code 11 = .ok (.aload_n 0, 1) := by decide +kernel
theorem d1_12 : decode prog_134_method_1_code 12 = .ok (.iload_n 1, 1) := by decide +kernel
theorem d1_13 : decode prog_134_method_1_code 13 = .ok (.newarray .int, 2) := by decide +kernel
theorem d1_15 : decode prog_134_method_1_code 15 = .ok (.putfield 13, 3) := by decide +kernel
theorem d1_18 : decode prog_134_method_1_code 18 = .ok (.aload_n 0, 1) := by decide +kernel
theorem d1_19 : decode prog_134_method_1_code 19 = .ok (.iload_n 1, 1) := by decide +kernel
theorem d1_20 : decode prog_134_method_1_code 20 = .ok (.anewarray 17, 3) := by decide +kernel
theorem d1_23 : decode prog_134_method_1_code 23 = .ok (.putfield 18, 3) := by decide +kernel
theorem d1_26 : decode prog_134_method_1_code 26 = .ok (.aload_n 0, 1) := by decide +kernel
theorem d1_27 : decode prog_134_method_1_code 27 = .ok (.iload_n 1, 1) := by decide +kernel
theorem d1_28 : decode prog_134_method_1_code 28 = .ok (.newarray .long, 2) := by decide +kernel
theorem d1_30 : decode prog_134_method_1_code 30 = .ok (.putfield 22, 3) := by decide +kernel
theorem d1_33 : decode prog_134_method_1_code 33 = .ok (.return_, 1) := by decide +kernel
theorem pn_0 : plainName "com/example/agouti/agouti/store/IndexBuilder$Notes" = true := by first | (simp [plainName, overriddenIn]; done) | decide +kernel
def QI1 (Z : State) (a0_ : Addr)  (h0 : Heap) (n0 : Nat) (v : Option Value) (h : Heap) (L : List Loc) : Prop := v = none ∧ Fr n0 L ∧ n0 ≤ h.size ∧ Keep h0 h [a0_] ∧ own_N Z h n0 a0_ (1 : Int32) (0 : Int32) [0] [0] [.null] [0]
theorem ef_rmI1 (m : MethodId) (a0_ : Addr) : entryFrame m #[(.ref a0_), (.int (1 : Int32))] 2 = mkF m 0 #[rv a0_, iv (1 : Int32)] [] := by first | (simp [entryFrame, mkF, argsToLocals, Value.category]; done) | rfl
set_option maxRecDepth 65536 in
set_option maxHeartbeats 40000000 in
theorem rmI1 (l : Launch) (Z : State) (a0 : Array Value) (hw : ∀ d ∈ tables_1, d.before a0 Z = true) (ws : List Jvm.Cond) (a0_ : Addr)  (h0 : Heap) (n0 : Nat) (Z0 : n0 ≤ h0.size) (E1 : Exa Z h0 a0_ "com/example/agouti/agouti/store/IndexBuilder$Notes") (Fc : Fld Z h0 a0_ "com/example/agouti/agouti/store/IndexBuilder$Notes" "count" "I" (.int (0 : Int32))) (Fi0 : Fld Z h0 a0_ "com/example/agouti/agouti/store/IndexBuilder$Notes" "kinds" "[B" .null) (Fi1 : Fld Z h0 a0_ "com/example/agouti/agouti/store/IndexBuilder$Notes" "nodes" "[I" .null) (Fi2 : Fld Z h0 a0_ "com/example/agouti/agouti/store/IndexBuilder$Notes" "values" "[[B" .null) (Fi3 : Fld Z h0 a0_ "com/example/agouti/agouti/store/IndexBuilder$Notes" "hashes" "[J" .null) (g0 : n0 ≤ a0_) :
    MetFree l (⟨"com/example/agouti/agouti/store/IndexBuilder$Notes", "<init>", "(I)V"⟩ : MethodName) (head1 (Jvm.Cond.code (⟨"com/example/agouti/agouti/store/IndexBuilder$Notes", "<init>", "(I)V"⟩ : MethodName) prog_134_method_1_code 2 none :: ws) ({ frames := 1, cells := 4, slots := 4, locals := 12 } : Room)) (fun a U => a = #[(.ref a0_), (.int (1 : Int32))] ∧ Z.Warmed39 U.vm ∧ U.heap = h0) (fun _ _ _ _ _ => True) (fun _ U o U' => ∃ v L, o = .returned v ∧ QI1 Z a0_ h0 n0 v U'.heap L ∧ FrameEnd U o U' L ({ frames := 1, cells := 4, slots := 4, locals := 12 } : Room).cells ({ frames := 1, cells := 4, slots := 4, locals := 12 } : Room).slots) := by
  refine MetFree.of_bodySF (plainFor_of_name pn_0) hisR ?_
  intro p e s m args below meth c s₁ Bd hml0 hP hK
  obtain ⟨rfl, hZ, hh⟩ := hP
  have hx := Bd.exec
  have hby := Bd.bytes
  have hml : c.maxLocals = 2 := hml0
  have hown : s.vm.findClass "com/example/agouti/agouti/store/IndexBuilder$Notes" = some m.cls := findClass_of_methodNamed Bd.named
  have hnm := (name_of_methodNamed Bd.named Bd.method).1
  have X0 : Stand p l e ({ frames := 1, cells := 4, slots := 4, locals := 12 } : Room) s m #[(.ref a0_), (.int (1 : Int32))] below meth c s₁ [] 0 0 := Stand.of_body Bd
  have e0 : s₁.heap = h0 := by rw [← hh, Bd.state]; rfl
  have N0 := Fr.nil n0
  have S0 : ∀ t, Steps p.tables e below (s₁.setTop (mkF m 0 #[rv a0_, iv (1 : Int32)] [])) t → Steps p.tables e below (s₁.setTop (entryFrame m #[(.ref a0_), (.int (1 : Int32))] 2)) t := fun t k => castTop (ef_rmI1 m a0_) k
  have K0 : Keep h0 h0 [a0_] := Keep.refl _ _
  obtain ⟨T1, X1, e1, st1⟩ := initO X0 hx hZ hown (hw _ (List.mem_of_getElem? (i := 7) rfl)) (hw _ (List.mem_of_getElem? (i := 8) rfl)) (hw _ (List.mem_of_getElem? (i := 9) rfl)) e0 (g := (mkF m 1 #[rv a0_, iv (1 : Int32)] [(.ref a0_)])) rfl (by rw [hml]; rfl) rfl (hb hby d1_1) (by decide) (W := 0) (by show 2 * 0 + _ ≤ _; exact Nat.le_of_eq rfl) (by decide)
  obtain ⟨T2, h2, k2, X2, e2, E2, A2, st2⟩ := newP X1 hx hZ (hw _ (List.mem_of_getElem? (i := 10) rfl)) e1 (g := (mkF m 6 #[rv a0_, iv (1 : Int32)] [(.int (1 : Int32)), (.ref a0_)])) rfl (hb hby d1_6) rfl (by decide) (cap := 1) (by decide) (by decide) (by decide) (by decide)
  obtain ⟨b2, g2⟩ : ∃ z, z = h0.size := ⟨_, rfl⟩
  rw [← g2] at A2 st2
  have ge_b2 : n0 ≤ b2 := Nat.le_trans Z0 (Nat.le_of_eq g2.symm)
  have ne_a0__b2 : a0_ ≠ b2 := Nat.ne_of_lt (Nat.lt_of_lt_of_le (E1).lt (Nat.le_of_eq g2.symm))
  have f3 := E1.ext E2
  have f4 := Fc.ext E2
  have f5 := Fi0.ext E2
  have f6 := Fi1.ext E2
  have f7 := Fi2.ext E2
  have f8 := Fi3.ext E2
  have V2 : Arv Z h2 b2 k2 .byte (1 : Int32) [(.int (0 : Int32))] (.int (0 : Int32)) := (Arv.new A2 (by decide)).pad (pad_rep [] (.int (0 : Int32)) 1)
  have Z2 : n0 ≤ h2.size := Nat.le_trans Z0 E2.1
  have K2 : Keep h0 h2 [a0_] := K0.ext E2
  have sz_b2 : h0.size ≤ b2 := Nat.le_trans K0.1 (Nat.le_of_eq g2.symm)
  obtain ⟨T9, h9, X9, e9, W9, st9⟩ := putF X2 hx hZ hown (host := "") (Or.inl (hw _ (List.mem_of_getElem? (i := 11) rfl))) Via.refl e2 f5 f3 (Or.inr ⟨(hw _ (List.mem_of_getElem? (i := 12) rfl)), rfl, hnm⟩) (hw _ (List.mem_of_getElem? (i := 2) rfl)) (ty := (.array .byte)) (by decide) rfl rfl (g := (mkF m 8 #[rv a0_, iv (1 : Int32)] [(.ref b2), (.ref a0_)])) rfl rfl (hb hby d1_8)
  have Fw9 := f5.same W9
  have f10 := f4.other W9 (Or.inr (slot_ne (Or.inl (hw _ (List.mem_of_getElem? (i := 29) rfl))) (Or.inr (hw _ (List.mem_of_getElem? (i := 12) rfl))) (by decide) (t := .int) (t' := (.array .byte)) (by decide) (by decide)))
  have f11 := f6.other W9 (Or.inr (slot_ne (Or.inr (hw _ (List.mem_of_getElem? (i := 15) rfl))) (Or.inr (hw _ (List.mem_of_getElem? (i := 12) rfl))) (by decide) (t := (.array .int)) (t' := (.array .byte)) (by decide) (by decide)))
  have f12 := f7.other W9 (Or.inr (slot_ne (Or.inl (hw _ (List.mem_of_getElem? (i := 19) rfl))) (Or.inr (hw _ (List.mem_of_getElem? (i := 12) rfl))) (by decide) (t := (.array (.array .byte))) (t' := (.array .byte)) (by decide) (by decide)))
  have f13 := f8.other W9 (Or.inr (slot_ne (Or.inr (hw _ (List.mem_of_getElem? (i := 22) rfl))) (Or.inr (hw _ (List.mem_of_getElem? (i := 12) rfl))) (by decide) (t := (.array .long)) (t' := (.array .byte)) (by decide) (by decide)))
  have f14 := f3.wr W9
  have f21 := V2.other W9 (Ne.symm ne_a0__b2)
  have N9 := Fr.snoc X9 N0 g0
  have Z9 : n0 ≤ h9.size := Nat.le_trans Z2 (Keep.of_wr W9).1
  have K9 : Keep h0 h9 [a0_] := K2.wr W9 (Or.inl (List.mem_of_getElem? (i := 0) rfl))
  obtain ⟨T22, h22, k22, X22, e22, E22, A22, st22⟩ := newP X9 hx hZ (hw _ (List.mem_of_getElem? (i := 13) rfl)) e9 (g := (mkF m 13 #[rv a0_, iv (1 : Int32)] [(.int (1 : Int32)), (.ref a0_)])) rfl (hb hby d1_13) rfl (by decide) (cap := 1) (by decide) (by decide) (by decide) (by decide)
  obtain ⟨b22, g22⟩ : ∃ z, z = h9.size := ⟨_, rfl⟩
  rw [← g22] at A22 st22
  have ge_b22 : n0 ≤ b22 := Nat.le_trans Z9 (Nat.le_of_eq g22.symm)
  have ne_a0__b22 : a0_ ≠ b22 := Nat.ne_of_lt (Nat.lt_of_lt_of_le (f14).lt (Nat.le_of_eq g22.symm))
  have ne_b2_b22 : b2 ≠ b22 := Nat.ne_of_lt (Nat.lt_of_lt_of_le (f21).lt (Nat.le_of_eq g22.symm))
  have f23 := f14.ext E22
  have f24 := f10.ext E22
  have f25 := Fw9.ext E22
  have f26 := f11.ext E22
  have f27 := f12.ext E22
  have f28 := f13.ext E22
  have f29 := f21.ext E22
  have V22 : Arv Z h22 b22 k22 .int (1 : Int32) [(.int (0 : Int32))] (.int (0 : Int32)) := (Arv.new A22 (by decide)).pad (pad_rep [] (.int (0 : Int32)) 1)
  have Z22 : n0 ≤ h22.size := Nat.le_trans Z9 E22.1
  have K22 : Keep h0 h22 [a0_] := K9.ext E22
  have sz_b22 : h0.size ≤ b22 := Nat.le_trans K9.1 (Nat.le_of_eq g22.symm)
  obtain ⟨T30, h30, X30, e30, W30, st30⟩ := putF X22 hx hZ hown (host := "") (Or.inl (hw _ (List.mem_of_getElem? (i := 14) rfl))) Via.refl e22 f26 f23 (Or.inr ⟨(hw _ (List.mem_of_getElem? (i := 15) rfl)), rfl, hnm⟩) (hw _ (List.mem_of_getElem? (i := 2) rfl)) (ty := (.array .int)) (by decide) rfl rfl (g := (mkF m 15 #[rv a0_, iv (1 : Int32)] [(.ref b22), (.ref a0_)])) rfl rfl (hb hby d1_15)
  have Fw30 := f26.same W30
  have f31 := f24.other W30 (Or.inr (slot_ne (Or.inl (hw _ (List.mem_of_getElem? (i := 29) rfl))) (Or.inr (hw _ (List.mem_of_getElem? (i := 15) rfl))) (by decide) (t := .int) (t' := (.array .int)) (by decide) (by decide)))
  have f32 := f25.other W30 (Or.inr (slot_ne (Or.inr (hw _ (List.mem_of_getElem? (i := 12) rfl))) (Or.inr (hw _ (List.mem_of_getElem? (i := 15) rfl))) (by decide) (t := (.array .byte)) (t' := (.array .int)) (by decide) (by decide)))
  have f33 := f27.other W30 (Or.inr (slot_ne (Or.inl (hw _ (List.mem_of_getElem? (i := 19) rfl))) (Or.inr (hw _ (List.mem_of_getElem? (i := 15) rfl))) (by decide) (t := (.array (.array .byte))) (t' := (.array .int)) (by decide) (by decide)))
  have f34 := f28.other W30 (Or.inr (slot_ne (Or.inr (hw _ (List.mem_of_getElem? (i := 22) rfl))) (Or.inr (hw _ (List.mem_of_getElem? (i := 15) rfl))) (by decide) (t := (.array .long)) (t' := (.array .int)) (by decide) (by decide)))
  have f35 := f23.wr W30
  have f42 := f29.other W30 (Ne.symm ne_a0__b2)
  have f43 := V22.other W30 (Ne.symm ne_a0__b22)
  have N30 := Fr.snoc X30 N9 g0
  have Z30 : n0 ≤ h30.size := Nat.le_trans Z22 (Keep.of_wr W30).1
  have K30 : Keep h0 h30 [a0_] := K22.wr W30 (Or.inl (List.mem_of_getElem? (i := 0) rfl))
  obtain ⟨T44, h44, k44, X44, e44, E44, A44, Ea44, O44, st44⟩ := newRA X30 hx hZ hown (by decide) (hw _ (List.mem_of_getElem? (i := 16) rfl)) (hw _ (List.mem_of_getElem? (i := 17) rfl)) e30 (g := (mkF m 20 #[rv a0_, iv (1 : Int32)] [(.int (1 : Int32)), (.ref a0_)])) rfl (hb hby d1_20) rfl (by decide) (cap := 1) (by decide) (by decide) (by decide) (by decide) (ad := "[[B") (by decide)
  obtain ⟨b44, g44⟩ : ∃ z, z = h30.size := ⟨_, rfl⟩
  rw [← g44] at A44 st44
  have ge_b44 : n0 ≤ b44 := Nat.le_trans Z30 (Nat.le_of_eq g44.symm)
  have ne_a0__b44 : a0_ ≠ b44 := Nat.ne_of_lt (Nat.lt_of_lt_of_le (f35).lt (Nat.le_of_eq g44.symm))
  have ne_b2_b44 : b2 ≠ b44 := Nat.ne_of_lt (Nat.lt_of_lt_of_le (f42).lt (Nat.le_of_eq g44.symm))
  have ne_b22_b44 : b22 ≠ b44 := Nat.ne_of_lt (Nat.lt_of_lt_of_le (f43).lt (Nat.le_of_eq g44.symm))
  have f45 := f35.ext E44
  have f46 := f31.ext E44
  have f47 := f32.ext E44
  have f48 := Fw30.ext E44
  have f49 := f33.ext E44
  have f50 := f34.ext E44
  have f51 := f42.ext E44
  have f52 := f43.ext E44
  have V44 : Arv Z h44 b44 k44 (.array .byte) (1 : Int32) [.null] .null := (Arv.new A44 (by decide)).pad (pad_rep [] .null 1)
  have Z44 : n0 ≤ h44.size := Nat.le_trans Z30 E44.1
  have K44 : Keep h0 h44 [a0_] := K30.ext E44
  have sz_b44 : h0.size ≤ b44 := Nat.le_trans K30.1 (Nat.le_of_eq g44.symm)
  obtain ⟨T53, h53, X53, e53, W53, st53⟩ := putF X44 hx hZ hown (host := "") (Or.inl (hw _ (List.mem_of_getElem? (i := 18) rfl))) Via.refl e44 f49 f45 (Or.inl (hw _ (List.mem_of_getElem? (i := 19) rfl))) (hw _ (List.mem_of_getElem? (i := 2) rfl)) (ty := (.array (.array .byte))) (by decide) rfl rfl (g := (mkF m 23 #[rv a0_, iv (1 : Int32)] [(.ref b44), (.ref a0_)])) rfl rfl (hb hby d1_23)
  have Fw53 := f49.same W53
  have f54 := f46.other W53 (Or.inr (slot_ne (Or.inl (hw _ (List.mem_of_getElem? (i := 29) rfl))) (Or.inl (hw _ (List.mem_of_getElem? (i := 19) rfl))) (by decide) (t := .int) (t' := (.array (.array .byte))) (by decide) (by decide)))
  have f55 := f47.other W53 (Or.inr (slot_ne (Or.inr (hw _ (List.mem_of_getElem? (i := 12) rfl))) (Or.inl (hw _ (List.mem_of_getElem? (i := 19) rfl))) (by decide) (t := (.array .byte)) (t' := (.array (.array .byte))) (by decide) (by decide)))
  have f56 := f48.other W53 (Or.inr (slot_ne (Or.inr (hw _ (List.mem_of_getElem? (i := 15) rfl))) (Or.inl (hw _ (List.mem_of_getElem? (i := 19) rfl))) (by decide) (t := (.array .int)) (t' := (.array (.array .byte))) (by decide) (by decide)))
  have f57 := f50.other W53 (Or.inr (slot_ne (Or.inr (hw _ (List.mem_of_getElem? (i := 22) rfl))) (Or.inl (hw _ (List.mem_of_getElem? (i := 19) rfl))) (by decide) (t := (.array .long)) (t' := (.array (.array .byte))) (by decide) (by decide)))
  have f58 := f45.wr W53
  have f65 := f51.other W53 (Ne.symm ne_a0__b2)
  have f66 := f52.other W53 (Ne.symm ne_a0__b22)
  have f67 := V44.other W53 (Ne.symm ne_a0__b44)
  have N53 := Fr.snoc X53 N30 g0
  have Z53 : n0 ≤ h53.size := Nat.le_trans Z44 (Keep.of_wr W53).1
  have K53 : Keep h0 h53 [a0_] := K44.wr W53 (Or.inl (List.mem_of_getElem? (i := 0) rfl))
  obtain ⟨T68, h68, k68, X68, e68, E68, A68, st68⟩ := newP X53 hx hZ (hw _ (List.mem_of_getElem? (i := 20) rfl)) e53 (g := (mkF m 28 #[rv a0_, iv (1 : Int32)] [(.int (1 : Int32)), (.ref a0_)])) rfl (hb hby d1_28) rfl (by decide) (cap := 1) (by decide) (by decide) (by decide) (by decide)
  obtain ⟨b68, g68⟩ : ∃ z, z = h53.size := ⟨_, rfl⟩
  rw [← g68] at A68 st68
  have ge_b68 : n0 ≤ b68 := Nat.le_trans Z53 (Nat.le_of_eq g68.symm)
  have ne_a0__b68 : a0_ ≠ b68 := Nat.ne_of_lt (Nat.lt_of_lt_of_le (f58).lt (Nat.le_of_eq g68.symm))
  have ne_b2_b68 : b2 ≠ b68 := Nat.ne_of_lt (Nat.lt_of_lt_of_le (f65).lt (Nat.le_of_eq g68.symm))
  have ne_b22_b68 : b22 ≠ b68 := Nat.ne_of_lt (Nat.lt_of_lt_of_le (f66).lt (Nat.le_of_eq g68.symm))
  have ne_b44_b68 : b44 ≠ b68 := Nat.ne_of_lt (Nat.lt_of_lt_of_le (f67).lt (Nat.le_of_eq g68.symm))
  have f69 := f58.ext E68
  have f70 := f54.ext E68
  have f71 := f55.ext E68
  have f72 := f56.ext E68
  have f73 := Fw53.ext E68
  have f74 := f57.ext E68
  have f75 := f65.ext E68
  have f76 := f66.ext E68
  have f77 := f67.ext E68
  have V68 : Arv Z h68 b68 k68 .long (1 : Int32) [(.long (0 : Int64))] (.long (0 : Int64)) := (Arv.new A68 (by decide)).pad (pad_rep [] (.long (0 : Int64)) 1)
  have Z68 : n0 ≤ h68.size := Nat.le_trans Z53 E68.1
  have K68 : Keep h0 h68 [a0_] := K53.ext E68
  have sz_b68 : h0.size ≤ b68 := Nat.le_trans K53.1 (Nat.le_of_eq g68.symm)
  obtain ⟨T78, h78, X78, e78, W78, st78⟩ := putF X68 hx hZ hown (host := "") (Or.inl (hw _ (List.mem_of_getElem? (i := 21) rfl))) Via.refl e68 f74 f69 (Or.inr ⟨(hw _ (List.mem_of_getElem? (i := 22) rfl)), rfl, hnm⟩) (hw _ (List.mem_of_getElem? (i := 2) rfl)) (ty := (.array .long)) (by decide) rfl rfl (g := (mkF m 30 #[rv a0_, iv (1 : Int32)] [(.ref b68), (.ref a0_)])) rfl rfl (hb hby d1_30)
  have Fw78 := f74.same W78
  have f79 := f70.other W78 (Or.inr (slot_ne (Or.inl (hw _ (List.mem_of_getElem? (i := 29) rfl))) (Or.inr (hw _ (List.mem_of_getElem? (i := 22) rfl))) (by decide) (t := .int) (t' := (.array .long)) (by decide) (by decide)))
  have f80 := f71.other W78 (Or.inr (slot_ne (Or.inr (hw _ (List.mem_of_getElem? (i := 12) rfl))) (Or.inr (hw _ (List.mem_of_getElem? (i := 22) rfl))) (by decide) (t := (.array .byte)) (t' := (.array .long)) (by decide) (by decide)))
  have f81 := f72.other W78 (Or.inr (slot_ne (Or.inr (hw _ (List.mem_of_getElem? (i := 15) rfl))) (Or.inr (hw _ (List.mem_of_getElem? (i := 22) rfl))) (by decide) (t := (.array .int)) (t' := (.array .long)) (by decide) (by decide)))
  have f82 := f73.other W78 (Or.inr (slot_ne (Or.inl (hw _ (List.mem_of_getElem? (i := 19) rfl))) (Or.inr (hw _ (List.mem_of_getElem? (i := 22) rfl))) (by decide) (t := (.array (.array .byte))) (t' := (.array .long)) (by decide) (by decide)))
  have f83 := f69.wr W78
  have f90 := f75.other W78 (Ne.symm ne_a0__b2)
  have f91 := f76.other W78 (Ne.symm ne_a0__b22)
  have f92 := f77.other W78 (Ne.symm ne_a0__b44)
  have f93 := V68.other W78 (Ne.symm ne_a0__b68)
  have N78 := Fr.snoc X78 N53 g0
  have Z78 : n0 ≤ h78.size := Nat.le_trans Z68 (Keep.of_wr W78).1
  have K78 : Keep h0 h78 [a0_] := K68.wr W78 (Or.inl (List.mem_of_getElem? (i := 0) rfl))
  obtain ⟨fs, hr, hrun, hended, hW, hsame⟩ := X78.leave (v := none) (fun _ => rfl)
  refine ⟨_, _, S0 _ ?_, hrun, hended, _, _, rfl, ?_, ⟨_, rfl⟩, hW, hsame.mono (by decide) (by decide)⟩
  · skip
    show Steps p.tables e below (s₁.setTop (mkF m 0 #[rv a0_, iv (1 : Int32)] [])) _
    refine XS.aloadN X0.here hx rfl (hb hby d1_0) rfl rfl ?_
    show Steps p.tables e below (s₁.setTop (mkF m 1 #[rv a0_, iv (1 : Int32)] [(.ref a0_)])) _
    refine st1 _ ?_
    show Steps p.tables e below (T1.setTop (mkF m 4 #[rv a0_, iv (1 : Int32)] [])) _
    refine XS.aloadN X1.here hx rfl (hb hby d1_4) rfl rfl ?_
    show Steps p.tables e below (T1.setTop (mkF m 5 #[rv a0_, iv (1 : Int32)] [(.ref a0_)])) _
    refine XS.iloadN X1.here hx rfl (hb hby d1_5) rfl ?_
    show Steps p.tables e below (T1.setTop (mkF m 6 #[rv a0_, iv (1 : Int32)] [(.int (1 : Int32)), (.ref a0_)])) _
    refine st2 _ ?_
    show Steps p.tables e below (T2.setTop (mkF m 8 #[rv a0_, iv (1 : Int32)] [(.ref b2), (.ref a0_)])) _
    refine st9 _ ?_
    show Steps p.tables e below (T9.setTop (mkF m 11 #[rv a0_, iv (1 : Int32)] [])) _
    refine XS.aloadN X9.here hx rfl (hb hby d1_11) rfl rfl ?_
    show Steps p.tables e below (T9.setTop (mkF m 12 #[rv a0_, iv (1 : Int32)] [(.ref a0_)])) _
    refine XS.iloadN X9.here hx rfl (hb hby d1_12) rfl ?_
    show Steps p.tables e below (T9.setTop (mkF m 13 #[rv a0_, iv (1 : Int32)] [(.int (1 : Int32)), (.ref a0_)])) _
    refine st22 _ ?_
    show Steps p.tables e below (T22.setTop (mkF m 15 #[rv a0_, iv (1 : Int32)] [(.ref b22), (.ref a0_)])) _
    refine st30 _ ?_
    show Steps p.tables e below (T30.setTop (mkF m 18 #[rv a0_, iv (1 : Int32)] [])) _
    refine XS.aloadN X30.here hx rfl (hb hby d1_18) rfl rfl ?_
    show Steps p.tables e below (T30.setTop (mkF m 19 #[rv a0_, iv (1 : Int32)] [(.ref a0_)])) _
    refine XS.iloadN X30.here hx rfl (hb hby d1_19) rfl ?_
    show Steps p.tables e below (T30.setTop (mkF m 20 #[rv a0_, iv (1 : Int32)] [(.int (1 : Int32)), (.ref a0_)])) _
    refine st44 _ ?_
    show Steps p.tables e below (T44.setTop (mkF m 23 #[rv a0_, iv (1 : Int32)] [(.ref b44), (.ref a0_)])) _
    refine st53 _ ?_
    show Steps p.tables e below (T53.setTop (mkF m 26 #[rv a0_, iv (1 : Int32)] [])) _
    refine XS.aloadN X53.here hx rfl (hb hby d1_26) rfl rfl ?_
    show Steps p.tables e below (T53.setTop (mkF m 27 #[rv a0_, iv (1 : Int32)] [(.ref a0_)])) _
    refine XS.iloadN X53.here hx rfl (hb hby d1_27) rfl ?_
    show Steps p.tables e below (T53.setTop (mkF m 28 #[rv a0_, iv (1 : Int32)] [(.int (1 : Int32)), (.ref a0_)])) _
    refine st68 _ ?_
    show Steps p.tables e below (T68.setTop (mkF m 30 #[rv a0_, iv (1 : Int32)] [(.ref b68), (.ref a0_)])) _
    refine st78 _ ?_
    show Steps p.tables e below (T78.setTop (mkF m 33 #[rv a0_, iv (1 : Int32)] [])) _
    exact X78.returnOut hx Bd.returns (hb hby d1_33) hr
  · show QI1 Z a0_ h0 n0 _ T78.heap _
    rw [e78]
    exact ⟨rfl, N78, Z78, K78, ⟨f83, f79, ⟨by decide, by decide, by decide, by decide⟩, b2, b22, b44, b68, _, _, _, _, ⟨ge_b2, ge_b22, ge_b44, ge_b68⟩, ⟨ne_a0__b2, ne_a0__b22, ne_a0__b44, ne_a0__b68⟩, ⟨ne_b2_b22, ne_b2_b44, ne_b2_b68, ne_b22_b44, ne_b22_b68, ne_b44_b68⟩, O44, f80, f81, f82, Fw78, f90, f91, f92, f93⟩⟩
def QI2 (Z : State) (a0_ : Addr)  (h0 : Heap) (n0 : Nat) (v : Option Value) (h : Heap) (L : List Loc) : Prop := v = none ∧ Fr n0 L ∧ n0 ≤ h.size ∧ Keep h0 h [a0_] ∧ own_N Z h n0 a0_ (2 : Int32) (0 : Int32) [0, 0] [0, 0] [.null, .null] [0, 0]
theorem ef_rmI2 (m : MethodId) (a0_ : Addr) : entryFrame m #[(.ref a0_), (.int (2 : Int32))] 2 = mkF m 0 #[rv a0_, iv (2 : Int32)] [] := by first | (simp [entryFrame, mkF, argsToLocals, Value.category]; done) | rfl
set_option maxRecDepth 65536 in
set_option maxHeartbeats 40000000 in
theorem rmI2 (l : Launch) (Z : State) (a0 : Array Value) (hw : ∀ d ∈ tables_1, d.before a0 Z = true) (ws : List Jvm.Cond) (a0_ : Addr)  (h0 : Heap) (n0 : Nat) (Z0 : n0 ≤ h0.size) (E1 : Exa Z h0 a0_ "com/example/agouti/agouti/store/IndexBuilder$Notes") (Fc : Fld Z h0 a0_ "com/example/agouti/agouti/store/IndexBuilder$Notes" "count" "I" (.int (0 : Int32))) (Fi0 : Fld Z h0 a0_ "com/example/agouti/agouti/store/IndexBuilder$Notes" "kinds" "[B" .null) (Fi1 : Fld Z h0 a0_ "com/example/agouti/agouti/store/IndexBuilder$Notes" "nodes" "[I" .null) (Fi2 : Fld Z h0 a0_ "com/example/agouti/agouti/store/IndexBuilder$Notes" "values" "[[B" .null) (Fi3 : Fld Z h0 a0_ "com/example/agouti/agouti/store/IndexBuilder$Notes" "hashes" "[J" .null) (g0 : n0 ≤ a0_) :
    MetFree l (⟨"com/example/agouti/agouti/store/IndexBuilder$Notes", "<init>", "(I)V"⟩ : MethodName) (head1 (Jvm.Cond.code (⟨"com/example/agouti/agouti/store/IndexBuilder$Notes", "<init>", "(I)V"⟩ : MethodName) prog_134_method_1_code 2 none :: ws) ({ frames := 1, cells := 4, slots := 8, locals := 12 } : Room)) (fun a U => a = #[(.ref a0_), (.int (2 : Int32))] ∧ Z.Warmed39 U.vm ∧ U.heap = h0) (fun _ _ _ _ _ => True) (fun _ U o U' => ∃ v L, o = .returned v ∧ QI2 Z a0_ h0 n0 v U'.heap L ∧ FrameEnd U o U' L ({ frames := 1, cells := 4, slots := 8, locals := 12 } : Room).cells ({ frames := 1, cells := 4, slots := 8, locals := 12 } : Room).slots) := by
  refine MetFree.of_bodySF (plainFor_of_name pn_0) hisR ?_
  intro p e s m args below meth c s₁ Bd hml0 hP hK
  obtain ⟨rfl, hZ, hh⟩ := hP
  have hx := Bd.exec
  have hby := Bd.bytes
  have hml : c.maxLocals = 2 := hml0
  have hown : s.vm.findClass "com/example/agouti/agouti/store/IndexBuilder$Notes" = some m.cls := findClass_of_methodNamed Bd.named
  have hnm := (name_of_methodNamed Bd.named Bd.method).1
  have X0 : Stand p l e ({ frames := 1, cells := 4, slots := 8, locals := 12 } : Room) s m #[(.ref a0_), (.int (2 : Int32))] below meth c s₁ [] 0 0 := Stand.of_body Bd
  have e0 : s₁.heap = h0 := by rw [← hh, Bd.state]; rfl
  have N0 := Fr.nil n0
  have S0 : ∀ t, Steps p.tables e below (s₁.setTop (mkF m 0 #[rv a0_, iv (2 : Int32)] [])) t → Steps p.tables e below (s₁.setTop (entryFrame m #[(.ref a0_), (.int (2 : Int32))] 2)) t := fun t k => castTop (ef_rmI2 m a0_) k
  have K0 : Keep h0 h0 [a0_] := Keep.refl _ _
  obtain ⟨T1, X1, e1, st1⟩ := initO X0 hx hZ hown (hw _ (List.mem_of_getElem? (i := 7) rfl)) (hw _ (List.mem_of_getElem? (i := 8) rfl)) (hw _ (List.mem_of_getElem? (i := 9) rfl)) e0 (g := (mkF m 1 #[rv a0_, iv (2 : Int32)] [(.ref a0_)])) rfl (by rw [hml]; rfl) rfl (hb hby d1_1) (by decide) (W := 0) (by show 2 * 0 + _ ≤ _; exact Nat.le_of_eq rfl) (by decide)
  obtain ⟨T2, h2, k2, X2, e2, E2, A2, st2⟩ := newP X1 hx hZ (hw _ (List.mem_of_getElem? (i := 10) rfl)) e1 (g := (mkF m 6 #[rv a0_, iv (2 : Int32)] [(.int (2 : Int32)), (.ref a0_)])) rfl (hb hby d1_6) rfl (by decide) (cap := 2) (by decide) (by decide) (by decide) (by decide)
  obtain ⟨b2, g2⟩ : ∃ z, z = h0.size := ⟨_, rfl⟩
  rw [← g2] at A2 st2
  have ge_b2 : n0 ≤ b2 := Nat.le_trans Z0 (Nat.le_of_eq g2.symm)
  have ne_a0__b2 : a0_ ≠ b2 := Nat.ne_of_lt (Nat.lt_of_lt_of_le (E1).lt (Nat.le_of_eq g2.symm))
  have f3 := E1.ext E2
  have f4 := Fc.ext E2
  have f5 := Fi0.ext E2
  have f6 := Fi1.ext E2
  have f7 := Fi2.ext E2
  have f8 := Fi3.ext E2
  have V2 : Arv Z h2 b2 k2 .byte (2 : Int32) [(.int (0 : Int32)), (.int (0 : Int32))] (.int (0 : Int32)) := (Arv.new A2 (by decide)).pad (pad_rep [] (.int (0 : Int32)) 2)
  have Z2 : n0 ≤ h2.size := Nat.le_trans Z0 E2.1
  have K2 : Keep h0 h2 [a0_] := K0.ext E2
  have sz_b2 : h0.size ≤ b2 := Nat.le_trans K0.1 (Nat.le_of_eq g2.symm)
  obtain ⟨T9, h9, X9, e9, W9, st9⟩ := putF X2 hx hZ hown (host := "") (Or.inl (hw _ (List.mem_of_getElem? (i := 11) rfl))) Via.refl e2 f5 f3 (Or.inr ⟨(hw _ (List.mem_of_getElem? (i := 12) rfl)), rfl, hnm⟩) (hw _ (List.mem_of_getElem? (i := 2) rfl)) (ty := (.array .byte)) (by decide) rfl rfl (g := (mkF m 8 #[rv a0_, iv (2 : Int32)] [(.ref b2), (.ref a0_)])) rfl rfl (hb hby d1_8)
  have Fw9 := f5.same W9
  have f10 := f4.other W9 (Or.inr (slot_ne (Or.inl (hw _ (List.mem_of_getElem? (i := 29) rfl))) (Or.inr (hw _ (List.mem_of_getElem? (i := 12) rfl))) (by decide) (t := .int) (t' := (.array .byte)) (by decide) (by decide)))
  have f11 := f6.other W9 (Or.inr (slot_ne (Or.inr (hw _ (List.mem_of_getElem? (i := 15) rfl))) (Or.inr (hw _ (List.mem_of_getElem? (i := 12) rfl))) (by decide) (t := (.array .int)) (t' := (.array .byte)) (by decide) (by decide)))
  have f12 := f7.other W9 (Or.inr (slot_ne (Or.inl (hw _ (List.mem_of_getElem? (i := 19) rfl))) (Or.inr (hw _ (List.mem_of_getElem? (i := 12) rfl))) (by decide) (t := (.array (.array .byte))) (t' := (.array .byte)) (by decide) (by decide)))
  have f13 := f8.other W9 (Or.inr (slot_ne (Or.inr (hw _ (List.mem_of_getElem? (i := 22) rfl))) (Or.inr (hw _ (List.mem_of_getElem? (i := 12) rfl))) (by decide) (t := (.array .long)) (t' := (.array .byte)) (by decide) (by decide)))
  have f14 := f3.wr W9
  have f21 := V2.other W9 (Ne.symm ne_a0__b2)
  have N9 := Fr.snoc X9 N0 g0
  have Z9 : n0 ≤ h9.size := Nat.le_trans Z2 (Keep.of_wr W9).1
  have K9 : Keep h0 h9 [a0_] := K2.wr W9 (Or.inl (List.mem_of_getElem? (i := 0) rfl))
  obtain ⟨T22, h22, k22, X22, e22, E22, A22, st22⟩ := newP X9 hx hZ (hw _ (List.mem_of_getElem? (i := 13) rfl)) e9 (g := (mkF m 13 #[rv a0_, iv (2 : Int32)] [(.int (2 : Int32)), (.ref a0_)])) rfl (hb hby d1_13) rfl (by decide) (cap := 2) (by decide) (by decide) (by decide) (by decide)
  obtain ⟨b22, g22⟩ : ∃ z, z = h9.size := ⟨_, rfl⟩
  rw [← g22] at A22 st22
  have ge_b22 : n0 ≤ b22 := Nat.le_trans Z9 (Nat.le_of_eq g22.symm)
  have ne_a0__b22 : a0_ ≠ b22 := Nat.ne_of_lt (Nat.lt_of_lt_of_le (f14).lt (Nat.le_of_eq g22.symm))
  have ne_b2_b22 : b2 ≠ b22 := Nat.ne_of_lt (Nat.lt_of_lt_of_le (f21).lt (Nat.le_of_eq g22.symm))
  have f23 := f14.ext E22
  have f24 := f10.ext E22
  have f25 := Fw9.ext E22
  have f26 := f11.ext E22
  have f27 := f12.ext E22
  have f28 := f13.ext E22
  have f29 := f21.ext E22
  have V22 : Arv Z h22 b22 k22 .int (2 : Int32) [(.int (0 : Int32)), (.int (0 : Int32))] (.int (0 : Int32)) := (Arv.new A22 (by decide)).pad (pad_rep [] (.int (0 : Int32)) 2)
  have Z22 : n0 ≤ h22.size := Nat.le_trans Z9 E22.1
  have K22 : Keep h0 h22 [a0_] := K9.ext E22
  have sz_b22 : h0.size ≤ b22 := Nat.le_trans K9.1 (Nat.le_of_eq g22.symm)
  obtain ⟨T30, h30, X30, e30, W30, st30⟩ := putF X22 hx hZ hown (host := "") (Or.inl (hw _ (List.mem_of_getElem? (i := 14) rfl))) Via.refl e22 f26 f23 (Or.inr ⟨(hw _ (List.mem_of_getElem? (i := 15) rfl)), rfl, hnm⟩) (hw _ (List.mem_of_getElem? (i := 2) rfl)) (ty := (.array .int)) (by decide) rfl rfl (g := (mkF m 15 #[rv a0_, iv (2 : Int32)] [(.ref b22), (.ref a0_)])) rfl rfl (hb hby d1_15)
  have Fw30 := f26.same W30
  have f31 := f24.other W30 (Or.inr (slot_ne (Or.inl (hw _ (List.mem_of_getElem? (i := 29) rfl))) (Or.inr (hw _ (List.mem_of_getElem? (i := 15) rfl))) (by decide) (t := .int) (t' := (.array .int)) (by decide) (by decide)))
  have f32 := f25.other W30 (Or.inr (slot_ne (Or.inr (hw _ (List.mem_of_getElem? (i := 12) rfl))) (Or.inr (hw _ (List.mem_of_getElem? (i := 15) rfl))) (by decide) (t := (.array .byte)) (t' := (.array .int)) (by decide) (by decide)))
  have f33 := f27.other W30 (Or.inr (slot_ne (Or.inl (hw _ (List.mem_of_getElem? (i := 19) rfl))) (Or.inr (hw _ (List.mem_of_getElem? (i := 15) rfl))) (by decide) (t := (.array (.array .byte))) (t' := (.array .int)) (by decide) (by decide)))
  have f34 := f28.other W30 (Or.inr (slot_ne (Or.inr (hw _ (List.mem_of_getElem? (i := 22) rfl))) (Or.inr (hw _ (List.mem_of_getElem? (i := 15) rfl))) (by decide) (t := (.array .long)) (t' := (.array .int)) (by decide) (by decide)))
  have f35 := f23.wr W30
  have f42 := f29.other W30 (Ne.symm ne_a0__b2)
  have f43 := V22.other W30 (Ne.symm ne_a0__b22)
  have N30 := Fr.snoc X30 N9 g0
  have Z30 : n0 ≤ h30.size := Nat.le_trans Z22 (Keep.of_wr W30).1
  have K30 : Keep h0 h30 [a0_] := K22.wr W30 (Or.inl (List.mem_of_getElem? (i := 0) rfl))
  obtain ⟨T44, h44, k44, X44, e44, E44, A44, Ea44, O44, st44⟩ := newRA X30 hx hZ hown (by decide) (hw _ (List.mem_of_getElem? (i := 16) rfl)) (hw _ (List.mem_of_getElem? (i := 17) rfl)) e30 (g := (mkF m 20 #[rv a0_, iv (2 : Int32)] [(.int (2 : Int32)), (.ref a0_)])) rfl (hb hby d1_20) rfl (by decide) (cap := 2) (by decide) (by decide) (by decide) (by decide) (ad := "[[B") (by decide)
  obtain ⟨b44, g44⟩ : ∃ z, z = h30.size := ⟨_, rfl⟩
  rw [← g44] at A44 st44
  have ge_b44 : n0 ≤ b44 := Nat.le_trans Z30 (Nat.le_of_eq g44.symm)
  have ne_a0__b44 : a0_ ≠ b44 := Nat.ne_of_lt (Nat.lt_of_lt_of_le (f35).lt (Nat.le_of_eq g44.symm))
  have ne_b2_b44 : b2 ≠ b44 := Nat.ne_of_lt (Nat.lt_of_lt_of_le (f42).lt (Nat.le_of_eq g44.symm))
  have ne_b22_b44 : b22 ≠ b44 := Nat.ne_of_lt (Nat.lt_of_lt_of_le (f43).lt (Nat.le_of_eq g44.symm))
  have f45 := f35.ext E44
  have f46 := f31.ext E44
  have f47 := f32.ext E44
  have f48 := Fw30.ext E44
  have f49 := f33.ext E44
  have f50 := f34.ext E44
  have f51 := f42.ext E44
  have f52 := f43.ext E44
  have V44 : Arv Z h44 b44 k44 (.array .byte) (2 : Int32) [.null, .null] .null := (Arv.new A44 (by decide)).pad (pad_rep [] .null 2)
  have Z44 : n0 ≤ h44.size := Nat.le_trans Z30 E44.1
  have K44 : Keep h0 h44 [a0_] := K30.ext E44
  have sz_b44 : h0.size ≤ b44 := Nat.le_trans K30.1 (Nat.le_of_eq g44.symm)
  obtain ⟨T53, h53, X53, e53, W53, st53⟩ := putF X44 hx hZ hown (host := "") (Or.inl (hw _ (List.mem_of_getElem? (i := 18) rfl))) Via.refl e44 f49 f45 (Or.inl (hw _ (List.mem_of_getElem? (i := 19) rfl))) (hw _ (List.mem_of_getElem? (i := 2) rfl)) (ty := (.array (.array .byte))) (by decide) rfl rfl (g := (mkF m 23 #[rv a0_, iv (2 : Int32)] [(.ref b44), (.ref a0_)])) rfl rfl (hb hby d1_23)
  have Fw53 := f49.same W53
  have f54 := f46.other W53 (Or.inr (slot_ne (Or.inl (hw _ (List.mem_of_getElem? (i := 29) rfl))) (Or.inl (hw _ (List.mem_of_getElem? (i := 19) rfl))) (by decide) (t := .int) (t' := (.array (.array .byte))) (by decide) (by decide)))
  have f55 := f47.other W53 (Or.inr (slot_ne (Or.inr (hw _ (List.mem_of_getElem? (i := 12) rfl))) (Or.inl (hw _ (List.mem_of_getElem? (i := 19) rfl))) (by decide) (t := (.array .byte)) (t' := (.array (.array .byte))) (by decide) (by decide)))
  have f56 := f48.other W53 (Or.inr (slot_ne (Or.inr (hw _ (List.mem_of_getElem? (i := 15) rfl))) (Or.inl (hw _ (List.mem_of_getElem? (i := 19) rfl))) (by decide) (t := (.array .int)) (t' := (.array (.array .byte))) (by decide) (by decide)))
  have f57 := f50.other W53 (Or.inr (slot_ne (Or.inr (hw _ (List.mem_of_getElem? (i := 22) rfl))) (Or.inl (hw _ (List.mem_of_getElem? (i := 19) rfl))) (by decide) (t := (.array .long)) (t' := (.array (.array .byte))) (by decide) (by decide)))
  have f58 := f45.wr W53
  have f65 := f51.other W53 (Ne.symm ne_a0__b2)
  have f66 := f52.other W53 (Ne.symm ne_a0__b22)
  have f67 := V44.other W53 (Ne.symm ne_a0__b44)
  have N53 := Fr.snoc X53 N30 g0
  have Z53 : n0 ≤ h53.size := Nat.le_trans Z44 (Keep.of_wr W53).1
  have K53 : Keep h0 h53 [a0_] := K44.wr W53 (Or.inl (List.mem_of_getElem? (i := 0) rfl))
  obtain ⟨T68, h68, k68, X68, e68, E68, A68, st68⟩ := newP X53 hx hZ (hw _ (List.mem_of_getElem? (i := 20) rfl)) e53 (g := (mkF m 28 #[rv a0_, iv (2 : Int32)] [(.int (2 : Int32)), (.ref a0_)])) rfl (hb hby d1_28) rfl (by decide) (cap := 2) (by decide) (by decide) (by decide) (by decide)
  obtain ⟨b68, g68⟩ : ∃ z, z = h53.size := ⟨_, rfl⟩
  rw [← g68] at A68 st68
  have ge_b68 : n0 ≤ b68 := Nat.le_trans Z53 (Nat.le_of_eq g68.symm)
  have ne_a0__b68 : a0_ ≠ b68 := Nat.ne_of_lt (Nat.lt_of_lt_of_le (f58).lt (Nat.le_of_eq g68.symm))
  have ne_b2_b68 : b2 ≠ b68 := Nat.ne_of_lt (Nat.lt_of_lt_of_le (f65).lt (Nat.le_of_eq g68.symm))
  have ne_b22_b68 : b22 ≠ b68 := Nat.ne_of_lt (Nat.lt_of_lt_of_le (f66).lt (Nat.le_of_eq g68.symm))
  have ne_b44_b68 : b44 ≠ b68 := Nat.ne_of_lt (Nat.lt_of_lt_of_le (f67).lt (Nat.le_of_eq g68.symm))
  have f69 := f58.ext E68
  have f70 := f54.ext E68
  have f71 := f55.ext E68
  have f72 := f56.ext E68
  have f73 := Fw53.ext E68
  have f74 := f57.ext E68
  have f75 := f65.ext E68
  have f76 := f66.ext E68
  have f77 := f67.ext E68
  have V68 : Arv Z h68 b68 k68 .long (2 : Int32) [(.long (0 : Int64)), (.long (0 : Int64))] (.long (0 : Int64)) := (Arv.new A68 (by decide)).pad (pad_rep [] (.long (0 : Int64)) 2)
  have Z68 : n0 ≤ h68.size := Nat.le_trans Z53 E68.1
  have K68 : Keep h0 h68 [a0_] := K53.ext E68
  have sz_b68 : h0.size ≤ b68 := Nat.le_trans K53.1 (Nat.le_of_eq g68.symm)
  obtain ⟨T78, h78, X78, e78, W78, st78⟩ := putF X68 hx hZ hown (host := "") (Or.inl (hw _ (List.mem_of_getElem? (i := 21) rfl))) Via.refl e68 f74 f69 (Or.inr ⟨(hw _ (List.mem_of_getElem? (i := 22) rfl)), rfl, hnm⟩) (hw _ (List.mem_of_getElem? (i := 2) rfl)) (ty := (.array .long)) (by decide) rfl rfl (g := (mkF m 30 #[rv a0_, iv (2 : Int32)] [(.ref b68), (.ref a0_)])) rfl rfl (hb hby d1_30)
  have Fw78 := f74.same W78
  have f79 := f70.other W78 (Or.inr (slot_ne (Or.inl (hw _ (List.mem_of_getElem? (i := 29) rfl))) (Or.inr (hw _ (List.mem_of_getElem? (i := 22) rfl))) (by decide) (t := .int) (t' := (.array .long)) (by decide) (by decide)))
  have f80 := f71.other W78 (Or.inr (slot_ne (Or.inr (hw _ (List.mem_of_getElem? (i := 12) rfl))) (Or.inr (hw _ (List.mem_of_getElem? (i := 22) rfl))) (by decide) (t := (.array .byte)) (t' := (.array .long)) (by decide) (by decide)))
  have f81 := f72.other W78 (Or.inr (slot_ne (Or.inr (hw _ (List.mem_of_getElem? (i := 15) rfl))) (Or.inr (hw _ (List.mem_of_getElem? (i := 22) rfl))) (by decide) (t := (.array .int)) (t' := (.array .long)) (by decide) (by decide)))
  have f82 := f73.other W78 (Or.inr (slot_ne (Or.inl (hw _ (List.mem_of_getElem? (i := 19) rfl))) (Or.inr (hw _ (List.mem_of_getElem? (i := 22) rfl))) (by decide) (t := (.array (.array .byte))) (t' := (.array .long)) (by decide) (by decide)))
  have f83 := f69.wr W78
  have f90 := f75.other W78 (Ne.symm ne_a0__b2)
  have f91 := f76.other W78 (Ne.symm ne_a0__b22)
  have f92 := f77.other W78 (Ne.symm ne_a0__b44)
  have f93 := V68.other W78 (Ne.symm ne_a0__b68)
  have N78 := Fr.snoc X78 N53 g0
  have Z78 : n0 ≤ h78.size := Nat.le_trans Z68 (Keep.of_wr W78).1
  have K78 : Keep h0 h78 [a0_] := K68.wr W78 (Or.inl (List.mem_of_getElem? (i := 0) rfl))
  obtain ⟨fs, hr, hrun, hended, hW, hsame⟩ := X78.leave (v := none) (fun _ => rfl)
  refine ⟨_, _, S0 _ ?_, hrun, hended, _, _, rfl, ?_, ⟨_, rfl⟩, hW, hsame.mono (by decide) (by decide)⟩
  · skip
    show Steps p.tables e below (s₁.setTop (mkF m 0 #[rv a0_, iv (2 : Int32)] [])) _
    refine XS.aloadN X0.here hx rfl (hb hby d1_0) rfl rfl ?_
    show Steps p.tables e below (s₁.setTop (mkF m 1 #[rv a0_, iv (2 : Int32)] [(.ref a0_)])) _
    refine st1 _ ?_
    show Steps p.tables e below (T1.setTop (mkF m 4 #[rv a0_, iv (2 : Int32)] [])) _
    refine XS.aloadN X1.here hx rfl (hb hby d1_4) rfl rfl ?_
    show Steps p.tables e below (T1.setTop (mkF m 5 #[rv a0_, iv (2 : Int32)] [(.ref a0_)])) _
    refine XS.iloadN X1.here hx rfl (hb hby d1_5) rfl ?_
    show Steps p.tables e below (T1.setTop (mkF m 6 #[rv a0_, iv (2 : Int32)] [(.int (2 : Int32)), (.ref a0_)])) _
    refine st2 _ ?_
    show Steps p.tables e below (T2.setTop (mkF m 8 #[rv a0_, iv (2 : Int32)] [(.ref b2), (.ref a0_)])) _
    refine st9 _ ?_
    show Steps p.tables e below (T9.setTop (mkF m 11 #[rv a0_, iv (2 : Int32)] [])) _
    refine XS.aloadN X9.here hx rfl (hb hby d1_11) rfl rfl ?_
    show Steps p.tables e below (T9.setTop (mkF m 12 #[rv a0_, iv (2 : Int32)] [(.ref a0_)])) _
    refine XS.iloadN X9.here hx rfl (hb hby d1_12) rfl ?_
    show Steps p.tables e below (T9.setTop (mkF m 13 #[rv a0_, iv (2 : Int32)] [(.int (2 : Int32)), (.ref a0_)])) _
    refine st22 _ ?_
    show Steps p.tables e below (T22.setTop (mkF m 15 #[rv a0_, iv (2 : Int32)] [(.ref b22), (.ref a0_)])) _
    refine st30 _ ?_
    show Steps p.tables e below (T30.setTop (mkF m 18 #[rv a0_, iv (2 : Int32)] [])) _
    refine XS.aloadN X30.here hx rfl (hb hby d1_18) rfl rfl ?_
    show Steps p.tables e below (T30.setTop (mkF m 19 #[rv a0_, iv (2 : Int32)] [(.ref a0_)])) _
    refine XS.iloadN X30.here hx rfl (hb hby d1_19) rfl ?_
    show Steps p.tables e below (T30.setTop (mkF m 20 #[rv a0_, iv (2 : Int32)] [(.int (2 : Int32)), (.ref a0_)])) _
    refine st44 _ ?_
    show Steps p.tables e below (T44.setTop (mkF m 23 #[rv a0_, iv (2 : Int32)] [(.ref b44), (.ref a0_)])) _
    refine st53 _ ?_
    show Steps p.tables e below (T53.setTop (mkF m 26 #[rv a0_, iv (2 : Int32)] [])) _
    refine XS.aloadN X53.here hx rfl (hb hby d1_26) rfl rfl ?_
    show Steps p.tables e below (T53.setTop (mkF m 27 #[rv a0_, iv (2 : Int32)] [(.ref a0_)])) _
    refine XS.iloadN X53.here hx rfl (hb hby d1_27) rfl ?_
    show Steps p.tables e below (T53.setTop (mkF m 28 #[rv a0_, iv (2 : Int32)] [(.int (2 : Int32)), (.ref a0_)])) _
    refine st68 _ ?_
    show Steps p.tables e below (T68.setTop (mkF m 30 #[rv a0_, iv (2 : Int32)] [(.ref b68), (.ref a0_)])) _
    refine st78 _ ?_
    show Steps p.tables e below (T78.setTop (mkF m 33 #[rv a0_, iv (2 : Int32)] [])) _
    exact X78.returnOut hx Bd.returns (hb hby d1_33) hr
  · show QI2 Z a0_ h0 n0 _ T78.heap _
    rw [e78]
    exact ⟨rfl, N78, Z78, K78, ⟨f83, f79, ⟨by decide, by decide, by decide, by decide⟩, b2, b22, b44, b68, _, _, _, _, ⟨ge_b2, ge_b22, ge_b44, ge_b68⟩, ⟨ne_a0__b2, ne_a0__b22, ne_a0__b44, ne_a0__b68⟩, ⟨ne_b2_b22, ne_b2_b44, ne_b2_b68, ne_b22_b44, ne_b22_b68, ne_b44_b68⟩, O44, f80, f81, f82, Fw78, f90, f91, f92, f93⟩⟩
def QI3 (Z : State) (a0_ : Addr)  (h0 : Heap) (n0 : Nat) (v : Option Value) (h : Heap) (L : List Loc) : Prop := v = none ∧ Fr n0 L ∧ n0 ≤ h.size ∧ Keep h0 h [a0_] ∧ own_N Z h n0 a0_ (3 : Int32) (0 : Int32) [0, 0, 0] [0, 0, 0] [.null, .null, .null] [0, 0, 0]
theorem ef_rmI3 (m : MethodId) (a0_ : Addr) : entryFrame m #[(.ref a0_), (.int (3 : Int32))] 2 = mkF m 0 #[rv a0_, iv (3 : Int32)] [] := by first | (simp [entryFrame, mkF, argsToLocals, Value.category]; done) | rfl
set_option maxRecDepth 65536 in
set_option maxHeartbeats 40000000 in
theorem rmI3 (l : Launch) (Z : State) (a0 : Array Value) (hw : ∀ d ∈ tables_1, d.before a0 Z = true) (ws : List Jvm.Cond) (a0_ : Addr)  (h0 : Heap) (n0 : Nat) (Z0 : n0 ≤ h0.size) (E1 : Exa Z h0 a0_ "com/example/agouti/agouti/store/IndexBuilder$Notes") (Fc : Fld Z h0 a0_ "com/example/agouti/agouti/store/IndexBuilder$Notes" "count" "I" (.int (0 : Int32))) (Fi0 : Fld Z h0 a0_ "com/example/agouti/agouti/store/IndexBuilder$Notes" "kinds" "[B" .null) (Fi1 : Fld Z h0 a0_ "com/example/agouti/agouti/store/IndexBuilder$Notes" "nodes" "[I" .null) (Fi2 : Fld Z h0 a0_ "com/example/agouti/agouti/store/IndexBuilder$Notes" "values" "[[B" .null) (Fi3 : Fld Z h0 a0_ "com/example/agouti/agouti/store/IndexBuilder$Notes" "hashes" "[J" .null) (g0 : n0 ≤ a0_) :
    MetFree l (⟨"com/example/agouti/agouti/store/IndexBuilder$Notes", "<init>", "(I)V"⟩ : MethodName) (head1 (Jvm.Cond.code (⟨"com/example/agouti/agouti/store/IndexBuilder$Notes", "<init>", "(I)V"⟩ : MethodName) prog_134_method_1_code 2 none :: ws) ({ frames := 1, cells := 4, slots := 12, locals := 12 } : Room)) (fun a U => a = #[(.ref a0_), (.int (3 : Int32))] ∧ Z.Warmed39 U.vm ∧ U.heap = h0) (fun _ _ _ _ _ => True) (fun _ U o U' => ∃ v L, o = .returned v ∧ QI3 Z a0_ h0 n0 v U'.heap L ∧ FrameEnd U o U' L ({ frames := 1, cells := 4, slots := 12, locals := 12 } : Room).cells ({ frames := 1, cells := 4, slots := 12, locals := 12 } : Room).slots) := by
  refine MetFree.of_bodySF (plainFor_of_name pn_0) hisR ?_
  intro p e s m args below meth c s₁ Bd hml0 hP hK
  obtain ⟨rfl, hZ, hh⟩ := hP
  have hx := Bd.exec
  have hby := Bd.bytes
  have hml : c.maxLocals = 2 := hml0
  have hown : s.vm.findClass "com/example/agouti/agouti/store/IndexBuilder$Notes" = some m.cls := findClass_of_methodNamed Bd.named
  have hnm := (name_of_methodNamed Bd.named Bd.method).1
  have X0 : Stand p l e ({ frames := 1, cells := 4, slots := 12, locals := 12 } : Room) s m #[(.ref a0_), (.int (3 : Int32))] below meth c s₁ [] 0 0 := Stand.of_body Bd
  have e0 : s₁.heap = h0 := by rw [← hh, Bd.state]; rfl
  have N0 := Fr.nil n0
  have S0 : ∀ t, Steps p.tables e below (s₁.setTop (mkF m 0 #[rv a0_, iv (3 : Int32)] [])) t → Steps p.tables e below (s₁.setTop (entryFrame m #[(.ref a0_), (.int (3 : Int32))] 2)) t := fun t k => castTop (ef_rmI3 m a0_) k
  have K0 : Keep h0 h0 [a0_] := Keep.refl _ _
  obtain ⟨T1, X1, e1, st1⟩ := initO X0 hx hZ hown (hw _ (List.mem_of_getElem? (i := 7) rfl)) (hw _ (List.mem_of_getElem? (i := 8) rfl)) (hw _ (List.mem_of_getElem? (i := 9) rfl)) e0 (g := (mkF m 1 #[rv a0_, iv (3 : Int32)] [(.ref a0_)])) rfl (by rw [hml]; rfl) rfl (hb hby d1_1) (by decide) (W := 0) (by show 2 * 0 + _ ≤ _; exact Nat.le_of_eq rfl) (by decide)
  obtain ⟨T2, h2, k2, X2, e2, E2, A2, st2⟩ := newP X1 hx hZ (hw _ (List.mem_of_getElem? (i := 10) rfl)) e1 (g := (mkF m 6 #[rv a0_, iv (3 : Int32)] [(.int (3 : Int32)), (.ref a0_)])) rfl (hb hby d1_6) rfl (by decide) (cap := 3) (by decide) (by decide) (by decide) (by decide)
  obtain ⟨b2, g2⟩ : ∃ z, z = h0.size := ⟨_, rfl⟩
  rw [← g2] at A2 st2
  have ge_b2 : n0 ≤ b2 := Nat.le_trans Z0 (Nat.le_of_eq g2.symm)
  have ne_a0__b2 : a0_ ≠ b2 := Nat.ne_of_lt (Nat.lt_of_lt_of_le (E1).lt (Nat.le_of_eq g2.symm))
  have f3 := E1.ext E2
  have f4 := Fc.ext E2
  have f5 := Fi0.ext E2
  have f6 := Fi1.ext E2
  have f7 := Fi2.ext E2
  have f8 := Fi3.ext E2
  have V2 : Arv Z h2 b2 k2 .byte (3 : Int32) [(.int (0 : Int32)), (.int (0 : Int32)), (.int (0 : Int32))] (.int (0 : Int32)) := (Arv.new A2 (by decide)).pad (pad_rep [] (.int (0 : Int32)) 3)
  have Z2 : n0 ≤ h2.size := Nat.le_trans Z0 E2.1
  have K2 : Keep h0 h2 [a0_] := K0.ext E2
  have sz_b2 : h0.size ≤ b2 := Nat.le_trans K0.1 (Nat.le_of_eq g2.symm)
  obtain ⟨T9, h9, X9, e9, W9, st9⟩ := putF X2 hx hZ hown (host := "") (Or.inl (hw _ (List.mem_of_getElem? (i := 11) rfl))) Via.refl e2 f5 f3 (Or.inr ⟨(hw _ (List.mem_of_getElem? (i := 12) rfl)), rfl, hnm⟩) (hw _ (List.mem_of_getElem? (i := 2) rfl)) (ty := (.array .byte)) (by decide) rfl rfl (g := (mkF m 8 #[rv a0_, iv (3 : Int32)] [(.ref b2), (.ref a0_)])) rfl rfl (hb hby d1_8)
  have Fw9 := f5.same W9
  have f10 := f4.other W9 (Or.inr (slot_ne (Or.inl (hw _ (List.mem_of_getElem? (i := 29) rfl))) (Or.inr (hw _ (List.mem_of_getElem? (i := 12) rfl))) (by decide) (t := .int) (t' := (.array .byte)) (by decide) (by decide)))
  have f11 := f6.other W9 (Or.inr (slot_ne (Or.inr (hw _ (List.mem_of_getElem? (i := 15) rfl))) (Or.inr (hw _ (List.mem_of_getElem? (i := 12) rfl))) (by decide) (t := (.array .int)) (t' := (.array .byte)) (by decide) (by decide)))
  have f12 := f7.other W9 (Or.inr (slot_ne (Or.inl (hw _ (List.mem_of_getElem? (i := 19) rfl))) (Or.inr (hw _ (List.mem_of_getElem? (i := 12) rfl))) (by decide) (t := (.array (.array .byte))) (t' := (.array .byte)) (by decide) (by decide)))
  have f13 := f8.other W9 (Or.inr (slot_ne (Or.inr (hw _ (List.mem_of_getElem? (i := 22) rfl))) (Or.inr (hw _ (List.mem_of_getElem? (i := 12) rfl))) (by decide) (t := (.array .long)) (t' := (.array .byte)) (by decide) (by decide)))
  have f14 := f3.wr W9
  have f21 := V2.other W9 (Ne.symm ne_a0__b2)
  have N9 := Fr.snoc X9 N0 g0
  have Z9 : n0 ≤ h9.size := Nat.le_trans Z2 (Keep.of_wr W9).1
  have K9 : Keep h0 h9 [a0_] := K2.wr W9 (Or.inl (List.mem_of_getElem? (i := 0) rfl))
  obtain ⟨T22, h22, k22, X22, e22, E22, A22, st22⟩ := newP X9 hx hZ (hw _ (List.mem_of_getElem? (i := 13) rfl)) e9 (g := (mkF m 13 #[rv a0_, iv (3 : Int32)] [(.int (3 : Int32)), (.ref a0_)])) rfl (hb hby d1_13) rfl (by decide) (cap := 3) (by decide) (by decide) (by decide) (by decide)
  obtain ⟨b22, g22⟩ : ∃ z, z = h9.size := ⟨_, rfl⟩
  rw [← g22] at A22 st22
  have ge_b22 : n0 ≤ b22 := Nat.le_trans Z9 (Nat.le_of_eq g22.symm)
  have ne_a0__b22 : a0_ ≠ b22 := Nat.ne_of_lt (Nat.lt_of_lt_of_le (f14).lt (Nat.le_of_eq g22.symm))
  have ne_b2_b22 : b2 ≠ b22 := Nat.ne_of_lt (Nat.lt_of_lt_of_le (f21).lt (Nat.le_of_eq g22.symm))
  have f23 := f14.ext E22
  have f24 := f10.ext E22
  have f25 := Fw9.ext E22
  have f26 := f11.ext E22
  have f27 := f12.ext E22
  have f28 := f13.ext E22
  have f29 := f21.ext E22
  have V22 : Arv Z h22 b22 k22 .int (3 : Int32) [(.int (0 : Int32)), (.int (0 : Int32)), (.int (0 : Int32))] (.int (0 : Int32)) := (Arv.new A22 (by decide)).pad (pad_rep [] (.int (0 : Int32)) 3)
  have Z22 : n0 ≤ h22.size := Nat.le_trans Z9 E22.1
  have K22 : Keep h0 h22 [a0_] := K9.ext E22
  have sz_b22 : h0.size ≤ b22 := Nat.le_trans K9.1 (Nat.le_of_eq g22.symm)
  obtain ⟨T30, h30, X30, e30, W30, st30⟩ := putF X22 hx hZ hown (host := "") (Or.inl (hw _ (List.mem_of_getElem? (i := 14) rfl))) Via.refl e22 f26 f23 (Or.inr ⟨(hw _ (List.mem_of_getElem? (i := 15) rfl)), rfl, hnm⟩) (hw _ (List.mem_of_getElem? (i := 2) rfl)) (ty := (.array .int)) (by decide) rfl rfl (g := (mkF m 15 #[rv a0_, iv (3 : Int32)] [(.ref b22), (.ref a0_)])) rfl rfl (hb hby d1_15)
  have Fw30 := f26.same W30
  have f31 := f24.other W30 (Or.inr (slot_ne (Or.inl (hw _ (List.mem_of_getElem? (i := 29) rfl))) (Or.inr (hw _ (List.mem_of_getElem? (i := 15) rfl))) (by decide) (t := .int) (t' := (.array .int)) (by decide) (by decide)))
  have f32 := f25.other W30 (Or.inr (slot_ne (Or.inr (hw _ (List.mem_of_getElem? (i := 12) rfl))) (Or.inr (hw _ (List.mem_of_getElem? (i := 15) rfl))) (by decide) (t := (.array .byte)) (t' := (.array .int)) (by decide) (by decide)))
  have f33 := f27.other W30 (Or.inr (slot_ne (Or.inl (hw _ (List.mem_of_getElem? (i := 19) rfl))) (Or.inr (hw _ (List.mem_of_getElem? (i := 15) rfl))) (by decide) (t := (.array (.array .byte))) (t' := (.array .int)) (by decide) (by decide)))
  have f34 := f28.other W30 (Or.inr (slot_ne (Or.inr (hw _ (List.mem_of_getElem? (i := 22) rfl))) (Or.inr (hw _ (List.mem_of_getElem? (i := 15) rfl))) (by decide) (t := (.array .long)) (t' := (.array .int)) (by decide) (by decide)))
  have f35 := f23.wr W30
  have f42 := f29.other W30 (Ne.symm ne_a0__b2)
  have f43 := V22.other W30 (Ne.symm ne_a0__b22)
  have N30 := Fr.snoc X30 N9 g0
  have Z30 : n0 ≤ h30.size := Nat.le_trans Z22 (Keep.of_wr W30).1
  have K30 : Keep h0 h30 [a0_] := K22.wr W30 (Or.inl (List.mem_of_getElem? (i := 0) rfl))
  obtain ⟨T44, h44, k44, X44, e44, E44, A44, Ea44, O44, st44⟩ := newRA X30 hx hZ hown (by decide) (hw _ (List.mem_of_getElem? (i := 16) rfl)) (hw _ (List.mem_of_getElem? (i := 17) rfl)) e30 (g := (mkF m 20 #[rv a0_, iv (3 : Int32)] [(.int (3 : Int32)), (.ref a0_)])) rfl (hb hby d1_20) rfl (by decide) (cap := 3) (by decide) (by decide) (by decide) (by decide) (ad := "[[B") (by decide)
  obtain ⟨b44, g44⟩ : ∃ z, z = h30.size := ⟨_, rfl⟩
  rw [← g44] at A44 st44
  have ge_b44 : n0 ≤ b44 := Nat.le_trans Z30 (Nat.le_of_eq g44.symm)
  have ne_a0__b44 : a0_ ≠ b44 := Nat.ne_of_lt (Nat.lt_of_lt_of_le (f35).lt (Nat.le_of_eq g44.symm))
  have ne_b2_b44 : b2 ≠ b44 := Nat.ne_of_lt (Nat.lt_of_lt_of_le (f42).lt (Nat.le_of_eq g44.symm))
  have ne_b22_b44 : b22 ≠ b44 := Nat.ne_of_lt (Nat.lt_of_lt_of_le (f43).lt (Nat.le_of_eq g44.symm))
  have f45 := f35.ext E44
  have f46 := f31.ext E44
  have f47 := f32.ext E44
  have f48 := Fw30.ext E44
  have f49 := f33.ext E44
  have f50 := f34.ext E44
  have f51 := f42.ext E44
  have f52 := f43.ext E44
  have V44 : Arv Z h44 b44 k44 (.array .byte) (3 : Int32) [.null, .null, .null] .null := (Arv.new A44 (by decide)).pad (pad_rep [] .null 3)
  have Z44 : n0 ≤ h44.size := Nat.le_trans Z30 E44.1
  have K44 : Keep h0 h44 [a0_] := K30.ext E44
  have sz_b44 : h0.size ≤ b44 := Nat.le_trans K30.1 (Nat.le_of_eq g44.symm)
  obtain ⟨T53, h53, X53, e53, W53, st53⟩ := putF X44 hx hZ hown (host := "") (Or.inl (hw _ (List.mem_of_getElem? (i := 18) rfl))) Via.refl e44 f49 f45 (Or.inl (hw _ (List.mem_of_getElem? (i := 19) rfl))) (hw _ (List.mem_of_getElem? (i := 2) rfl)) (ty := (.array (.array .byte))) (by decide) rfl rfl (g := (mkF m 23 #[rv a0_, iv (3 : Int32)] [(.ref b44), (.ref a0_)])) rfl rfl (hb hby d1_23)
  have Fw53 := f49.same W53
  have f54 := f46.other W53 (Or.inr (slot_ne (Or.inl (hw _ (List.mem_of_getElem? (i := 29) rfl))) (Or.inl (hw _ (List.mem_of_getElem? (i := 19) rfl))) (by decide) (t := .int) (t' := (.array (.array .byte))) (by decide) (by decide)))
  have f55 := f47.other W53 (Or.inr (slot_ne (Or.inr (hw _ (List.mem_of_getElem? (i := 12) rfl))) (Or.inl (hw _ (List.mem_of_getElem? (i := 19) rfl))) (by decide) (t := (.array .byte)) (t' := (.array (.array .byte))) (by decide) (by decide)))
  have f56 := f48.other W53 (Or.inr (slot_ne (Or.inr (hw _ (List.mem_of_getElem? (i := 15) rfl))) (Or.inl (hw _ (List.mem_of_getElem? (i := 19) rfl))) (by decide) (t := (.array .int)) (t' := (.array (.array .byte))) (by decide) (by decide)))
  have f57 := f50.other W53 (Or.inr (slot_ne (Or.inr (hw _ (List.mem_of_getElem? (i := 22) rfl))) (Or.inl (hw _ (List.mem_of_getElem? (i := 19) rfl))) (by decide) (t := (.array .long)) (t' := (.array (.array .byte))) (by decide) (by decide)))
  have f58 := f45.wr W53
  have f65 := f51.other W53 (Ne.symm ne_a0__b2)
  have f66 := f52.other W53 (Ne.symm ne_a0__b22)
  have f67 := V44.other W53 (Ne.symm ne_a0__b44)
  have N53 := Fr.snoc X53 N30 g0
  have Z53 : n0 ≤ h53.size := Nat.le_trans Z44 (Keep.of_wr W53).1
  have K53 : Keep h0 h53 [a0_] := K44.wr W53 (Or.inl (List.mem_of_getElem? (i := 0) rfl))
  obtain ⟨T68, h68, k68, X68, e68, E68, A68, st68⟩ := newP X53 hx hZ (hw _ (List.mem_of_getElem? (i := 20) rfl)) e53 (g := (mkF m 28 #[rv a0_, iv (3 : Int32)] [(.int (3 : Int32)), (.ref a0_)])) rfl (hb hby d1_28) rfl (by decide) (cap := 3) (by decide) (by decide) (by decide) (by decide)
  obtain ⟨b68, g68⟩ : ∃ z, z = h53.size := ⟨_, rfl⟩
  rw [← g68] at A68 st68
  have ge_b68 : n0 ≤ b68 := Nat.le_trans Z53 (Nat.le_of_eq g68.symm)
  have ne_a0__b68 : a0_ ≠ b68 := Nat.ne_of_lt (Nat.lt_of_lt_of_le (f58).lt (Nat.le_of_eq g68.symm))
  have ne_b2_b68 : b2 ≠ b68 := Nat.ne_of_lt (Nat.lt_of_lt_of_le (f65).lt (Nat.le_of_eq g68.symm))
  have ne_b22_b68 : b22 ≠ b68 := Nat.ne_of_lt (Nat.lt_of_lt_of_le (f66).lt (Nat.le_of_eq g68.symm))
  have ne_b44_b68 : b44 ≠ b68 := Nat.ne_of_lt (Nat.lt_of_lt_of_le (f67).lt (Nat.le_of_eq g68.symm))
  have f69 := f58.ext E68
  have f70 := f54.ext E68
  have f71 := f55.ext E68
  have f72 := f56.ext E68
  have f73 := Fw53.ext E68
  have f74 := f57.ext E68
  have f75 := f65.ext E68
  have f76 := f66.ext E68
  have f77 := f67.ext E68
  have V68 : Arv Z h68 b68 k68 .long (3 : Int32) [(.long (0 : Int64)), (.long (0 : Int64)), (.long (0 : Int64))] (.long (0 : Int64)) := (Arv.new A68 (by decide)).pad (pad_rep [] (.long (0 : Int64)) 3)
  have Z68 : n0 ≤ h68.size := Nat.le_trans Z53 E68.1
  have K68 : Keep h0 h68 [a0_] := K53.ext E68
  have sz_b68 : h0.size ≤ b68 := Nat.le_trans K53.1 (Nat.le_of_eq g68.symm)
  obtain ⟨T78, h78, X78, e78, W78, st78⟩ := putF X68 hx hZ hown (host := "") (Or.inl (hw _ (List.mem_of_getElem? (i := 21) rfl))) Via.refl e68 f74 f69 (Or.inr ⟨(hw _ (List.mem_of_getElem? (i := 22) rfl)), rfl, hnm⟩) (hw _ (List.mem_of_getElem? (i := 2) rfl)) (ty := (.array .long)) (by decide) rfl rfl (g := (mkF m 30 #[rv a0_, iv (3 : Int32)] [(.ref b68), (.ref a0_)])) rfl rfl (hb hby d1_30)
  have Fw78 := f74.same W78
  have f79 := f70.other W78 (Or.inr (slot_ne (Or.inl (hw _ (List.mem_of_getElem? (i := 29) rfl))) (Or.inr (hw _ (List.mem_of_getElem? (i := 22) rfl))) (by decide) (t := .int) (t' := (.array .long)) (by decide) (by decide)))
  have f80 := f71.other W78 (Or.inr (slot_ne (Or.inr (hw _ (List.mem_of_getElem? (i := 12) rfl))) (Or.inr (hw _ (List.mem_of_getElem? (i := 22) rfl))) (by decide) (t := (.array .byte)) (t' := (.array .long)) (by decide) (by decide)))
  have f81 := f72.other W78 (Or.inr (slot_ne (Or.inr (hw _ (List.mem_of_getElem? (i := 15) rfl))) (Or.inr (hw _ (List.mem_of_getElem? (i := 22) rfl))) (by decide) (t := (.array .int)) (t' := (.array .long)) (by decide) (by decide)))
  have f82 := f73.other W78 (Or.inr (slot_ne (Or.inl (hw _ (List.mem_of_getElem? (i := 19) rfl))) (Or.inr (hw _ (List.mem_of_getElem? (i := 22) rfl))) (by decide) (t := (.array (.array .byte))) (t' := (.array .long)) (by decide) (by decide)))
  have f83 := f69.wr W78
  have f90 := f75.other W78 (Ne.symm ne_a0__b2)
  have f91 := f76.other W78 (Ne.symm ne_a0__b22)
  have f92 := f77.other W78 (Ne.symm ne_a0__b44)
  have f93 := V68.other W78 (Ne.symm ne_a0__b68)
  have N78 := Fr.snoc X78 N53 g0
  have Z78 : n0 ≤ h78.size := Nat.le_trans Z68 (Keep.of_wr W78).1
  have K78 : Keep h0 h78 [a0_] := K68.wr W78 (Or.inl (List.mem_of_getElem? (i := 0) rfl))
  obtain ⟨fs, hr, hrun, hended, hW, hsame⟩ := X78.leave (v := none) (fun _ => rfl)
  refine ⟨_, _, S0 _ ?_, hrun, hended, _, _, rfl, ?_, ⟨_, rfl⟩, hW, hsame.mono (by decide) (by decide)⟩
  · skip
    show Steps p.tables e below (s₁.setTop (mkF m 0 #[rv a0_, iv (3 : Int32)] [])) _
    refine XS.aloadN X0.here hx rfl (hb hby d1_0) rfl rfl ?_
    show Steps p.tables e below (s₁.setTop (mkF m 1 #[rv a0_, iv (3 : Int32)] [(.ref a0_)])) _
    refine st1 _ ?_
    show Steps p.tables e below (T1.setTop (mkF m 4 #[rv a0_, iv (3 : Int32)] [])) _
    refine XS.aloadN X1.here hx rfl (hb hby d1_4) rfl rfl ?_
    show Steps p.tables e below (T1.setTop (mkF m 5 #[rv a0_, iv (3 : Int32)] [(.ref a0_)])) _
    refine XS.iloadN X1.here hx rfl (hb hby d1_5) rfl ?_
    show Steps p.tables e below (T1.setTop (mkF m 6 #[rv a0_, iv (3 : Int32)] [(.int (3 : Int32)), (.ref a0_)])) _
    refine st2 _ ?_
    show Steps p.tables e below (T2.setTop (mkF m 8 #[rv a0_, iv (3 : Int32)] [(.ref b2), (.ref a0_)])) _
    refine st9 _ ?_
    show Steps p.tables e below (T9.setTop (mkF m 11 #[rv a0_, iv (3 : Int32)] [])) _
    refine XS.aloadN X9.here hx rfl (hb hby d1_11) rfl rfl ?_
    show Steps p.tables e below (T9.setTop (mkF m 12 #[rv a0_, iv (3 : Int32)] [(.ref a0_)])) _
    refine XS.iloadN X9.here hx rfl (hb hby d1_12) rfl ?_
    show Steps p.tables e below (T9.setTop (mkF m 13 #[rv a0_, iv (3 : Int32)] [(.int (3 : Int32)), (.ref a0_)])) _
    refine st22 _ ?_
    show Steps p.tables e below (T22.setTop (mkF m 15 #[rv a0_, iv (3 : Int32)] [(.ref b22), (.ref a0_)])) _
    refine st30 _ ?_
    show Steps p.tables e below (T30.setTop (mkF m 18 #[rv a0_, iv (3 : Int32)] [])) _
    refine XS.aloadN X30.here hx rfl (hb hby d1_18) rfl rfl ?_
    show Steps p.tables e below (T30.setTop (mkF m 19 #[rv a0_, iv (3 : Int32)] [(.ref a0_)])) _
    refine XS.iloadN X30.here hx rfl (hb hby d1_19) rfl ?_
    show Steps p.tables e below (T30.setTop (mkF m 20 #[rv a0_, iv (3 : Int32)] [(.int (3 : Int32)), (.ref a0_)])) _
    refine st44 _ ?_
    show Steps p.tables e below (T44.setTop (mkF m 23 #[rv a0_, iv (3 : Int32)] [(.ref b44), (.ref a0_)])) _
    refine st53 _ ?_
    show Steps p.tables e below (T53.setTop (mkF m 26 #[rv a0_, iv (3 : Int32)] [])) _
    refine XS.aloadN X53.here hx rfl (hb hby d1_26) rfl rfl ?_
    show Steps p.tables e below (T53.setTop (mkF m 27 #[rv a0_, iv (3 : Int32)] [(.ref a0_)])) _
    refine XS.iloadN X53.here hx rfl (hb hby d1_27) rfl ?_
    show Steps p.tables e below (T53.setTop (mkF m 28 #[rv a0_, iv (3 : Int32)] [(.int (3 : Int32)), (.ref a0_)])) _
    refine st68 _ ?_
    show Steps p.tables e below (T68.setTop (mkF m 30 #[rv a0_, iv (3 : Int32)] [(.ref b68), (.ref a0_)])) _
    refine st78 _ ?_
    show Steps p.tables e below (T78.setTop (mkF m 33 #[rv a0_, iv (3 : Int32)] [])) _
    exact X78.returnOut hx Bd.returns (hb hby d1_33) hr
  · show QI3 Z a0_ h0 n0 _ T78.heap _
    rw [e78]
    exact ⟨rfl, N78, Z78, K78, ⟨f83, f79, ⟨by decide, by decide, by decide, by decide⟩, b2, b22, b44, b68, _, _, _, _, ⟨ge_b2, ge_b22, ge_b44, ge_b68⟩, ⟨ne_a0__b2, ne_a0__b22, ne_a0__b44, ne_a0__b68⟩, ⟨ne_b2_b22, ne_b2_b44, ne_b2_b68, ne_b22_b44, ne_b22_b68, ne_b44_b68⟩, O44, f80, f81, f82, Fw78, f90, f91, f92, f93⟩⟩
theorem d3_0 : decode prog_134_method_2_code 0 = .ok (.aload_n 0, 1) := by decide +kernel
theorem d3_1 : decode prog_134_method_2_code 1 = .ok (.getfield 7, 3) := by decide +kernel
theorem d3_4 : decode prog_134_method_2_code 4 = .ok (.aload_n 0, 1) := by decide +kernel
theorem d3_5 : decode prog_134_method_2_code 5 = .ok (.getfield 26, 3) := by decide +kernel
theorem d3_8 : decode prog_134_method_2_code 8 = .ok (.iload_n 1, 1) := by decide +kernel
theorem d3_9 : decode prog_134_method_2_code 9 = .ok (.bastore, 1) := by decide +kernel
theorem d3_10 : decode prog_134_method_2_code 10 = .ok (.aload_n 0, 1) := by decide +kernel
theorem d3_11 : decode prog_134_method_2_code 11 = .ok (.getfield 13, 3) := by decide +kernel
theorem d3_14 : decode prog_134_method_2_code 14 = .ok (.aload_n 0, 1) := by decide +kernel
theorem d3_15 : decode prog_134_method_2_code 15 = .ok (.getfield 26, 3) := by decide +kernel
theorem d3_18 : decode prog_134_method_2_code 18 = .ok (.iload_n 2, 1) := by decide +kernel
theorem d3_19 : decode prog_134_method_2_code 19 = .ok (.iastore, 1) := by decide +kernel
theorem d3_20 : decode prog_134_method_2_code 20 = .ok (.aload_n 0, 1) := by decide +kernel
theorem d3_21 : decode prog_134_method_2_code 21 = .ok (.getfield 18, 3) := by decide +kernel
theorem d3_24 : decode prog_134_method_2_code 24 = .ok (.aload_n 0, 1) := by decide +kernel
theorem d3_25 : decode prog_134_method_2_code 25 = .ok (.getfield 26, 3) := by decide +kernel
theorem d3_28 : decode prog_134_method_2_code 28 = .ok (.aload_n 3, 1) := by decide +kernel
theorem d3_29 : decode prog_134_method_2_code 29 = .ok (.aastore, 1) := by decide +kernel
theorem d3_30 : decode prog_134_method_2_code 30 = .ok (.aload_n 0, 1) := by decide +kernel
theorem d3_31 : decode prog_134_method_2_code 31 = .ok (.getfield 22, 3) := by decide +kernel
theorem d3_34 : decode prog_134_method_2_code 34 = .ok (.aload_n 0, 1) := by decide +kernel
theorem d3_35 : decode prog_134_method_2_code 35 = .ok (.getfield 26, 3) := by decide +kernel
theorem d3_38 : decode prog_134_method_2_code 38 = .ok (.lload 4, 2) := by decide +kernel
theorem d3_40 : decode prog_134_method_2_code 40 = .ok (.lastore, 1) := by decide +kernel
theorem d3_41 : decode prog_134_method_2_code 41 = .ok (.aload_n 0, 1) := by decide +kernel
theorem d3_42 : decode prog_134_method_2_code 42 = .ok (.dup, 1) := by decide +kernel
theorem d3_43 : decode prog_134_method_2_code 43 = .ok (.getfield 26, 3) := by decide +kernel
theorem d3_46 : decode prog_134_method_2_code 46 = .ok (.iconst 1, 1) := by decide +kernel
theorem d3_47 : decode prog_134_method_2_code 47 = .ok (.iadd, 1) := by decide +kernel
theorem d3_48 : decode prog_134_method_2_code 48 = .ok (.putfield 26, 3) := by decide +kernel
theorem d3_51 : decode prog_134_method_2_code 51 = .ok (.aload_n 0, 1) := by decide +kernel
theorem d3_52 : decode prog_134_method_2_code 52 = .ok (.getfield 26, 3) := by decide +kernel
theorem d3_55 : decode prog_134_method_2_code 55 = .ok (.aload_n 0, 1) := by decide +kernel
theorem d3_56 : decode prog_134_method_2_code 56 = .ok (.getfield 7, 3) := by decide +kernel
theorem d3_59 : decode prog_134_method_2_code 59 = .ok (.arraylength, 1) := by decide +kernel
theorem d3_60 : decode prog_134_method_2_code 60 = .ok (.if_icmp .ne 7, 3) := by decide +kernel
theorem d3_63 : decode prog_134_method_2_code 63 = .ok (.iconst 1, 1) := by decide +kernel
theorem d3_64 : decode prog_134_method_2_code 64 = .ok (.goto 4, 3) := by decide +kernel
theorem d3_68 : decode prog_134_method_2_code 68 = .ok (.ireturn, 1) := by decide +kernel
theorem d3_67 : decode prog_134_method_2_code 67 = .ok (.iconst 0, 1) := by decide +kernel
def QAddN (Z : State) (a0_ : Addr) (u1 : Int32) (u2 : Int32) (u4 : Int64) (cap cn : Int32) (ks ns : List Int32) (vs : List Value) (hs : List Int64) (h0 : Heap) (n0 : Nat) (v : Option Value) (h : Heap) (L : List Loc) : Prop := v = some (.int (own_ad cap cn)) ∧ Fr n0 L ∧ n0 ≤ h.size ∧ (∃ ws, Keep h0 h ws) ∧ own_N Z h n0 a0_ cap (cn + (1 : Int32)) (ks.set cn.toNatClampNeg u1) (ns.set cn.toNatClampNeg u2) (vs.set cn.toNatClampNeg .null) (hs.set cn.toNatClampNeg u4)
theorem ef_rmAddN (m : MethodId) (a0_ : Addr) (u1 : Int32) (u2 : Int32) (u4 : Int64) : entryFrame m #[(.ref a0_), (.int u1), (.int u2), .null, (.long u4)] 6 = mkF m 0 #[rv a0_, iv u1, iv u2, .val .null, .val (.long u4), .second] [] := by first | (simp [entryFrame, mkF, argsToLocals, Value.category]; done) | rfl
set_option maxRecDepth 65536 in
set_option maxHeartbeats 40000000 in
theorem rmAddN (l : Launch) (Z : State) (a0 : Array Value) (hw : ∀ d ∈ tables_1, d.before a0 Z = true) (ws : List Jvm.Cond) (a0_ : Addr) (u1 : Int32) (u2 : Int32) (u4 : Int64) (cap cn : Int32) (ks ns : List Int32) (vs : List Value) (hs : List Int64) (h0 : Heap) (n0 : Nat) (Z0 : n0 ≤ h0.size) (B0 : own_N Z h0 n0 a0_ cap cn ks ns vs hs) (g0 : n0 ≤ a0_) (hi0 : ¬ cn < 0) (hi1 : cn < cap) (hbk : nar .byte u1 = u1) :
    MetFree l (⟨"com/example/agouti/agouti/store/IndexBuilder$Notes", "add", "(BI[BJ)Z"⟩ : MethodName) (head1 (Jvm.Cond.code (⟨"com/example/agouti/agouti/store/IndexBuilder$Notes", "add", "(BI[BJ)Z"⟩ : MethodName) prog_134_method_2_code 6 (some .boolean) :: ws) ({ frames := 0, cells := 0, slots := 0, locals := 0 } : Room)) (fun a U => a = #[(.ref a0_), (.int u1), (.int u2), .null, (.long u4)] ∧ Z.Warmed39 U.vm ∧ U.heap = h0) (fun _ _ _ _ _ => True) (fun _ U o U' => ∃ v L, o = .returned v ∧ QAddN Z a0_ u1 u2 u4 cap cn ks ns vs hs h0 n0 v U'.heap L ∧ FrameEnd U o U' L ({ frames := 0, cells := 0, slots := 0, locals := 0 } : Room).cells ({ frames := 0, cells := 0, slots := 0, locals := 0 } : Room).slots) := by
  refine MetFree.of_bodySF (plainFor_of_name pn_0) hisR ?_
  intro p e s m args below meth c s₁ Bd hml0 hP hK
  obtain ⟨rfl, hZ, hh⟩ := hP
  have hx := Bd.exec
  have hby := Bd.bytes
  have hml : c.maxLocals = 6 := hml0
  have hown : s.vm.findClass "com/example/agouti/agouti/store/IndexBuilder$Notes" = some m.cls := findClass_of_methodNamed Bd.named
  have hnm := (name_of_methodNamed Bd.named Bd.method).1
  have X0 : Stand p l e ({ frames := 0, cells := 0, slots := 0, locals := 0 } : Room) s m #[(.ref a0_), (.int u1), (.int u2), .null, (.long u4)] below meth c s₁ [] 0 0 := Stand.of_body Bd
  have e0 : s₁.heap = h0 := by rw [← hh, Bd.state]; rfl
  have N0 := Fr.nil n0
  have S0 : ∀ t, Steps p.tables e below (s₁.setTop (mkF m 0 #[rv a0_, iv u1, iv u2, .val .null, .val (.long u4), .second] [])) t → Steps p.tables e below (s₁.setTop (entryFrame m #[(.ref a0_), (.int u1), (.int u2), .null, (.long u4)] 6)) t := fun t k => castTop (ef_rmAddN m a0_ u1 u2 u4) k
  obtain ⟨oE, oC, ⟨ol1, ol2, ol3, ol4⟩, b1, b2, b3, b4, k1, k2, k3, k4, ⟨og1, og2, og3, og4⟩, ⟨on1, on2, on3, on4⟩, ⟨mb1b2, mb1b3, mb1b4, mb2b3, mb2b4, mb3b4⟩, oO, oF1, oF2, oF3, oF4, oV1, oV2, oV3, oV4⟩ := id B0
  have K0 : Keep h0 h0 [a0_, b1, b2, b3, b4] := Keep.refl _ _
  obtain ⟨T1, X1, e1, st1⟩ := getF X0 hx hZ hown (host := "") (Or.inl (hw _ (List.mem_of_getElem? (i := 11) rfl))) Via.refl e0 oF1 (g := (mkF m 1 #[rv a0_, iv u1, iv u2, .val .null, .val (.long u4), .second] [(.ref a0_)])) rfl rfl (hb hby d3_1)
  obtain ⟨T2, X2, e2, st2⟩ := getF X1 hx hZ hown (host := "") (Or.inl (hw _ (List.mem_of_getElem? (i := 28) rfl))) Via.refl e1 oC (g := (mkF m 5 #[rv a0_, iv u1, iv u2, .val .null, .val (.long u4), .second] [(.ref a0_), (.ref b1)])) rfl rfl (hb hby d3_5)
  obtain ⟨cl3, Ar3, qa3, Sa3, Na3, Ha3, Ga3⟩ := id oV1
  have hin3 : ¬ (cn < 0 ∨ cl3.slots.size ≤ (cn).toNatClampNeg) := inb_of Sa3 ⟨hi0, hi1⟩
  obtain ⟨T4, h4, X4, e4, W4, st4⟩ := stB X2 hx hZ e2 Ar3 (j := cn) hin3 (g := (mkF m 9 #[rv a0_, iv u1, iv u2, .val .null, .val (.long u4), .second] [(.int u1), (.int cn), (.ref b1)])) rfl rfl (hb hby d3_9)
  rw [hbk] at W4
  have V4 : Arv Z h4 b1 k1 .byte cap ((ks.set cn.toNatClampNeg u1).map Value.int) (.int (0 : Int32)) := by rw [List.map_set]; exact Arv.set Ar3 qa3 Sa3 Na3 Ha3 Ga3 (hbk ▸ fits_nar_byte u1) W4 cn.toNatClampNeg rfl (by rw [List.length_map, ol1]; exact own_ltn hi0 hi1)
  have N4 := Fr.snoc X4 N0 og1
  have Z4 : n0 ≤ h4.size := Nat.le_trans Z0 (Keep.of_wr W4).1
  have f5 := oE.wr W4
  have f6 := oC.other W4 (Or.inl on1)
  have f7 := oF1.other W4 (Or.inl on1)
  have f9 := oF2.other W4 (Or.inl on1)
  have f10 := oV2.other W4 (Ne.symm mb1b2)
  have f11 := oF3.other W4 (Or.inl on1)
  have f12 := oV3.other W4 (Ne.symm mb1b3)
  have f13 := oF4.other W4 (Or.inl on1)
  have f14 := oV4.other W4 (Ne.symm mb1b4)
  have K4 : Keep h0 h4 [a0_, b1, b2, b3, b4] := K0.wr W4 (Or.inl (List.mem_of_getElem? (i := 1) rfl))
  obtain ⟨T15, X15, e15, st15⟩ := getF X4 hx hZ hown (host := "") (Or.inl (hw _ (List.mem_of_getElem? (i := 14) rfl))) Via.refl e4 f9 (g := (mkF m 11 #[rv a0_, iv u1, iv u2, .val .null, .val (.long u4), .second] [(.ref a0_)])) rfl rfl (hb hby d3_11)
  obtain ⟨T16, X16, e16, st16⟩ := getF X15 hx hZ hown (host := "") (Or.inl (hw _ (List.mem_of_getElem? (i := 28) rfl))) Via.refl e15 f6 (g := (mkF m 15 #[rv a0_, iv u1, iv u2, .val .null, .val (.long u4), .second] [(.ref a0_), (.ref b2)])) rfl rfl (hb hby d3_15)
  obtain ⟨cl17, Ar17, qa17, Sa17, Na17, Ha17, Ga17⟩ := id f10
  have hin17 : ¬ (cn < 0 ∨ cl17.slots.size ≤ (cn).toNatClampNeg) := inb_of Sa17 ⟨hi0, hi1⟩
  obtain ⟨T18, h18, X18, e18, W18, st18⟩ := stI X16 hx hZ e16 Ar17 (j := cn) hin17 (g := (mkF m 19 #[rv a0_, iv u1, iv u2, .val .null, .val (.long u4), .second] [(.int u2), (.int cn), (.ref b2)])) rfl rfl (hb hby d3_19)
  have V18 : Arv Z h18 b2 k2 .int cap ((ns.set cn.toNatClampNeg u2).map Value.int) (.int (0 : Int32)) := by rw [List.map_set]; exact Arv.set Ar17 qa17 Sa17 Na17 Ha17 Ga17 rfl W18 cn.toNatClampNeg rfl (by rw [List.length_map, ol2]; exact own_ltn hi0 hi1)
  have N18 := Fr.snoc X18 N4 og2
  have Z18 : n0 ≤ h18.size := Nat.le_trans Z4 (Keep.of_wr W18).1
  have f19 := f5.wr W18
  have f20 := f6.other W18 (Or.inl on2)
  have f21 := f7.other W18 (Or.inl on2)
  have f22 := V4.other W18 mb1b2
  have f23 := f9.other W18 (Or.inl on2)
  have f25 := f11.other W18 (Or.inl on2)
  have f26 := f12.other W18 (Ne.symm mb2b3)
  have f27 := f13.other W18 (Or.inl on2)
  have f28 := f14.other W18 (Ne.symm mb2b4)
  have K18 : Keep h0 h18 [a0_, b1, b2, b3, b4] := K4.wr W18 (Or.inl (List.mem_of_getElem? (i := 2) rfl))
  obtain ⟨T29, X29, e29, st29⟩ := getF X18 hx hZ hown (host := "") (Or.inl (hw _ (List.mem_of_getElem? (i := 18) rfl))) Via.refl e18 f25 (g := (mkF m 21 #[rv a0_, iv u1, iv u2, .val .null, .val (.long u4), .second] [(.ref a0_)])) rfl rfl (hb hby d3_21)
  obtain ⟨T30, X30, e30, st30⟩ := getF X29 hx hZ hown (host := "") (Or.inl (hw _ (List.mem_of_getElem? (i := 28) rfl))) Via.refl e29 f20 (g := (mkF m 25 #[rv a0_, iv u1, iv u2, .val .null, .val (.long u4), .second] [(.ref a0_), (.ref b3)])) rfl rfl (hb hby d3_25)
  obtain ⟨cl31, Ar31, qa31, Sa31, Na31, Ha31, Ga31⟩ := id f26
  have hin31 : ¬ (cn < 0 ∨ cl31.slots.size ≤ (cn).toNatClampNeg) := inb_of Sa31 ⟨hi0, hi1⟩
  obtain ⟨T32, h32, X32, e32, W32, st32⟩ := stR X30 hx hZ e30 Ar31 (j := cn) hin31 rfl (Or.inl rfl) (g := (mkF m 29 #[rv a0_, iv u1, iv u2, .val .null, .val (.long u4), .second] [.null, (.int cn), (.ref b3)])) rfl rfl (hb hby d3_29)
  have V32 : Arv Z h32 b3 k3 (.array .byte) cap (vs.set cn.toNatClampNeg .null) .null := Arv.set Ar31 qa31 Sa31 Na31 Ha31 Ga31 rfl W32 cn.toNatClampNeg rfl (by rw [ol3]; exact own_ltn hi0 hi1)
  have N32 := Fr.snoc X32 N18 og3
  have Z32 : n0 ≤ h32.size := Nat.le_trans Z18 (Keep.of_wr W32).1
  have f33 := f19.wr W32
  have f34 := f20.other W32 (Or.inl on3)
  have f35 := f21.other W32 (Or.inl on3)
  have f36 := f22.other W32 mb1b3
  have f37 := f23.other W32 (Or.inl on3)
  have f38 := V18.other W32 mb2b3
  have f39 := f25.other W32 (Or.inl on3)
  have f41 := f27.other W32 (Or.inl on3)
  have f42 := f28.other W32 (Ne.symm mb3b4)
  have K32 : Keep h0 h32 [a0_, b1, b2, b3, b4] := K18.wr W32 (Or.inl (List.mem_of_getElem? (i := 3) rfl))
  obtain ⟨T43, X43, e43, st43⟩ := getF X32 hx hZ hown (host := "") (Or.inl (hw _ (List.mem_of_getElem? (i := 21) rfl))) Via.refl e32 f41 (g := (mkF m 31 #[rv a0_, iv u1, iv u2, .val .null, .val (.long u4), .second] [(.ref a0_)])) rfl rfl (hb hby d3_31)
  obtain ⟨T44, X44, e44, st44⟩ := getF X43 hx hZ hown (host := "") (Or.inl (hw _ (List.mem_of_getElem? (i := 28) rfl))) Via.refl e43 f34 (g := (mkF m 35 #[rv a0_, iv u1, iv u2, .val .null, .val (.long u4), .second] [(.ref a0_), (.ref b4)])) rfl rfl (hb hby d3_35)
  obtain ⟨cl45, Ar45, qa45, Sa45, Na45, Ha45, Ga45⟩ := id f42
  have hin45 : ¬ (cn < 0 ∨ cl45.slots.size ≤ (cn).toNatClampNeg) := inb_of Sa45 ⟨hi0, hi1⟩
  obtain ⟨T46, h46, X46, e46, W46, st46⟩ := stJ X44 hx hZ e44 Ar45 (j := cn) hin45 (g := (mkF m 40 #[rv a0_, iv u1, iv u2, .val .null, .val (.long u4), .second] [(.long u4), (.int cn), (.ref b4)])) rfl rfl (hb hby d3_40)
  have V46 : Arv Z h46 b4 k4 .long cap ((hs.set cn.toNatClampNeg u4).map Value.long) (.long (0 : Int64)) := by rw [List.map_set]; exact Arv.set Ar45 qa45 Sa45 Na45 Ha45 Ga45 rfl W46 cn.toNatClampNeg rfl (by rw [List.length_map, ol4]; exact own_ltn hi0 hi1)
  have N46 := Fr.snoc X46 N32 og4
  have Z46 : n0 ≤ h46.size := Nat.le_trans Z32 (Keep.of_wr W46).1
  have f47 := f33.wr W46
  have f48 := f34.other W46 (Or.inl on4)
  have f49 := f35.other W46 (Or.inl on4)
  have f50 := f36.other W46 mb1b4
  have f51 := f37.other W46 (Or.inl on4)
  have f52 := f38.other W46 mb2b4
  have f53 := f39.other W46 (Or.inl on4)
  have f54 := V32.other W46 mb3b4
  have f55 := f41.other W46 (Or.inl on4)
  have K46 : Keep h0 h46 [a0_, b1, b2, b3, b4] := K32.wr W46 (Or.inl (List.mem_of_getElem? (i := 4) rfl))
  obtain ⟨T57, X57, e57, st57⟩ := getF X46 hx hZ hown (host := "") (Or.inl (hw _ (List.mem_of_getElem? (i := 28) rfl))) Via.refl e46 f48 (g := (mkF m 43 #[rv a0_, iv u1, iv u2, .val .null, .val (.long u4), .second] [(.ref a0_), (.ref a0_)])) rfl rfl (hb hby d3_43)
  obtain ⟨T58, h58, X58, e58, W58, st58⟩ := putF X57 hx hZ hown (host := "") (Or.inl (hw _ (List.mem_of_getElem? (i := 28) rfl))) Via.refl e57 f48 f47 (Or.inl (hw _ (List.mem_of_getElem? (i := 29) rfl))) (hw _ (List.mem_of_getElem? (i := 2) rfl)) (ty := .int) (by decide) rfl rfl (g := (mkF m 48 #[rv a0_, iv u1, iv u2, .val .null, .val (.long u4), .second] [(.int (cn + (1 : Int32))), (.ref a0_)])) rfl rfl (hb hby d3_48)
  have Fw58 := f48.same W58
  have f59 := f49.other W58 (Or.inr (slot_ne (Or.inr (hw _ (List.mem_of_getElem? (i := 12) rfl))) (Or.inl (hw _ (List.mem_of_getElem? (i := 29) rfl))) (by decide) (t := (.array .byte)) (t' := .int) (by decide) (by decide)))
  have f60 := f51.other W58 (Or.inr (slot_ne (Or.inr (hw _ (List.mem_of_getElem? (i := 15) rfl))) (Or.inl (hw _ (List.mem_of_getElem? (i := 29) rfl))) (by decide) (t := (.array .int)) (t' := .int) (by decide) (by decide)))
  have f61 := f53.other W58 (Or.inr (slot_ne (Or.inl (hw _ (List.mem_of_getElem? (i := 19) rfl))) (Or.inl (hw _ (List.mem_of_getElem? (i := 29) rfl))) (by decide) (t := (.array (.array .byte))) (t' := .int) (by decide) (by decide)))
  have f62 := f55.other W58 (Or.inr (slot_ne (Or.inr (hw _ (List.mem_of_getElem? (i := 22) rfl))) (Or.inl (hw _ (List.mem_of_getElem? (i := 29) rfl))) (by decide) (t := (.array .long)) (t' := .int) (by decide) (by decide)))
  have f63 := f47.wr W58
  have f67 := f50.other W58 (Ne.symm on1)
  have f69 := f52.other W58 (Ne.symm on2)
  have f71 := f54.other W58 (Ne.symm on3)
  have f73 := V46.other W58 (Ne.symm on4)
  have N58 := Fr.snoc X58 N46 g0
  have Z58 : n0 ≤ h58.size := Nat.le_trans Z46 (Keep.of_wr W58).1
  have K58 : Keep h0 h58 [a0_, b1, b2, b3, b4] := K46.wr W58 (Or.inl (List.mem_of_getElem? (i := 0) rfl))
  obtain ⟨T74, X74, e74, st74⟩ := getF X58 hx hZ hown (host := "") (Or.inl (hw _ (List.mem_of_getElem? (i := 28) rfl))) Via.refl e58 Fw58 (g := (mkF m 52 #[rv a0_, iv u1, iv u2, .val .null, .val (.long u4), .second] [(.ref a0_)])) rfl rfl (hb hby d3_52)
  obtain ⟨T75, X75, e75, st75⟩ := getF X74 hx hZ hown (host := "") (Or.inl (hw _ (List.mem_of_getElem? (i := 11) rfl))) Via.refl e74 f59 (g := (mkF m 56 #[rv a0_, iv u1, iv u2, .val .null, .val (.long u4), .second] [(.ref a0_), (.int (cn + (1 : Int32)))])) rfl rfl (hb hby d3_56)
  obtain ⟨cl76, Ar76, qa76, Sa76, Na76, Ha76, Ga76⟩ := id f67
  have S77 : ∀ t, Steps p.tables e below (T75.setTop (mkF m 60 #[rv a0_, iv u1, iv u2, .val .null, .val (.long u4), .second] [(.int cap), (.int (cn + (1 : Int32)))])) t → Steps p.tables e below (s₁.setTop (entryFrame m #[(.ref a0_), (.int u1), (.int u2), .null, (.long u4)] 6)) t := by
    intro t k
    refine S0 t ?_
    show Steps p.tables e below (s₁.setTop (mkF m 0 #[rv a0_, iv u1, iv u2, .val .null, .val (.long u4), .second] [])) _
    refine XS.aloadN X0.here hx rfl (hb hby d3_0) rfl rfl ?_
    show Steps p.tables e below (s₁.setTop (mkF m 1 #[rv a0_, iv u1, iv u2, .val .null, .val (.long u4), .second] [(.ref a0_)])) _
    refine st1 _ ?_
    show Steps p.tables e below (T1.setTop (mkF m 4 #[rv a0_, iv u1, iv u2, .val .null, .val (.long u4), .second] [(.ref b1)])) _
    refine XS.aloadN X1.here hx rfl (hb hby d3_4) rfl rfl ?_
    show Steps p.tables e below (T1.setTop (mkF m 5 #[rv a0_, iv u1, iv u2, .val .null, .val (.long u4), .second] [(.ref a0_), (.ref b1)])) _
    refine st2 _ ?_
    show Steps p.tables e below (T2.setTop (mkF m 8 #[rv a0_, iv u1, iv u2, .val .null, .val (.long u4), .second] [(.int cn), (.ref b1)])) _
    refine XS.iloadN X2.here hx rfl (hb hby d3_8) rfl ?_
    show Steps p.tables e below (T2.setTop (mkF m 9 #[rv a0_, iv u1, iv u2, .val .null, .val (.long u4), .second] [(.int u1), (.int cn), (.ref b1)])) _
    refine st4 _ ?_
    show Steps p.tables e below (T4.setTop (mkF m 10 #[rv a0_, iv u1, iv u2, .val .null, .val (.long u4), .second] [])) _
    refine XS.aloadN X4.here hx rfl (hb hby d3_10) rfl rfl ?_
    show Steps p.tables e below (T4.setTop (mkF m 11 #[rv a0_, iv u1, iv u2, .val .null, .val (.long u4), .second] [(.ref a0_)])) _
    refine st15 _ ?_
    show Steps p.tables e below (T15.setTop (mkF m 14 #[rv a0_, iv u1, iv u2, .val .null, .val (.long u4), .second] [(.ref b2)])) _
    refine XS.aloadN X15.here hx rfl (hb hby d3_14) rfl rfl ?_
    show Steps p.tables e below (T15.setTop (mkF m 15 #[rv a0_, iv u1, iv u2, .val .null, .val (.long u4), .second] [(.ref a0_), (.ref b2)])) _
    refine st16 _ ?_
    show Steps p.tables e below (T16.setTop (mkF m 18 #[rv a0_, iv u1, iv u2, .val .null, .val (.long u4), .second] [(.int cn), (.ref b2)])) _
    refine XS.iloadN X16.here hx rfl (hb hby d3_18) rfl ?_
    show Steps p.tables e below (T16.setTop (mkF m 19 #[rv a0_, iv u1, iv u2, .val .null, .val (.long u4), .second] [(.int u2), (.int cn), (.ref b2)])) _
    refine st18 _ ?_
    show Steps p.tables e below (T18.setTop (mkF m 20 #[rv a0_, iv u1, iv u2, .val .null, .val (.long u4), .second] [])) _
    refine XS.aloadN X18.here hx rfl (hb hby d3_20) rfl rfl ?_
    show Steps p.tables e below (T18.setTop (mkF m 21 #[rv a0_, iv u1, iv u2, .val .null, .val (.long u4), .second] [(.ref a0_)])) _
    refine st29 _ ?_
    show Steps p.tables e below (T29.setTop (mkF m 24 #[rv a0_, iv u1, iv u2, .val .null, .val (.long u4), .second] [(.ref b3)])) _
    refine XS.aloadN X29.here hx rfl (hb hby d3_24) rfl rfl ?_
    show Steps p.tables e below (T29.setTop (mkF m 25 #[rv a0_, iv u1, iv u2, .val .null, .val (.long u4), .second] [(.ref a0_), (.ref b3)])) _
    refine st30 _ ?_
    show Steps p.tables e below (T30.setTop (mkF m 28 #[rv a0_, iv u1, iv u2, .val .null, .val (.long u4), .second] [(.int cn), (.ref b3)])) _
    refine XS.aloadN X30.here hx rfl (hb hby d3_28) rfl rfl ?_
    show Steps p.tables e below (T30.setTop (mkF m 29 #[rv a0_, iv u1, iv u2, .val .null, .val (.long u4), .second] [.null, (.int cn), (.ref b3)])) _
    refine st32 _ ?_
    show Steps p.tables e below (T32.setTop (mkF m 30 #[rv a0_, iv u1, iv u2, .val .null, .val (.long u4), .second] [])) _
    refine XS.aloadN X32.here hx rfl (hb hby d3_30) rfl rfl ?_
    show Steps p.tables e below (T32.setTop (mkF m 31 #[rv a0_, iv u1, iv u2, .val .null, .val (.long u4), .second] [(.ref a0_)])) _
    refine st43 _ ?_
    show Steps p.tables e below (T43.setTop (mkF m 34 #[rv a0_, iv u1, iv u2, .val .null, .val (.long u4), .second] [(.ref b4)])) _
    refine XS.aloadN X43.here hx rfl (hb hby d3_34) rfl rfl ?_
    show Steps p.tables e below (T43.setTop (mkF m 35 #[rv a0_, iv u1, iv u2, .val .null, .val (.long u4), .second] [(.ref a0_), (.ref b4)])) _
    refine st44 _ ?_
    show Steps p.tables e below (T44.setTop (mkF m 38 #[rv a0_, iv u1, iv u2, .val .null, .val (.long u4), .second] [(.int cn), (.ref b4)])) _
    refine XS.lload X44.here hx rfl (hb hby d3_38) rfl ?_
    show Steps p.tables e below (T44.setTop (mkF m 40 #[rv a0_, iv u1, iv u2, .val .null, .val (.long u4), .second] [(.long u4), (.int cn), (.ref b4)])) _
    refine st46 _ ?_
    show Steps p.tables e below (T46.setTop (mkF m 41 #[rv a0_, iv u1, iv u2, .val .null, .val (.long u4), .second] [])) _
    refine XS.aloadN X46.here hx rfl (hb hby d3_41) rfl rfl ?_
    show Steps p.tables e below (T46.setTop (mkF m 42 #[rv a0_, iv u1, iv u2, .val .null, .val (.long u4), .second] [(.ref a0_)])) _
    refine XS.dup X46.here hx rfl (hb hby d3_42) rfl rfl ?_
    show Steps p.tables e below (T46.setTop (mkF m 43 #[rv a0_, iv u1, iv u2, .val .null, .val (.long u4), .second] [(.ref a0_), (.ref a0_)])) _
    refine st57 _ ?_
    show Steps p.tables e below (T57.setTop (mkF m 46 #[rv a0_, iv u1, iv u2, .val .null, .val (.long u4), .second] [(.int cn), (.ref a0_)])) _
    refine XS.iconst X57.here hx rfl (hb hby d3_46) ?_
    show Steps p.tables e below (T57.setTop (mkF m 47 #[rv a0_, iv u1, iv u2, .val .null, .val (.long u4), .second] [(.int (1 : Int32)), (.int cn), (.ref a0_)])) _
    refine XS.iadd X57.here hx rfl (hb hby d3_47) rfl ?_
    show Steps p.tables e below (T57.setTop (mkF m 48 #[rv a0_, iv u1, iv u2, .val .null, .val (.long u4), .second] [(.int (cn + (1 : Int32))), (.ref a0_)])) _
    refine st58 _ ?_
    show Steps p.tables e below (T58.setTop (mkF m 51 #[rv a0_, iv u1, iv u2, .val .null, .val (.long u4), .second] [])) _
    refine XS.aloadN X58.here hx rfl (hb hby d3_51) rfl rfl ?_
    show Steps p.tables e below (T58.setTop (mkF m 52 #[rv a0_, iv u1, iv u2, .val .null, .val (.long u4), .second] [(.ref a0_)])) _
    refine st74 _ ?_
    show Steps p.tables e below (T74.setTop (mkF m 55 #[rv a0_, iv u1, iv u2, .val .null, .val (.long u4), .second] [(.int (cn + (1 : Int32)))])) _
    refine XS.aloadN X74.here hx rfl (hb hby d3_55) rfl rfl ?_
    show Steps p.tables e below (T74.setTop (mkF m 56 #[rv a0_, iv u1, iv u2, .val .null, .val (.long u4), .second] [(.ref a0_), (.int (cn + (1 : Int32)))])) _
    refine st75 _ ?_
    show Steps p.tables e below (T75.setTop (mkF m 59 #[rv a0_, iv u1, iv u2, .val .null, .val (.long u4), .second] [(.ref b1), (.int (cn + (1 : Int32)))])) _
    refine X75.arraylength hx (by rw [e75]; exact Ar76.1) (State.isArrayOf_alike hZ.alike Ar76.2.1) (g := (mkF m 59 #[rv a0_, iv u1, iv u2, .val .null, .val (.long u4), .second] [(.ref b1), (.int (cn + (1 : Int32)))])) rfl rfl (hb hby d3_59) _ ?_
    rw [len_of Sa76 Na76]
    exact k
  by_cases hc78 : (cn + (1 : Int32)) = cap
  · skip
    obtain ⟨fs, hr, hrun, hended, hW, hsame⟩ := X75.leave (v := some (.int (1 : Int32))) (fun h => by rw [Bd.returns] at h; cases h)
    refine ⟨_, _, S77 _ ?_, hrun, hended, _, _, rfl, ?_, ⟨_, rfl⟩, hW, hsame.mono (by decide) (by decide)⟩
    · skip
      show Steps p.tables e below (T75.setTop (mkF m 60 #[rv a0_, iv u1, iv u2, .val .null, .val (.long u4), .second] [(.int cap), (.int (cn + (1 : Int32)))])) _
      refine XS.icmpNo X75.here hx rfl (hb hby d3_60) rfl (teq hc78).2 ?_
      show Steps p.tables e below (T75.setTop (mkF m 63 #[rv a0_, iv u1, iv u2, .val .null, .val (.long u4), .second] [])) _
      refine XS.iconst X75.here hx rfl (hb hby d3_63) ?_
      show Steps p.tables e below (T75.setTop (mkF m 64 #[rv a0_, iv u1, iv u2, .val .null, .val (.long u4), .second] [(.int (1 : Int32))])) _
      refine XS.goto X75.here hx rfl (pc0 := 64) (pc' := 68) rfl (hb hby d3_64) (by decide) (by decide) ?_
      show Steps p.tables e below (T75.setTop (mkF m 68 #[rv a0_, iv u1, iv u2, .val .null, .val (.long u4), .second] [(.int (1 : Int32))])) _
      exact retN X75 hx (t := .boolean) Bd.returns (by simp) (hb hby d3_68) hr
    · show QAddN Z a0_ u1 u2 u4 cap cn ks ns vs hs h0 n0 _ T75.heap _
      rw [e75]
      exact ⟨(by unfold own_ad; rw [if_pos hc78]), N58, Z58, ⟨_, K58⟩, ⟨f63, Fw58, ⟨by simp [ol1], by simp [ol2], by simp [ol3], by simp [ol4]⟩, b1, b2, b3, b4, k1, k2, k3, k4, ⟨og1, og2, og3, og4⟩, ⟨on1, on2, on3, on4⟩, ⟨mb1b2, mb1b3, mb1b4, mb2b3, mb2b4, mb3b4⟩, oO, f59, f60, f61, f62, f67, f69, f71, f73⟩⟩
  · skip
    obtain ⟨fs, hr, hrun, hended, hW, hsame⟩ := X75.leave (v := some (.int (0 : Int32))) (fun h => by rw [Bd.returns] at h; cases h)
    refine ⟨_, _, S77 _ ?_, hrun, hended, _, _, rfl, ?_, ⟨_, rfl⟩, hW, hsame.mono (by decide) (by decide)⟩
    · skip
      show Steps p.tables e below (T75.setTop (mkF m 60 #[rv a0_, iv u1, iv u2, .val .null, .val (.long u4), .second] [(.int cap), (.int (cn + (1 : Int32)))])) _
      refine XS.icmpYes X75.here hx rfl (pc0 := 60) (pc' := 67) rfl (hb hby d3_60) rfl (feq hc78).2 (by decide) (by decide) ?_
      show Steps p.tables e below (T75.setTop (mkF m 67 #[rv a0_, iv u1, iv u2, .val .null, .val (.long u4), .second] [])) _
      refine XS.iconst X75.here hx rfl (hb hby d3_67) ?_
      show Steps p.tables e below (T75.setTop (mkF m 68 #[rv a0_, iv u1, iv u2, .val .null, .val (.long u4), .second] [(.int (0 : Int32))])) _
      exact retN X75 hx (t := .boolean) Bd.returns (by simp) (hb hby d3_68) hr
    · show QAddN Z a0_ u1 u2 u4 cap cn ks ns vs hs h0 n0 _ T75.heap _
      rw [e75]
      exact ⟨(by unfold own_ad; rw [if_neg hc78]), N58, Z58, ⟨_, K58⟩, ⟨f63, Fw58, ⟨by simp [ol1], by simp [ol2], by simp [ol3], by simp [ol4]⟩, b1, b2, b3, b4, k1, k2, k3, k4, ⟨og1, og2, og3, og4⟩, ⟨on1, on2, on3, on4⟩, ⟨mb1b2, mb1b3, mb1b4, mb2b3, mb2b4, mb3b4⟩, oO, f59, f60, f61, f62, f67, f69, f71, f73⟩⟩
def QAddR (Z : State) (a0_ : Addr) (u1 : Int32) (u2 : Int32) (a3_ : Addr) (u4 : Int64) (cap cn : Int32) (ks ns : List Int32) (vs : List Value) (hs : List Int64) (h0 : Heap) (n0 : Nat) (v : Option Value) (h : Heap) (L : List Loc) : Prop := v = some (.int (own_ad cap cn)) ∧ Fr n0 L ∧ n0 ≤ h.size ∧ (∃ ws, Keep h0 h ws) ∧ own_N Z h n0 a0_ cap (cn + (1 : Int32)) (ks.set cn.toNatClampNeg u1) (ns.set cn.toNatClampNeg u2) (vs.set cn.toNatClampNeg (.ref a3_)) (hs.set cn.toNatClampNeg u4)
theorem ef_rmAddR (m : MethodId) (a0_ : Addr) (u1 : Int32) (u2 : Int32) (a3_ : Addr) (u4 : Int64) : entryFrame m #[(.ref a0_), (.int u1), (.int u2), (.ref a3_), (.long u4)] 6 = mkF m 0 #[rv a0_, iv u1, iv u2, rv a3_, .val (.long u4), .second] [] := by first | (simp [entryFrame, mkF, argsToLocals, Value.category]; done) | rfl
set_option maxRecDepth 65536 in
set_option maxHeartbeats 40000000 in
theorem rmAddR (l : Launch) (Z : State) (a0 : Array Value) (hw : ∀ d ∈ tables_1, d.before a0 Z = true) (ws : List Jvm.Cond) (a0_ : Addr) (u1 : Int32) (u2 : Int32) (a3_ : Addr) (u4 : Int64) (cap cn : Int32) (ks ns : List Int32) (vs : List Value) (hs : List Int64) (h0 : Heap) (n0 : Nat) (Z0 : n0 ≤ h0.size) (B0 : own_N Z h0 n0 a0_ cap cn ks ns vs hs) (g0 : n0 ≤ a0_) (hi0 : ¬ cn < 0) (hi1 : cn < cap) (hbk : nar .byte u1 = u1) (Ev : Exa Z h0 a3_ "[B") :
    MetFree l (⟨"com/example/agouti/agouti/store/IndexBuilder$Notes", "add", "(BI[BJ)Z"⟩ : MethodName) (head1 (Jvm.Cond.code (⟨"com/example/agouti/agouti/store/IndexBuilder$Notes", "add", "(BI[BJ)Z"⟩ : MethodName) prog_134_method_2_code 6 (some .boolean) :: ws) ({ frames := 0, cells := 0, slots := 0, locals := 0 } : Room)) (fun a U => a = #[(.ref a0_), (.int u1), (.int u2), (.ref a3_), (.long u4)] ∧ Z.Warmed39 U.vm ∧ U.heap = h0) (fun _ _ _ _ _ => True) (fun _ U o U' => ∃ v L, o = .returned v ∧ QAddR Z a0_ u1 u2 a3_ u4 cap cn ks ns vs hs h0 n0 v U'.heap L ∧ FrameEnd U o U' L ({ frames := 0, cells := 0, slots := 0, locals := 0 } : Room).cells ({ frames := 0, cells := 0, slots := 0, locals := 0 } : Room).slots) := by
  refine MetFree.of_bodySF (plainFor_of_name pn_0) hisR ?_
  intro p e s m args below meth c s₁ Bd hml0 hP hK
  obtain ⟨rfl, hZ, hh⟩ := hP
  have hx := Bd.exec
  have hby := Bd.bytes
  have hml : c.maxLocals = 6 := hml0
  have hown : s.vm.findClass "com/example/agouti/agouti/store/IndexBuilder$Notes" = some m.cls := findClass_of_methodNamed Bd.named
  have hnm := (name_of_methodNamed Bd.named Bd.method).1
  have X0 : Stand p l e ({ frames := 0, cells := 0, slots := 0, locals := 0 } : Room) s m #[(.ref a0_), (.int u1), (.int u2), (.ref a3_), (.long u4)] below meth c s₁ [] 0 0 := Stand.of_body Bd
  have e0 : s₁.heap = h0 := by rw [← hh, Bd.state]; rfl
  have N0 := Fr.nil n0
  have S0 : ∀ t, Steps p.tables e below (s₁.setTop (mkF m 0 #[rv a0_, iv u1, iv u2, rv a3_, .val (.long u4), .second] [])) t → Steps p.tables e below (s₁.setTop (entryFrame m #[(.ref a0_), (.int u1), (.int u2), (.ref a3_), (.long u4)] 6)) t := fun t k => castTop (ef_rmAddR m a0_ u1 u2 a3_ u4) k
  obtain ⟨oE, oC, ⟨ol1, ol2, ol3, ol4⟩, b1, b2, b3, b4, k1, k2, k3, k4, ⟨og1, og2, og3, og4⟩, ⟨on1, on2, on3, on4⟩, ⟨mb1b2, mb1b3, mb1b4, mb2b3, mb2b4, mb3b4⟩, oO, oF1, oF2, oF3, oF4, oV1, oV2, oV3, oV4⟩ := id B0
  have K0 : Keep h0 h0 [a0_, b1, b2, b3, b4] := Keep.refl _ _
  obtain ⟨T1, X1, e1, st1⟩ := getF X0 hx hZ hown (host := "") (Or.inl (hw _ (List.mem_of_getElem? (i := 11) rfl))) Via.refl e0 oF1 (g := (mkF m 1 #[rv a0_, iv u1, iv u2, rv a3_, .val (.long u4), .second] [(.ref a0_)])) rfl rfl (hb hby d3_1)
  obtain ⟨T2, X2, e2, st2⟩ := getF X1 hx hZ hown (host := "") (Or.inl (hw _ (List.mem_of_getElem? (i := 28) rfl))) Via.refl e1 oC (g := (mkF m 5 #[rv a0_, iv u1, iv u2, rv a3_, .val (.long u4), .second] [(.ref a0_), (.ref b1)])) rfl rfl (hb hby d3_5)
  obtain ⟨cl3, Ar3, qa3, Sa3, Na3, Ha3, Ga3⟩ := id oV1
  have hin3 : ¬ (cn < 0 ∨ cl3.slots.size ≤ (cn).toNatClampNeg) := inb_of Sa3 ⟨hi0, hi1⟩
  obtain ⟨T4, h4, X4, e4, W4, st4⟩ := stB X2 hx hZ e2 Ar3 (j := cn) hin3 (g := (mkF m 9 #[rv a0_, iv u1, iv u2, rv a3_, .val (.long u4), .second] [(.int u1), (.int cn), (.ref b1)])) rfl rfl (hb hby d3_9)
  rw [hbk] at W4
  have V4 : Arv Z h4 b1 k1 .byte cap ((ks.set cn.toNatClampNeg u1).map Value.int) (.int (0 : Int32)) := by rw [List.map_set]; exact Arv.set Ar3 qa3 Sa3 Na3 Ha3 Ga3 (hbk ▸ fits_nar_byte u1) W4 cn.toNatClampNeg rfl (by rw [List.length_map, ol1]; exact own_ltn hi0 hi1)
  have N4 := Fr.snoc X4 N0 og1
  have Z4 : n0 ≤ h4.size := Nat.le_trans Z0 (Keep.of_wr W4).1
  have f5 := oE.wr W4
  have f6 := oC.other W4 (Or.inl on1)
  have f7 := oF1.other W4 (Or.inl on1)
  have f9 := oF2.other W4 (Or.inl on1)
  have f10 := oV2.other W4 (Ne.symm mb1b2)
  have f11 := oF3.other W4 (Or.inl on1)
  have f12 := oV3.other W4 (Ne.symm mb1b3)
  have f13 := oF4.other W4 (Or.inl on1)
  have f14 := oV4.other W4 (Ne.symm mb1b4)
  have f15 := Ev.wr W4
  have K4 : Keep h0 h4 [a0_, b1, b2, b3, b4] := K0.wr W4 (Or.inl (List.mem_of_getElem? (i := 1) rfl))
  obtain ⟨T16, X16, e16, st16⟩ := getF X4 hx hZ hown (host := "") (Or.inl (hw _ (List.mem_of_getElem? (i := 14) rfl))) Via.refl e4 f9 (g := (mkF m 11 #[rv a0_, iv u1, iv u2, rv a3_, .val (.long u4), .second] [(.ref a0_)])) rfl rfl (hb hby d3_11)
  obtain ⟨T17, X17, e17, st17⟩ := getF X16 hx hZ hown (host := "") (Or.inl (hw _ (List.mem_of_getElem? (i := 28) rfl))) Via.refl e16 f6 (g := (mkF m 15 #[rv a0_, iv u1, iv u2, rv a3_, .val (.long u4), .second] [(.ref a0_), (.ref b2)])) rfl rfl (hb hby d3_15)
  obtain ⟨cl18, Ar18, qa18, Sa18, Na18, Ha18, Ga18⟩ := id f10
  have hin18 : ¬ (cn < 0 ∨ cl18.slots.size ≤ (cn).toNatClampNeg) := inb_of Sa18 ⟨hi0, hi1⟩
  obtain ⟨T19, h19, X19, e19, W19, st19⟩ := stI X17 hx hZ e17 Ar18 (j := cn) hin18 (g := (mkF m 19 #[rv a0_, iv u1, iv u2, rv a3_, .val (.long u4), .second] [(.int u2), (.int cn), (.ref b2)])) rfl rfl (hb hby d3_19)
  have V19 : Arv Z h19 b2 k2 .int cap ((ns.set cn.toNatClampNeg u2).map Value.int) (.int (0 : Int32)) := by rw [List.map_set]; exact Arv.set Ar18 qa18 Sa18 Na18 Ha18 Ga18 rfl W19 cn.toNatClampNeg rfl (by rw [List.length_map, ol2]; exact own_ltn hi0 hi1)
  have N19 := Fr.snoc X19 N4 og2
  have Z19 : n0 ≤ h19.size := Nat.le_trans Z4 (Keep.of_wr W19).1
  have f20 := f5.wr W19
  have f21 := f6.other W19 (Or.inl on2)
  have f22 := f7.other W19 (Or.inl on2)
  have f23 := V4.other W19 mb1b2
  have f24 := f9.other W19 (Or.inl on2)
  have f26 := f11.other W19 (Or.inl on2)
  have f27 := f12.other W19 (Ne.symm mb2b3)
  have f28 := f13.other W19 (Or.inl on2)
  have f29 := f14.other W19 (Ne.symm mb2b4)
  have f30 := f15.wr W19
  have K19 : Keep h0 h19 [a0_, b1, b2, b3, b4] := K4.wr W19 (Or.inl (List.mem_of_getElem? (i := 2) rfl))
  obtain ⟨T31, X31, e31, st31⟩ := getF X19 hx hZ hown (host := "") (Or.inl (hw _ (List.mem_of_getElem? (i := 18) rfl))) Via.refl e19 f26 (g := (mkF m 21 #[rv a0_, iv u1, iv u2, rv a3_, .val (.long u4), .second] [(.ref a0_)])) rfl rfl (hb hby d3_21)
  obtain ⟨T32, X32, e32, st32⟩ := getF X31 hx hZ hown (host := "") (Or.inl (hw _ (List.mem_of_getElem? (i := 28) rfl))) Via.refl e31 f21 (g := (mkF m 25 #[rv a0_, iv u1, iv u2, rv a3_, .val (.long u4), .second] [(.ref a0_), (.ref b3)])) rfl rfl (hb hby d3_25)
  obtain ⟨cl33, Ar33, qa33, Sa33, Na33, Ha33, Ga33⟩ := id f27
  have hin33 : ¬ (cn < 0 ∨ cl33.slots.size ≤ (cn).toNatClampNeg) := inb_of Sa33 ⟨hi0, hi1⟩
  obtain ⟨T34, h34, X34, e34, W34, st34⟩ := stR X32 hx hZ e32 Ar33 (j := cn) hin33 rfl (Sto.ofVA Ar33 qa33 oO (Ins.self f30)) (g := (mkF m 29 #[rv a0_, iv u1, iv u2, rv a3_, .val (.long u4), .second] [(.ref a3_), (.int cn), (.ref b3)])) rfl rfl (hb hby d3_29)
  have V34 : Arv Z h34 b3 k3 (.array .byte) cap (vs.set cn.toNatClampNeg (.ref a3_)) .null := Arv.set Ar33 qa33 Sa33 Na33 Ha33 Ga33 rfl W34 cn.toNatClampNeg rfl (by rw [ol3]; exact own_ltn hi0 hi1)
  have N34 := Fr.snoc X34 N19 og3
  have Z34 : n0 ≤ h34.size := Nat.le_trans Z19 (Keep.of_wr W34).1
  have f35 := f20.wr W34
  have f36 := f21.other W34 (Or.inl on3)
  have f37 := f22.other W34 (Or.inl on3)
  have f38 := f23.other W34 mb1b3
  have f39 := f24.other W34 (Or.inl on3)
  have f40 := V19.other W34 mb2b3
  have f41 := f26.other W34 (Or.inl on3)
  have f43 := f28.other W34 (Or.inl on3)
  have f44 := f29.other W34 (Ne.symm mb3b4)
  have f45 := f30.wr W34
  have K34 : Keep h0 h34 [a0_, b1, b2, b3, b4] := K19.wr W34 (Or.inl (List.mem_of_getElem? (i := 3) rfl))
  obtain ⟨T46, X46, e46, st46⟩ := getF X34 hx hZ hown (host := "") (Or.inl (hw _ (List.mem_of_getElem? (i := 21) rfl))) Via.refl e34 f43 (g := (mkF m 31 #[rv a0_, iv u1, iv u2, rv a3_, .val (.long u4), .second] [(.ref a0_)])) rfl rfl (hb hby d3_31)
  obtain ⟨T47, X47, e47, st47⟩ := getF X46 hx hZ hown (host := "") (Or.inl (hw _ (List.mem_of_getElem? (i := 28) rfl))) Via.refl e46 f36 (g := (mkF m 35 #[rv a0_, iv u1, iv u2, rv a3_, .val (.long u4), .second] [(.ref a0_), (.ref b4)])) rfl rfl (hb hby d3_35)
  obtain ⟨cl48, Ar48, qa48, Sa48, Na48, Ha48, Ga48⟩ := id f44
  have hin48 : ¬ (cn < 0 ∨ cl48.slots.size ≤ (cn).toNatClampNeg) := inb_of Sa48 ⟨hi0, hi1⟩
  obtain ⟨T49, h49, X49, e49, W49, st49⟩ := stJ X47 hx hZ e47 Ar48 (j := cn) hin48 (g := (mkF m 40 #[rv a0_, iv u1, iv u2, rv a3_, .val (.long u4), .second] [(.long u4), (.int cn), (.ref b4)])) rfl rfl (hb hby d3_40)
  have V49 : Arv Z h49 b4 k4 .long cap ((hs.set cn.toNatClampNeg u4).map Value.long) (.long (0 : Int64)) := by rw [List.map_set]; exact Arv.set Ar48 qa48 Sa48 Na48 Ha48 Ga48 rfl W49 cn.toNatClampNeg rfl (by rw [List.length_map, ol4]; exact own_ltn hi0 hi1)
  have N49 := Fr.snoc X49 N34 og4
  have Z49 : n0 ≤ h49.size := Nat.le_trans Z34 (Keep.of_wr W49).1
  have f50 := f35.wr W49
  have f51 := f36.other W49 (Or.inl on4)
  have f52 := f37.other W49 (Or.inl on4)
  have f53 := f38.other W49 mb1b4
  have f54 := f39.other W49 (Or.inl on4)
  have f55 := f40.other W49 mb2b4
  have f56 := f41.other W49 (Or.inl on4)
  have f57 := V34.other W49 mb3b4
  have f58 := f43.other W49 (Or.inl on4)
  have f60 := f45.wr W49
  have K49 : Keep h0 h49 [a0_, b1, b2, b3, b4] := K34.wr W49 (Or.inl (List.mem_of_getElem? (i := 4) rfl))
  obtain ⟨T61, X61, e61, st61⟩ := getF X49 hx hZ hown (host := "") (Or.inl (hw _ (List.mem_of_getElem? (i := 28) rfl))) Via.refl e49 f51 (g := (mkF m 43 #[rv a0_, iv u1, iv u2, rv a3_, .val (.long u4), .second] [(.ref a0_), (.ref a0_)])) rfl rfl (hb hby d3_43)
  obtain ⟨T62, h62, X62, e62, W62, st62⟩ := putF X61 hx hZ hown (host := "") (Or.inl (hw _ (List.mem_of_getElem? (i := 28) rfl))) Via.refl e61 f51 f50 (Or.inl (hw _ (List.mem_of_getElem? (i := 29) rfl))) (hw _ (List.mem_of_getElem? (i := 2) rfl)) (ty := .int) (by decide) rfl rfl (g := (mkF m 48 #[rv a0_, iv u1, iv u2, rv a3_, .val (.long u4), .second] [(.int (cn + (1 : Int32))), (.ref a0_)])) rfl rfl (hb hby d3_48)
  have Fw62 := f51.same W62
  have f63 := f52.other W62 (Or.inr (slot_ne (Or.inr (hw _ (List.mem_of_getElem? (i := 12) rfl))) (Or.inl (hw _ (List.mem_of_getElem? (i := 29) rfl))) (by decide) (t := (.array .byte)) (t' := .int) (by decide) (by decide)))
  have f64 := f54.other W62 (Or.inr (slot_ne (Or.inr (hw _ (List.mem_of_getElem? (i := 15) rfl))) (Or.inl (hw _ (List.mem_of_getElem? (i := 29) rfl))) (by decide) (t := (.array .int)) (t' := .int) (by decide) (by decide)))
  have f65 := f56.other W62 (Or.inr (slot_ne (Or.inl (hw _ (List.mem_of_getElem? (i := 19) rfl))) (Or.inl (hw _ (List.mem_of_getElem? (i := 29) rfl))) (by decide) (t := (.array (.array .byte))) (t' := .int) (by decide) (by decide)))
  have f66 := f58.other W62 (Or.inr (slot_ne (Or.inr (hw _ (List.mem_of_getElem? (i := 22) rfl))) (Or.inl (hw _ (List.mem_of_getElem? (i := 29) rfl))) (by decide) (t := (.array .long)) (t' := .int) (by decide) (by decide)))
  have f67 := f50.wr W62
  have f71 := f53.other W62 (Ne.symm on1)
  have f73 := f55.other W62 (Ne.symm on2)
  have f75 := f57.other W62 (Ne.symm on3)
  have f77 := V49.other W62 (Ne.symm on4)
  have f78 := f60.wr W62
  have N62 := Fr.snoc X62 N49 g0
  have Z62 : n0 ≤ h62.size := Nat.le_trans Z49 (Keep.of_wr W62).1
  have K62 : Keep h0 h62 [a0_, b1, b2, b3, b4] := K49.wr W62 (Or.inl (List.mem_of_getElem? (i := 0) rfl))
  obtain ⟨T79, X79, e79, st79⟩ := getF X62 hx hZ hown (host := "") (Or.inl (hw _ (List.mem_of_getElem? (i := 28) rfl))) Via.refl e62 Fw62 (g := (mkF m 52 #[rv a0_, iv u1, iv u2, rv a3_, .val (.long u4), .second] [(.ref a0_)])) rfl rfl (hb hby d3_52)
  obtain ⟨T80, X80, e80, st80⟩ := getF X79 hx hZ hown (host := "") (Or.inl (hw _ (List.mem_of_getElem? (i := 11) rfl))) Via.refl e79 f63 (g := (mkF m 56 #[rv a0_, iv u1, iv u2, rv a3_, .val (.long u4), .second] [(.ref a0_), (.int (cn + (1 : Int32)))])) rfl rfl (hb hby d3_56)
  obtain ⟨cl81, Ar81, qa81, Sa81, Na81, Ha81, Ga81⟩ := id f71
  have S82 : ∀ t, Steps p.tables e below (T80.setTop (mkF m 60 #[rv a0_, iv u1, iv u2, rv a3_, .val (.long u4), .second] [(.int cap), (.int (cn + (1 : Int32)))])) t → Steps p.tables e below (s₁.setTop (entryFrame m #[(.ref a0_), (.int u1), (.int u2), (.ref a3_), (.long u4)] 6)) t := by
    intro t k
    refine S0 t ?_
    show Steps p.tables e below (s₁.setTop (mkF m 0 #[rv a0_, iv u1, iv u2, rv a3_, .val (.long u4), .second] [])) _
    refine XS.aloadN X0.here hx rfl (hb hby d3_0) rfl rfl ?_
    show Steps p.tables e below (s₁.setTop (mkF m 1 #[rv a0_, iv u1, iv u2, rv a3_, .val (.long u4), .second] [(.ref a0_)])) _
    refine st1 _ ?_
    show Steps p.tables e below (T1.setTop (mkF m 4 #[rv a0_, iv u1, iv u2, rv a3_, .val (.long u4), .second] [(.ref b1)])) _
    refine XS.aloadN X1.here hx rfl (hb hby d3_4) rfl rfl ?_
    show Steps p.tables e below (T1.setTop (mkF m 5 #[rv a0_, iv u1, iv u2, rv a3_, .val (.long u4), .second] [(.ref a0_), (.ref b1)])) _
    refine st2 _ ?_
    show Steps p.tables e below (T2.setTop (mkF m 8 #[rv a0_, iv u1, iv u2, rv a3_, .val (.long u4), .second] [(.int cn), (.ref b1)])) _
    refine XS.iloadN X2.here hx rfl (hb hby d3_8) rfl ?_
    show Steps p.tables e below (T2.setTop (mkF m 9 #[rv a0_, iv u1, iv u2, rv a3_, .val (.long u4), .second] [(.int u1), (.int cn), (.ref b1)])) _
    refine st4 _ ?_
    show Steps p.tables e below (T4.setTop (mkF m 10 #[rv a0_, iv u1, iv u2, rv a3_, .val (.long u4), .second] [])) _
    refine XS.aloadN X4.here hx rfl (hb hby d3_10) rfl rfl ?_
    show Steps p.tables e below (T4.setTop (mkF m 11 #[rv a0_, iv u1, iv u2, rv a3_, .val (.long u4), .second] [(.ref a0_)])) _
    refine st16 _ ?_
    show Steps p.tables e below (T16.setTop (mkF m 14 #[rv a0_, iv u1, iv u2, rv a3_, .val (.long u4), .second] [(.ref b2)])) _
    refine XS.aloadN X16.here hx rfl (hb hby d3_14) rfl rfl ?_
    show Steps p.tables e below (T16.setTop (mkF m 15 #[rv a0_, iv u1, iv u2, rv a3_, .val (.long u4), .second] [(.ref a0_), (.ref b2)])) _
    refine st17 _ ?_
    show Steps p.tables e below (T17.setTop (mkF m 18 #[rv a0_, iv u1, iv u2, rv a3_, .val (.long u4), .second] [(.int cn), (.ref b2)])) _
    refine XS.iloadN X17.here hx rfl (hb hby d3_18) rfl ?_
    show Steps p.tables e below (T17.setTop (mkF m 19 #[rv a0_, iv u1, iv u2, rv a3_, .val (.long u4), .second] [(.int u2), (.int cn), (.ref b2)])) _
    refine st19 _ ?_
    show Steps p.tables e below (T19.setTop (mkF m 20 #[rv a0_, iv u1, iv u2, rv a3_, .val (.long u4), .second] [])) _
    refine XS.aloadN X19.here hx rfl (hb hby d3_20) rfl rfl ?_
    show Steps p.tables e below (T19.setTop (mkF m 21 #[rv a0_, iv u1, iv u2, rv a3_, .val (.long u4), .second] [(.ref a0_)])) _
    refine st31 _ ?_
    show Steps p.tables e below (T31.setTop (mkF m 24 #[rv a0_, iv u1, iv u2, rv a3_, .val (.long u4), .second] [(.ref b3)])) _
    refine XS.aloadN X31.here hx rfl (hb hby d3_24) rfl rfl ?_
    show Steps p.tables e below (T31.setTop (mkF m 25 #[rv a0_, iv u1, iv u2, rv a3_, .val (.long u4), .second] [(.ref a0_), (.ref b3)])) _
    refine st32 _ ?_
    show Steps p.tables e below (T32.setTop (mkF m 28 #[rv a0_, iv u1, iv u2, rv a3_, .val (.long u4), .second] [(.int cn), (.ref b3)])) _
    refine XS.aloadN X32.here hx rfl (hb hby d3_28) rfl rfl ?_
    show Steps p.tables e below (T32.setTop (mkF m 29 #[rv a0_, iv u1, iv u2, rv a3_, .val (.long u4), .second] [(.ref a3_), (.int cn), (.ref b3)])) _
    refine st34 _ ?_
    show Steps p.tables e below (T34.setTop (mkF m 30 #[rv a0_, iv u1, iv u2, rv a3_, .val (.long u4), .second] [])) _
    refine XS.aloadN X34.here hx rfl (hb hby d3_30) rfl rfl ?_
    show Steps p.tables e below (T34.setTop (mkF m 31 #[rv a0_, iv u1, iv u2, rv a3_, .val (.long u4), .second] [(.ref a0_)])) _
    refine st46 _ ?_
    show Steps p.tables e below (T46.setTop (mkF m 34 #[rv a0_, iv u1, iv u2, rv a3_, .val (.long u4), .second] [(.ref b4)])) _
    refine XS.aloadN X46.here hx rfl (hb hby d3_34) rfl rfl ?_
    show Steps p.tables e below (T46.setTop (mkF m 35 #[rv a0_, iv u1, iv u2, rv a3_, .val (.long u4), .second] [(.ref a0_), (.ref b4)])) _
    refine st47 _ ?_
    show Steps p.tables e below (T47.setTop (mkF m 38 #[rv a0_, iv u1, iv u2, rv a3_, .val (.long u4), .second] [(.int cn), (.ref b4)])) _
    refine XS.lload X47.here hx rfl (hb hby d3_38) rfl ?_
    show Steps p.tables e below (T47.setTop (mkF m 40 #[rv a0_, iv u1, iv u2, rv a3_, .val (.long u4), .second] [(.long u4), (.int cn), (.ref b4)])) _
    refine st49 _ ?_
    show Steps p.tables e below (T49.setTop (mkF m 41 #[rv a0_, iv u1, iv u2, rv a3_, .val (.long u4), .second] [])) _
    refine XS.aloadN X49.here hx rfl (hb hby d3_41) rfl rfl ?_
    show Steps p.tables e below (T49.setTop (mkF m 42 #[rv a0_, iv u1, iv u2, rv a3_, .val (.long u4), .second] [(.ref a0_)])) _
    refine XS.dup X49.here hx rfl (hb hby d3_42) rfl rfl ?_
    show Steps p.tables e below (T49.setTop (mkF m 43 #[rv a0_, iv u1, iv u2, rv a3_, .val (.long u4), .second] [(.ref a0_), (.ref a0_)])) _
    refine st61 _ ?_
    show Steps p.tables e below (T61.setTop (mkF m 46 #[rv a0_, iv u1, iv u2, rv a3_, .val (.long u4), .second] [(.int cn), (.ref a0_)])) _
    refine XS.iconst X61.here hx rfl (hb hby d3_46) ?_
    show Steps p.tables e below (T61.setTop (mkF m 47 #[rv a0_, iv u1, iv u2, rv a3_, .val (.long u4), .second] [(.int (1 : Int32)), (.int cn), (.ref a0_)])) _
    refine XS.iadd X61.here hx rfl (hb hby d3_47) rfl ?_
    show Steps p.tables e below (T61.setTop (mkF m 48 #[rv a0_, iv u1, iv u2, rv a3_, .val (.long u4), .second] [(.int (cn + (1 : Int32))), (.ref a0_)])) _
    refine st62 _ ?_
    show Steps p.tables e below (T62.setTop (mkF m 51 #[rv a0_, iv u1, iv u2, rv a3_, .val (.long u4), .second] [])) _
    refine XS.aloadN X62.here hx rfl (hb hby d3_51) rfl rfl ?_
    show Steps p.tables e below (T62.setTop (mkF m 52 #[rv a0_, iv u1, iv u2, rv a3_, .val (.long u4), .second] [(.ref a0_)])) _
    refine st79 _ ?_
    show Steps p.tables e below (T79.setTop (mkF m 55 #[rv a0_, iv u1, iv u2, rv a3_, .val (.long u4), .second] [(.int (cn + (1 : Int32)))])) _
    refine XS.aloadN X79.here hx rfl (hb hby d3_55) rfl rfl ?_
    show Steps p.tables e below (T79.setTop (mkF m 56 #[rv a0_, iv u1, iv u2, rv a3_, .val (.long u4), .second] [(.ref a0_), (.int (cn + (1 : Int32)))])) _
    refine st80 _ ?_
    show Steps p.tables e below (T80.setTop (mkF m 59 #[rv a0_, iv u1, iv u2, rv a3_, .val (.long u4), .second] [(.ref b1), (.int (cn + (1 : Int32)))])) _
    refine X80.arraylength hx (by rw [e80]; exact Ar81.1) (State.isArrayOf_alike hZ.alike Ar81.2.1) (g := (mkF m 59 #[rv a0_, iv u1, iv u2, rv a3_, .val (.long u4), .second] [(.ref b1), (.int (cn + (1 : Int32)))])) rfl rfl (hb hby d3_59) _ ?_
    rw [len_of Sa81 Na81]
    exact k
  by_cases hc83 : (cn + (1 : Int32)) = cap
  · skip
    obtain ⟨fs, hr, hrun, hended, hW, hsame⟩ := X80.leave (v := some (.int (1 : Int32))) (fun h => by rw [Bd.returns] at h; cases h)
    refine ⟨_, _, S82 _ ?_, hrun, hended, _, _, rfl, ?_, ⟨_, rfl⟩, hW, hsame.mono (by decide) (by decide)⟩
    · skip
      show Steps p.tables e below (T80.setTop (mkF m 60 #[rv a0_, iv u1, iv u2, rv a3_, .val (.long u4), .second] [(.int cap), (.int (cn + (1 : Int32)))])) _
      refine XS.icmpNo X80.here hx rfl (hb hby d3_60) rfl (teq hc83).2 ?_
      show Steps p.tables e below (T80.setTop (mkF m 63 #[rv a0_, iv u1, iv u2, rv a3_, .val (.long u4), .second] [])) _
      refine XS.iconst X80.here hx rfl (hb hby d3_63) ?_
      show Steps p.tables e below (T80.setTop (mkF m 64 #[rv a0_, iv u1, iv u2, rv a3_, .val (.long u4), .second] [(.int (1 : Int32))])) _
      refine XS.goto X80.here hx rfl (pc0 := 64) (pc' := 68) rfl (hb hby d3_64) (by decide) (by decide) ?_
      show Steps p.tables e below (T80.setTop (mkF m 68 #[rv a0_, iv u1, iv u2, rv a3_, .val (.long u4), .second] [(.int (1 : Int32))])) _
      exact retN X80 hx (t := .boolean) Bd.returns (by simp) (hb hby d3_68) hr
    · show QAddR Z a0_ u1 u2 a3_ u4 cap cn ks ns vs hs h0 n0 _ T80.heap _
      rw [e80]
      exact ⟨(by unfold own_ad; rw [if_pos hc83]), N62, Z62, ⟨_, K62⟩, ⟨f67, Fw62, ⟨by simp [ol1], by simp [ol2], by simp [ol3], by simp [ol4]⟩, b1, b2, b3, b4, k1, k2, k3, k4, ⟨og1, og2, og3, og4⟩, ⟨on1, on2, on3, on4⟩, ⟨mb1b2, mb1b3, mb1b4, mb2b3, mb2b4, mb3b4⟩, oO, f63, f64, f65, f66, f71, f73, f75, f77⟩⟩
  · skip
    obtain ⟨fs, hr, hrun, hended, hW, hsame⟩ := X80.leave (v := some (.int (0 : Int32))) (fun h => by rw [Bd.returns] at h; cases h)
    refine ⟨_, _, S82 _ ?_, hrun, hended, _, _, rfl, ?_, ⟨_, rfl⟩, hW, hsame.mono (by decide) (by decide)⟩
    · skip
      show Steps p.tables e below (T80.setTop (mkF m 60 #[rv a0_, iv u1, iv u2, rv a3_, .val (.long u4), .second] [(.int cap), (.int (cn + (1 : Int32)))])) _
      refine XS.icmpYes X80.here hx rfl (pc0 := 60) (pc' := 67) rfl (hb hby d3_60) rfl (feq hc83).2 (by decide) (by decide) ?_
      show Steps p.tables e below (T80.setTop (mkF m 67 #[rv a0_, iv u1, iv u2, rv a3_, .val (.long u4), .second] [])) _
      refine XS.iconst X80.here hx rfl (hb hby d3_67) ?_
      show Steps p.tables e below (T80.setTop (mkF m 68 #[rv a0_, iv u1, iv u2, rv a3_, .val (.long u4), .second] [(.int (0 : Int32))])) _
      exact retN X80 hx (t := .boolean) Bd.returns (by simp) (hb hby d3_68) hr
    · show QAddR Z a0_ u1 u2 a3_ u4 cap cn ks ns vs hs h0 n0 _ T80.heap _
      rw [e80]
      exact ⟨(by unfold own_ad; rw [if_neg hc83]), N62, Z62, ⟨_, K62⟩, ⟨f67, Fw62, ⟨by simp [ol1], by simp [ol2], by simp [ol3], by simp [ol4]⟩, b1, b2, b3, b4, k1, k2, k3, k4, ⟨og1, og2, og3, og4⟩, ⟨on1, on2, on3, on4⟩, ⟨mb1b2, mb1b3, mb1b4, mb2b3, mb2b4, mb3b4⟩, oO, f63, f64, f65, f66, f71, f73, f75, f77⟩⟩
theorem d4_0 : decode prog_134_method_3_code 0 = .ok (.aload_n 0, 1) := by decide +kernel
theorem d4_1 : decode prog_134_method_3_code 1 = .ok (.getfield 26, 3) := by decide +kernel
theorem d4_4 : decode prog_134_method_3_code 4 = .ok (.ireturn, 1) := by decide +kernel
def QCount (Z : State) (a0_ : Addr) (cap cn : Int32) (ks ns : List Int32) (vs : List Value) (hs : List Int64) (h0 : Heap) (n0 : Nat) (v : Option Value) (h : Heap) (L : List Loc) : Prop := v = some (.int cn) ∧ Fr n0 L ∧ h = h0
theorem ef_rmCount (m : MethodId) (a0_ : Addr) : entryFrame m #[(.ref a0_)] 1 = mkF m 0 #[rv a0_] [] := by first | (simp [entryFrame, mkF, argsToLocals, Value.category]; done) | rfl
set_option maxRecDepth 65536 in
set_option maxHeartbeats 40000000 in
theorem rmCount (l : Launch) (Z : State) (a0 : Array Value) (hw : ∀ d ∈ tables_1, d.before a0 Z = true) (ws : List Jvm.Cond) (a0_ : Addr) (cap cn : Int32) (ks ns : List Int32) (vs : List Value) (hs : List Int64) (h0 : Heap) (n0 : Nat) (Z0 : n0 ≤ h0.size) (B0 : own_N Z h0 n0 a0_ cap cn ks ns vs hs) :
    MetFree l (⟨"com/example/agouti/agouti/store/IndexBuilder$Notes", "count", "()I"⟩ : MethodName) (head1 (Jvm.Cond.code (⟨"com/example/agouti/agouti/store/IndexBuilder$Notes", "count", "()I"⟩ : MethodName) prog_134_method_3_code 1 (some .int) :: ws) ({ frames := 0, cells := 0, slots := 0, locals := 0 } : Room)) (fun a U => a = #[(.ref a0_)] ∧ Z.Warmed39 U.vm ∧ U.heap = h0) (fun _ _ _ _ _ => True) (fun _ U o U' => ∃ v L, o = .returned v ∧ QCount Z a0_ cap cn ks ns vs hs h0 n0 v U'.heap L ∧ FrameEnd U o U' L ({ frames := 0, cells := 0, slots := 0, locals := 0 } : Room).cells ({ frames := 0, cells := 0, slots := 0, locals := 0 } : Room).slots) := by
  refine MetFree.of_bodySF (plainFor_of_name pn_0) hisR ?_
  intro p e s m args below meth c s₁ Bd hml0 hP hK
  obtain ⟨rfl, hZ, hh⟩ := hP
  have hx := Bd.exec
  have hby := Bd.bytes
  have hml : c.maxLocals = 1 := hml0
  have hown : s.vm.findClass "com/example/agouti/agouti/store/IndexBuilder$Notes" = some m.cls := findClass_of_methodNamed Bd.named
  have hnm := (name_of_methodNamed Bd.named Bd.method).1
  have X0 : Stand p l e ({ frames := 0, cells := 0, slots := 0, locals := 0 } : Room) s m #[(.ref a0_)] below meth c s₁ [] 0 0 := Stand.of_body Bd
  have e0 : s₁.heap = h0 := by rw [← hh, Bd.state]; rfl
  have N0 := Fr.nil n0
  have S0 : ∀ t, Steps p.tables e below (s₁.setTop (mkF m 0 #[rv a0_] [])) t → Steps p.tables e below (s₁.setTop (entryFrame m #[(.ref a0_)] 1)) t := fun t k => castTop (ef_rmCount m a0_) k
  obtain ⟨oE, oC, ⟨ol1, ol2, ol3, ol4⟩, b1, b2, b3, b4, k1, k2, k3, k4, ⟨og1, og2, og3, og4⟩, ⟨on1, on2, on3, on4⟩, ⟨mb1b2, mb1b3, mb1b4, mb2b3, mb2b4, mb3b4⟩, oO, oF1, oF2, oF3, oF4, oV1, oV2, oV3, oV4⟩ := id B0
  obtain ⟨T1, X1, e1, st1⟩ := getF X0 hx hZ hown (host := "") (Or.inl (hw _ (List.mem_of_getElem? (i := 28) rfl))) Via.refl e0 oC (g := (mkF m 1 #[rv a0_] [(.ref a0_)])) rfl rfl (hb hby d4_1)
  obtain ⟨fs, hr, hrun, hended, hW, hsame⟩ := X1.leave (v := some (.int cn)) (fun h => by rw [Bd.returns] at h; cases h)
  refine ⟨_, _, S0 _ ?_, hrun, hended, _, _, rfl, ?_, ⟨_, rfl⟩, hW, hsame.mono (by decide) (by decide)⟩
  · skip
    show Steps p.tables e below (s₁.setTop (mkF m 0 #[rv a0_] [])) _
    refine XS.aloadN X0.here hx rfl (hb hby d4_0) rfl rfl ?_
    show Steps p.tables e below (s₁.setTop (mkF m 1 #[rv a0_] [(.ref a0_)])) _
    refine st1 _ ?_
    show Steps p.tables e below (T1.setTop (mkF m 4 #[rv a0_] [(.int cn)])) _
    exact retI X1 hx Bd.returns (hb hby d4_4) hr
  · show QCount Z a0_ cap cn ks ns vs hs h0 n0 _ T1.heap _
    rw [e1]
    exact ⟨rfl, N0, rfl⟩
theorem d5_0 : decode prog_134_method_4_code 0 = .ok (.aload_n 0, 1) := by decide +kernel
theorem d5_1 : decode prog_134_method_4_code 1 = .ok (.getfield 7, 3) := by decide +kernel
theorem d5_4 : decode prog_134_method_4_code 4 = .ok (.iload_n 1, 1) := by decide +kernel
theorem d5_5 : decode prog_134_method_4_code 5 = .ok (.baload, 1) := by decide +kernel
theorem d5_6 : decode prog_134_method_4_code 6 = .ok (.ireturn, 1) := by decide +kernel
def QKind (Z : State) (a0_ : Addr) (u1 : Int32) (cap cn : Int32) (ks ns : List Int32) (vs : List Value) (hs : List Int64) (y : Int32) (h0 : Heap) (n0 : Nat) (v : Option Value) (h : Heap) (L : List Loc) : Prop := v = some (.int y) ∧ Fr n0 L ∧ h = h0
theorem ef_rmKind (m : MethodId) (a0_ : Addr) (u1 : Int32) : entryFrame m #[(.ref a0_), (.int u1)] 2 = mkF m 0 #[rv a0_, iv u1] [] := by first | (simp [entryFrame, mkF, argsToLocals, Value.category]; done) | rfl
set_option maxRecDepth 65536 in
set_option maxHeartbeats 40000000 in
theorem rmKind (l : Launch) (Z : State) (a0 : Array Value) (hw : ∀ d ∈ tables_1, d.before a0 Z = true) (ws : List Jvm.Cond) (a0_ : Addr) (u1 : Int32) (cap cn : Int32) (ks ns : List Int32) (vs : List Value) (hs : List Int64) (y : Int32) (h0 : Heap) (n0 : Nat) (Z0 : n0 ≤ h0.size) (B0 : own_N Z h0 n0 a0_ cap cn ks ns vs hs) (hi0 : ¬ u1 < 0) (hi1 : u1 < cap) (hy : ks.getD u1.toNatClampNeg 0 = y) (hbk : nar .byte y = y) :
    MetFree l (⟨"com/example/agouti/agouti/store/IndexBuilder$Notes", "kind", "(I)B"⟩ : MethodName) (head1 (Jvm.Cond.code (⟨"com/example/agouti/agouti/store/IndexBuilder$Notes", "kind", "(I)B"⟩ : MethodName) prog_134_method_4_code 2 (some .byte) :: ws) ({ frames := 0, cells := 0, slots := 0, locals := 0 } : Room)) (fun a U => a = #[(.ref a0_), (.int u1)] ∧ Z.Warmed39 U.vm ∧ U.heap = h0) (fun _ _ _ _ _ => True) (fun _ U o U' => ∃ v L, o = .returned v ∧ QKind Z a0_ u1 cap cn ks ns vs hs y h0 n0 v U'.heap L ∧ FrameEnd U o U' L ({ frames := 0, cells := 0, slots := 0, locals := 0 } : Room).cells ({ frames := 0, cells := 0, slots := 0, locals := 0 } : Room).slots) := by
  refine MetFree.of_bodySF (plainFor_of_name pn_0) hisR ?_
  intro p e s m args below meth c s₁ Bd hml0 hP hK
  obtain ⟨rfl, hZ, hh⟩ := hP
  have hx := Bd.exec
  have hby := Bd.bytes
  have hml : c.maxLocals = 2 := hml0
  have hown : s.vm.findClass "com/example/agouti/agouti/store/IndexBuilder$Notes" = some m.cls := findClass_of_methodNamed Bd.named
  have hnm := (name_of_methodNamed Bd.named Bd.method).1
  have X0 : Stand p l e ({ frames := 0, cells := 0, slots := 0, locals := 0 } : Room) s m #[(.ref a0_), (.int u1)] below meth c s₁ [] 0 0 := Stand.of_body Bd
  have e0 : s₁.heap = h0 := by rw [← hh, Bd.state]; rfl
  have N0 := Fr.nil n0
  have S0 : ∀ t, Steps p.tables e below (s₁.setTop (mkF m 0 #[rv a0_, iv u1] [])) t → Steps p.tables e below (s₁.setTop (entryFrame m #[(.ref a0_), (.int u1)] 2)) t := fun t k => castTop (ef_rmKind m a0_ u1) k
  obtain ⟨oE, oC, ⟨ol1, ol2, ol3, ol4⟩, b1, b2, b3, b4, k1, k2, k3, k4, ⟨og1, og2, og3, og4⟩, ⟨on1, on2, on3, on4⟩, ⟨mb1b2, mb1b3, mb1b4, mb2b3, mb2b4, mb3b4⟩, oO, oF1, oF2, oF3, oF4, oV1, oV2, oV3, oV4⟩ := id B0
  obtain ⟨T1, X1, e1, st1⟩ := getF X0 hx hZ hown (host := "") (Or.inl (hw _ (List.mem_of_getElem? (i := 11) rfl))) Via.refl e0 oF1 (g := (mkF m 1 #[rv a0_, iv u1] [(.ref a0_)])) rfl rfl (hb hby d5_1)
  obtain ⟨cl2, Ar2, qa2, Sa2, Na2, Ha2, Ga2⟩ := id oV1
  have hin2 : ¬ (u1 < 0 ∨ cl2.slots.size ≤ (u1).toNatClampNeg) := inb_of Sa2 ⟨hi0, hi1⟩
  obtain ⟨fs, hr, hrun, hended, hW, hsame⟩ := X1.leave (v := some (.int y)) (fun h => by rw [Bd.returns] at h; cases h)
  refine ⟨_, _, S0 _ ?_, hrun, hended, _, _, rfl, ?_, ⟨_, rfl⟩, hW, hsame.mono (by decide) (by decide)⟩
  · skip
    show Steps p.tables e below (s₁.setTop (mkF m 0 #[rv a0_, iv u1] [])) _
    refine XS.aloadN X0.here hx rfl (hb hby d5_0) rfl rfl ?_
    show Steps p.tables e below (s₁.setTop (mkF m 1 #[rv a0_, iv u1] [(.ref a0_)])) _
    refine st1 _ ?_
    show Steps p.tables e below (T1.setTop (mkF m 4 #[rv a0_, iv u1] [(.ref b1)])) _
    refine XS.iloadN X1.here hx rfl (hb hby d5_4) rfl ?_
    show Steps p.tables e below (T1.setTop (mkF m 5 #[rv a0_, iv u1] [(.int u1), (.ref b1)])) _
    refine X1.baloadBytes hx (j := u1) (v := (.int y)) (by rw [e1]; exact Ar2.1) (State.isArrayOf_alike hZ.alike Ar2.2.1) Ar2.2.2 hin2 (Has.at Ha2 hin2 ((own_getint ks _).trans (congrArg Value.int hy))) (g := (mkF m 5 #[rv a0_, iv u1] [(.int u1), (.ref b1)])) rfl rfl (hb hby d5_5) _ ?_
    show Steps p.tables e below (T1.setTop (mkF m 6 #[rv a0_, iv u1] [(.int y)])) _
    exact retN X1 hx (t := .byte) Bd.returns (by simp) (hb hby d5_6) (by rw [hbk]; exact hr)
  · show QKind Z a0_ u1 cap cn ks ns vs hs y h0 n0 _ T1.heap _
    rw [e1]
    exact ⟨rfl, N0, rfl⟩
theorem d6_0 : decode prog_134_method_5_code 0 = .ok (.aload_n 0, 1) := by decide +kernel
theorem d6_1 : decode prog_134_method_5_code 1 = .ok (.getfield 13, 3) := by decide +kernel
theorem d6_4 : decode prog_134_method_5_code 4 = .ok (.iload_n 1, 1) := by decide +kernel
theorem d6_5 : decode prog_134_method_5_code 5 = .ok (.iaload, 1) := by decide +kernel
theorem d6_6 : decode prog_134_method_5_code 6 = .ok (.ireturn, 1) := by decide +kernel
def QNode (Z : State) (a0_ : Addr) (u1 : Int32) (cap cn : Int32) (ks ns : List Int32) (vs : List Value) (hs : List Int64) (y : Int32) (h0 : Heap) (n0 : Nat) (v : Option Value) (h : Heap) (L : List Loc) : Prop := v = some (.int y) ∧ Fr n0 L ∧ h = h0
theorem ef_rmNode (m : MethodId) (a0_ : Addr) (u1 : Int32) : entryFrame m #[(.ref a0_), (.int u1)] 2 = mkF m 0 #[rv a0_, iv u1] [] := by first | (simp [entryFrame, mkF, argsToLocals, Value.category]; done) | rfl
set_option maxRecDepth 65536 in
set_option maxHeartbeats 40000000 in
theorem rmNode (l : Launch) (Z : State) (a0 : Array Value) (hw : ∀ d ∈ tables_1, d.before a0 Z = true) (ws : List Jvm.Cond) (a0_ : Addr) (u1 : Int32) (cap cn : Int32) (ks ns : List Int32) (vs : List Value) (hs : List Int64) (y : Int32) (h0 : Heap) (n0 : Nat) (Z0 : n0 ≤ h0.size) (B0 : own_N Z h0 n0 a0_ cap cn ks ns vs hs) (hi0 : ¬ u1 < 0) (hi1 : u1 < cap) (hy : ns.getD u1.toNatClampNeg 0 = y) :
    MetFree l (⟨"com/example/agouti/agouti/store/IndexBuilder$Notes", "node", "(I)I"⟩ : MethodName) (head1 (Jvm.Cond.code (⟨"com/example/agouti/agouti/store/IndexBuilder$Notes", "node", "(I)I"⟩ : MethodName) prog_134_method_5_code 2 (some .int) :: ws) ({ frames := 0, cells := 0, slots := 0, locals := 0 } : Room)) (fun a U => a = #[(.ref a0_), (.int u1)] ∧ Z.Warmed39 U.vm ∧ U.heap = h0) (fun _ _ _ _ _ => True) (fun _ U o U' => ∃ v L, o = .returned v ∧ QNode Z a0_ u1 cap cn ks ns vs hs y h0 n0 v U'.heap L ∧ FrameEnd U o U' L ({ frames := 0, cells := 0, slots := 0, locals := 0 } : Room).cells ({ frames := 0, cells := 0, slots := 0, locals := 0 } : Room).slots) := by
  refine MetFree.of_bodySF (plainFor_of_name pn_0) hisR ?_
  intro p e s m args below meth c s₁ Bd hml0 hP hK
  obtain ⟨rfl, hZ, hh⟩ := hP
  have hx := Bd.exec
  have hby := Bd.bytes
  have hml : c.maxLocals = 2 := hml0
  have hown : s.vm.findClass "com/example/agouti/agouti/store/IndexBuilder$Notes" = some m.cls := findClass_of_methodNamed Bd.named
  have hnm := (name_of_methodNamed Bd.named Bd.method).1
  have X0 : Stand p l e ({ frames := 0, cells := 0, slots := 0, locals := 0 } : Room) s m #[(.ref a0_), (.int u1)] below meth c s₁ [] 0 0 := Stand.of_body Bd
  have e0 : s₁.heap = h0 := by rw [← hh, Bd.state]; rfl
  have N0 := Fr.nil n0
  have S0 : ∀ t, Steps p.tables e below (s₁.setTop (mkF m 0 #[rv a0_, iv u1] [])) t → Steps p.tables e below (s₁.setTop (entryFrame m #[(.ref a0_), (.int u1)] 2)) t := fun t k => castTop (ef_rmNode m a0_ u1) k
  obtain ⟨oE, oC, ⟨ol1, ol2, ol3, ol4⟩, b1, b2, b3, b4, k1, k2, k3, k4, ⟨og1, og2, og3, og4⟩, ⟨on1, on2, on3, on4⟩, ⟨mb1b2, mb1b3, mb1b4, mb2b3, mb2b4, mb3b4⟩, oO, oF1, oF2, oF3, oF4, oV1, oV2, oV3, oV4⟩ := id B0
  obtain ⟨T1, X1, e1, st1⟩ := getF X0 hx hZ hown (host := "") (Or.inl (hw _ (List.mem_of_getElem? (i := 14) rfl))) Via.refl e0 oF2 (g := (mkF m 1 #[rv a0_, iv u1] [(.ref a0_)])) rfl rfl (hb hby d6_1)
  obtain ⟨cl2, Ar2, qa2, Sa2, Na2, Ha2, Ga2⟩ := id oV2
  have hin2 : ¬ (u1 < 0 ∨ cl2.slots.size ≤ (u1).toNatClampNeg) := inb_of Sa2 ⟨hi0, hi1⟩
  obtain ⟨fs, hr, hrun, hended, hW, hsame⟩ := X1.leave (v := some (.int y)) (fun h => by rw [Bd.returns] at h; cases h)
  refine ⟨_, _, S0 _ ?_, hrun, hended, _, _, rfl, ?_, ⟨_, rfl⟩, hW, hsame.mono (by decide) (by decide)⟩
  · skip
    show Steps p.tables e below (s₁.setTop (mkF m 0 #[rv a0_, iv u1] [])) _
    refine XS.aloadN X0.here hx rfl (hb hby d6_0) rfl rfl ?_
    show Steps p.tables e below (s₁.setTop (mkF m 1 #[rv a0_, iv u1] [(.ref a0_)])) _
    refine st1 _ ?_
    show Steps p.tables e below (T1.setTop (mkF m 4 #[rv a0_, iv u1] [(.ref b2)])) _
    refine XS.iloadN X1.here hx rfl (hb hby d6_4) rfl ?_
    show Steps p.tables e below (T1.setTop (mkF m 5 #[rv a0_, iv u1] [(.int u1), (.ref b2)])) _
    refine X1.iaload hx (j := u1) (v := (.int y)) (by rw [e1]; exact Ar2.1) (State.isArrayOf_alike hZ.alike Ar2.2.1) Ar2.2.2 hin2 (Has.at Ha2 hin2 ((own_getint ns _).trans (congrArg Value.int hy))) (g := (mkF m 5 #[rv a0_, iv u1] [(.int u1), (.ref b2)])) rfl rfl (hb hby d6_5) _ ?_
    show Steps p.tables e below (T1.setTop (mkF m 6 #[rv a0_, iv u1] [(.int y)])) _
    exact retI X1 hx Bd.returns (hb hby d6_6) hr
  · show QNode Z a0_ u1 cap cn ks ns vs hs y h0 n0 _ T1.heap _
    rw [e1]
    exact ⟨rfl, N0, rfl⟩
theorem d8_0 : decode prog_134_method_7_code 0 = .ok (.aload_n 0, 1) := by decide +kernel
theorem d8_1 : decode prog_134_method_7_code 1 = .ok (.getfield 22, 3) := by decide +kernel
theorem d8_4 : decode prog_134_method_7_code 4 = .ok (.iload_n 1, 1) := by decide +kernel
theorem d8_5 : decode prog_134_method_7_code 5 = .ok (.laload, 1) := by decide +kernel
theorem d8_6 : decode prog_134_method_7_code 6 = .ok (.lreturn, 1) := by decide +kernel
def QHash (Z : State) (a0_ : Addr) (u1 : Int32) (cap cn : Int32) (ks ns : List Int32) (vs : List Value) (hs : List Int64) (y : Int64) (h0 : Heap) (n0 : Nat) (v : Option Value) (h : Heap) (L : List Loc) : Prop := v = some (.long y) ∧ Fr n0 L ∧ h = h0
theorem ef_rmHash (m : MethodId) (a0_ : Addr) (u1 : Int32) : entryFrame m #[(.ref a0_), (.int u1)] 2 = mkF m 0 #[rv a0_, iv u1] [] := by first | (simp [entryFrame, mkF, argsToLocals, Value.category]; done) | rfl
set_option maxRecDepth 65536 in
set_option maxHeartbeats 40000000 in
theorem rmHash (l : Launch) (Z : State) (a0 : Array Value) (hw : ∀ d ∈ tables_1, d.before a0 Z = true) (ws : List Jvm.Cond) (a0_ : Addr) (u1 : Int32) (cap cn : Int32) (ks ns : List Int32) (vs : List Value) (hs : List Int64) (y : Int64) (h0 : Heap) (n0 : Nat) (Z0 : n0 ≤ h0.size) (B0 : own_N Z h0 n0 a0_ cap cn ks ns vs hs) (hi0 : ¬ u1 < 0) (hi1 : u1 < cap) (hy : hs.getD u1.toNatClampNeg 0 = y) :
    MetFree l (⟨"com/example/agouti/agouti/store/IndexBuilder$Notes", "hash", "(I)J"⟩ : MethodName) (head1 (Jvm.Cond.code (⟨"com/example/agouti/agouti/store/IndexBuilder$Notes", "hash", "(I)J"⟩ : MethodName) prog_134_method_7_code 2 (some .long) :: ws) ({ frames := 0, cells := 0, slots := 0, locals := 0 } : Room)) (fun a U => a = #[(.ref a0_), (.int u1)] ∧ Z.Warmed39 U.vm ∧ U.heap = h0) (fun _ _ _ _ _ => True) (fun _ U o U' => ∃ v L, o = .returned v ∧ QHash Z a0_ u1 cap cn ks ns vs hs y h0 n0 v U'.heap L ∧ FrameEnd U o U' L ({ frames := 0, cells := 0, slots := 0, locals := 0 } : Room).cells ({ frames := 0, cells := 0, slots := 0, locals := 0 } : Room).slots) := by
  refine MetFree.of_bodySF (plainFor_of_name pn_0) hisR ?_
  intro p e s m args below meth c s₁ Bd hml0 hP hK
  obtain ⟨rfl, hZ, hh⟩ := hP
  have hx := Bd.exec
  have hby := Bd.bytes
  have hml : c.maxLocals = 2 := hml0
  have hown : s.vm.findClass "com/example/agouti/agouti/store/IndexBuilder$Notes" = some m.cls := findClass_of_methodNamed Bd.named
  have hnm := (name_of_methodNamed Bd.named Bd.method).1
  have X0 : Stand p l e ({ frames := 0, cells := 0, slots := 0, locals := 0 } : Room) s m #[(.ref a0_), (.int u1)] below meth c s₁ [] 0 0 := Stand.of_body Bd
  have e0 : s₁.heap = h0 := by rw [← hh, Bd.state]; rfl
  have N0 := Fr.nil n0
  have S0 : ∀ t, Steps p.tables e below (s₁.setTop (mkF m 0 #[rv a0_, iv u1] [])) t → Steps p.tables e below (s₁.setTop (entryFrame m #[(.ref a0_), (.int u1)] 2)) t := fun t k => castTop (ef_rmHash m a0_ u1) k
  obtain ⟨oE, oC, ⟨ol1, ol2, ol3, ol4⟩, b1, b2, b3, b4, k1, k2, k3, k4, ⟨og1, og2, og3, og4⟩, ⟨on1, on2, on3, on4⟩, ⟨mb1b2, mb1b3, mb1b4, mb2b3, mb2b4, mb3b4⟩, oO, oF1, oF2, oF3, oF4, oV1, oV2, oV3, oV4⟩ := id B0
  obtain ⟨T1, X1, e1, st1⟩ := getF X0 hx hZ hown (host := "") (Or.inl (hw _ (List.mem_of_getElem? (i := 21) rfl))) Via.refl e0 oF4 (g := (mkF m 1 #[rv a0_, iv u1] [(.ref a0_)])) rfl rfl (hb hby d8_1)
  obtain ⟨cl2, Ar2, qa2, Sa2, Na2, Ha2, Ga2⟩ := id oV4
  have hin2 : ¬ (u1 < 0 ∨ cl2.slots.size ≤ (u1).toNatClampNeg) := inb_of Sa2 ⟨hi0, hi1⟩
  obtain ⟨fs, hr, hrun, hended, hW, hsame⟩ := X1.leave (v := some (.long y)) (fun h => by rw [Bd.returns] at h; cases h)
  refine ⟨_, _, S0 _ ?_, hrun, hended, _, _, rfl, ?_, ⟨_, rfl⟩, hW, hsame.mono (by decide) (by decide)⟩
  · skip
    show Steps p.tables e below (s₁.setTop (mkF m 0 #[rv a0_, iv u1] [])) _
    refine XS.aloadN X0.here hx rfl (hb hby d8_0) rfl rfl ?_
    show Steps p.tables e below (s₁.setTop (mkF m 1 #[rv a0_, iv u1] [(.ref a0_)])) _
    refine st1 _ ?_
    show Steps p.tables e below (T1.setTop (mkF m 4 #[rv a0_, iv u1] [(.ref b4)])) _
    refine XS.iloadN X1.here hx rfl (hb hby d8_4) rfl ?_
    show Steps p.tables e below (T1.setTop (mkF m 5 #[rv a0_, iv u1] [(.int u1), (.ref b4)])) _
    refine X1.laload hx (j := u1) (v := (.long y)) (by rw [e1]; exact Ar2.1) (State.isArrayOf_alike hZ.alike Ar2.2.1) Ar2.2.2 hin2 (Has.at Ha2 hin2 ((own_getlong hs _).trans (congrArg Value.long hy))) (g := (mkF m 5 #[rv a0_, iv u1] [(.int u1), (.ref b4)])) rfl rfl (hb hby d8_5) _ ?_
    show Steps p.tables e below (T1.setTop (mkF m 6 #[rv a0_, iv u1] [(.long y)])) _
    exact retOut X1 hx (t := .long) (i := .lreturn) Bd.returns rfl (Or.inr (Or.inl ⟨rfl, rfl, _, rfl⟩)) (hb hby d8_6) hr
  · show QHash Z a0_ u1 cap cn ks ns vs hs y h0 n0 _ T1.heap _
    rw [e1]
    exact ⟨rfl, N0, rfl⟩
theorem d7_0 : decode prog_134_method_6_code 0 = .ok (.aload_n 0, 1) := by decide +kernel
theorem d7_1 : decode prog_134_method_6_code 1 = .ok (.getfield 18, 3) := by decide +kernel
theorem d7_4 : decode prog_134_method_6_code 4 = .ok (.iload_n 1, 1) := by decide +kernel
theorem d7_5 : decode prog_134_method_6_code 5 = .ok (.aaload, 1) := by decide +kernel
theorem d7_6 : decode prog_134_method_6_code 6 = .ok (.areturn, 1) := by decide +kernel
def QVal0 (Z : State) (a0_ : Addr) (u1 : Int32) (cap cn : Int32) (ks ns : List Int32) (vs : List Value) (hs : List Int64) (h0 : Heap) (n0 : Nat) (v : Option Value) (h : Heap) (L : List Loc) : Prop := v = some .null ∧ Fr n0 L ∧ h = h0
theorem ef_rmVal0 (m : MethodId) (a0_ : Addr) (u1 : Int32) : entryFrame m #[(.ref a0_), (.int u1)] 2 = mkF m 0 #[rv a0_, iv u1] [] := by first | (simp [entryFrame, mkF, argsToLocals, Value.category]; done) | rfl
set_option maxRecDepth 65536 in
set_option maxHeartbeats 40000000 in
theorem rmVal0 (l : Launch) (Z : State) (a0 : Array Value) (hw : ∀ d ∈ tables_1, d.before a0 Z = true) (ws : List Jvm.Cond) (a0_ : Addr) (u1 : Int32) (cap cn : Int32) (ks ns : List Int32) (vs : List Value) (hs : List Int64) (h0 : Heap) (n0 : Nat) (Z0 : n0 ≤ h0.size) (B0 : own_N Z h0 n0 a0_ cap cn ks ns vs hs) (hi0 : ¬ u1 < 0) (hi1 : u1 < cap) (hy : vs.getD u1.toNatClampNeg .null = .null) :
    MetFree l (⟨"com/example/agouti/agouti/store/IndexBuilder$Notes", "value", "(I)[B"⟩ : MethodName) (head1 (Jvm.Cond.code (⟨"com/example/agouti/agouti/store/IndexBuilder$Notes", "value", "(I)[B"⟩ : MethodName) prog_134_method_6_code 2 (some (.array .byte)) :: ws) ({ frames := 0, cells := 0, slots := 0, locals := 0 } : Room)) (fun a U => a = #[(.ref a0_), (.int u1)] ∧ Z.Warmed39 U.vm ∧ U.heap = h0) (fun _ _ _ _ _ => True) (fun _ U o U' => ∃ v L, o = .returned v ∧ QVal0 Z a0_ u1 cap cn ks ns vs hs h0 n0 v U'.heap L ∧ FrameEnd U o U' L ({ frames := 0, cells := 0, slots := 0, locals := 0 } : Room).cells ({ frames := 0, cells := 0, slots := 0, locals := 0 } : Room).slots) := by
  refine MetFree.of_bodySF (plainFor_of_name pn_0) hisR ?_
  intro p e s m args below meth c s₁ Bd hml0 hP hK
  obtain ⟨rfl, hZ, hh⟩ := hP
  have hx := Bd.exec
  have hby := Bd.bytes
  have hml : c.maxLocals = 2 := hml0
  have hown : s.vm.findClass "com/example/agouti/agouti/store/IndexBuilder$Notes" = some m.cls := findClass_of_methodNamed Bd.named
  have hnm := (name_of_methodNamed Bd.named Bd.method).1
  have X0 : Stand p l e ({ frames := 0, cells := 0, slots := 0, locals := 0 } : Room) s m #[(.ref a0_), (.int u1)] below meth c s₁ [] 0 0 := Stand.of_body Bd
  have e0 : s₁.heap = h0 := by rw [← hh, Bd.state]; rfl
  have N0 := Fr.nil n0
  have S0 : ∀ t, Steps p.tables e below (s₁.setTop (mkF m 0 #[rv a0_, iv u1] [])) t → Steps p.tables e below (s₁.setTop (entryFrame m #[(.ref a0_), (.int u1)] 2)) t := fun t k => castTop (ef_rmVal0 m a0_ u1) k
  obtain ⟨oE, oC, ⟨ol1, ol2, ol3, ol4⟩, b1, b2, b3, b4, k1, k2, k3, k4, ⟨og1, og2, og3, og4⟩, ⟨on1, on2, on3, on4⟩, ⟨mb1b2, mb1b3, mb1b4, mb2b3, mb2b4, mb3b4⟩, oO, oF1, oF2, oF3, oF4, oV1, oV2, oV3, oV4⟩ := id B0
  obtain ⟨T1, X1, e1, st1⟩ := getF X0 hx hZ hown (host := "") (Or.inl (hw _ (List.mem_of_getElem? (i := 18) rfl))) Via.refl e0 oF3 (g := (mkF m 1 #[rv a0_, iv u1] [(.ref a0_)])) rfl rfl (hb hby d7_1)
  obtain ⟨cl2, Ar2, qa2, Sa2, Na2, Ha2, Ga2⟩ := id oV3
  have hin2 : ¬ (u1 < 0 ∨ cl2.slots.size ≤ (u1).toNatClampNeg) := inb_of Sa2 ⟨hi0, hi1⟩
  obtain ⟨fs, hr, hrun, hended, hW, hsame⟩ := X1.leave (v := some .null) (fun h => by rw [Bd.returns] at h; cases h)
  refine ⟨_, _, S0 _ ?_, hrun, hended, _, _, rfl, ?_, ⟨_, rfl⟩, hW, hsame.mono (by decide) (by decide)⟩
  · skip
    show Steps p.tables e below (s₁.setTop (mkF m 0 #[rv a0_, iv u1] [])) _
    refine XS.aloadN X0.here hx rfl (hb hby d7_0) rfl rfl ?_
    show Steps p.tables e below (s₁.setTop (mkF m 1 #[rv a0_, iv u1] [(.ref a0_)])) _
    refine st1 _ ?_
    show Steps p.tables e below (T1.setTop (mkF m 4 #[rv a0_, iv u1] [(.ref b3)])) _
    refine XS.iloadN X1.here hx rfl (hb hby d7_4) rfl ?_
    show Steps p.tables e below (T1.setTop (mkF m 5 #[rv a0_, iv u1] [(.int u1), (.ref b3)])) _
    refine X1.aaload hx (j := u1) (v := .null) (by rw [e1]; exact Ar2.1) (State.isArrayOf_alike hZ.alike Ar2.2.1) rfl Ar2.2.2 hin2 (Has.at Ha2 hin2 hy) (g := (mkF m 5 #[rv a0_, iv u1] [(.int u1), (.ref b3)])) rfl rfl (hb hby d7_5) _ ?_
    show Steps p.tables e below (T1.setTop (mkF m 6 #[rv a0_, iv u1] [.null])) _
    jvm_step X1.here [X1.here.top, hx, (hb hby d7_6), X1.method', Bd.returns, Value.isRef, FieldType.isReference]
    first | (intro acts; rw [hr _ acts rfl rfl rfl]) | rw [hr _ _ rfl rfl rfl]
    exact Steps.refl _
  · show QVal0 Z a0_ u1 cap cn ks ns vs hs h0 n0 _ T1.heap _
    rw [e1]
    exact ⟨rfl, N0, rfl⟩
def QVal1 (Z : State) (a0_ : Addr) (u1 : Int32) (cap cn : Int32) (ks ns : List Int32) (vs : List Value) (hs : List Int64) (y : Addr) (h0 : Heap) (n0 : Nat) (v : Option Value) (h : Heap) (L : List Loc) : Prop := v = some (.ref y) ∧ Fr n0 L ∧ h = h0
theorem ef_rmVal1 (m : MethodId) (a0_ : Addr) (u1 : Int32) : entryFrame m #[(.ref a0_), (.int u1)] 2 = mkF m 0 #[rv a0_, iv u1] [] := by first | (simp [entryFrame, mkF, argsToLocals, Value.category]; done) | rfl
set_option maxRecDepth 65536 in
set_option maxHeartbeats 40000000 in
theorem rmVal1 (l : Launch) (Z : State) (a0 : Array Value) (hw : ∀ d ∈ tables_1, d.before a0 Z = true) (ws : List Jvm.Cond) (a0_ : Addr) (u1 : Int32) (cap cn : Int32) (ks ns : List Int32) (vs : List Value) (hs : List Int64) (y : Addr) (h0 : Heap) (n0 : Nat) (Z0 : n0 ≤ h0.size) (B0 : own_N Z h0 n0 a0_ cap cn ks ns vs hs) (hi0 : ¬ u1 < 0) (hi1 : u1 < cap) (hy : vs.getD u1.toNatClampNeg .null = .ref y) :
    MetFree l (⟨"com/example/agouti/agouti/store/IndexBuilder$Notes", "value", "(I)[B"⟩ : MethodName) (head1 (Jvm.Cond.code (⟨"com/example/agouti/agouti/store/IndexBuilder$Notes", "value", "(I)[B"⟩ : MethodName) prog_134_method_6_code 2 (some (.array .byte)) :: ws) ({ frames := 0, cells := 0, slots := 0, locals := 0 } : Room)) (fun a U => a = #[(.ref a0_), (.int u1)] ∧ Z.Warmed39 U.vm ∧ U.heap = h0) (fun _ _ _ _ _ => True) (fun _ U o U' => ∃ v L, o = .returned v ∧ QVal1 Z a0_ u1 cap cn ks ns vs hs y h0 n0 v U'.heap L ∧ FrameEnd U o U' L ({ frames := 0, cells := 0, slots := 0, locals := 0 } : Room).cells ({ frames := 0, cells := 0, slots := 0, locals := 0 } : Room).slots) := by
  refine MetFree.of_bodySF (plainFor_of_name pn_0) hisR ?_
  intro p e s m args below meth c s₁ Bd hml0 hP hK
  obtain ⟨rfl, hZ, hh⟩ := hP
  have hx := Bd.exec
  have hby := Bd.bytes
  have hml : c.maxLocals = 2 := hml0
  have hown : s.vm.findClass "com/example/agouti/agouti/store/IndexBuilder$Notes" = some m.cls := findClass_of_methodNamed Bd.named
  have hnm := (name_of_methodNamed Bd.named Bd.method).1
  have X0 : Stand p l e ({ frames := 0, cells := 0, slots := 0, locals := 0 } : Room) s m #[(.ref a0_), (.int u1)] below meth c s₁ [] 0 0 := Stand.of_body Bd
  have e0 : s₁.heap = h0 := by rw [← hh, Bd.state]; rfl
  have N0 := Fr.nil n0
  have S0 : ∀ t, Steps p.tables e below (s₁.setTop (mkF m 0 #[rv a0_, iv u1] [])) t → Steps p.tables e below (s₁.setTop (entryFrame m #[(.ref a0_), (.int u1)] 2)) t := fun t k => castTop (ef_rmVal1 m a0_ u1) k
  obtain ⟨oE, oC, ⟨ol1, ol2, ol3, ol4⟩, b1, b2, b3, b4, k1, k2, k3, k4, ⟨og1, og2, og3, og4⟩, ⟨on1, on2, on3, on4⟩, ⟨mb1b2, mb1b3, mb1b4, mb2b3, mb2b4, mb3b4⟩, oO, oF1, oF2, oF3, oF4, oV1, oV2, oV3, oV4⟩ := id B0
  obtain ⟨T1, X1, e1, st1⟩ := getF X0 hx hZ hown (host := "") (Or.inl (hw _ (List.mem_of_getElem? (i := 18) rfl))) Via.refl e0 oF3 (g := (mkF m 1 #[rv a0_, iv u1] [(.ref a0_)])) rfl rfl (hb hby d7_1)
  obtain ⟨cl2, Ar2, qa2, Sa2, Na2, Ha2, Ga2⟩ := id oV3
  have hin2 : ¬ (u1 < 0 ∨ cl2.slots.size ≤ (u1).toNatClampNeg) := inb_of Sa2 ⟨hi0, hi1⟩
  obtain ⟨fs, hr, hrun, hended, hW, hsame⟩ := X1.leave (v := some (.ref y)) (fun h => by rw [Bd.returns] at h; cases h)
  refine ⟨_, _, S0 _ ?_, hrun, hended, _, _, rfl, ?_, ⟨_, rfl⟩, hW, hsame.mono (by decide) (by decide)⟩
  · skip
    show Steps p.tables e below (s₁.setTop (mkF m 0 #[rv a0_, iv u1] [])) _
    refine XS.aloadN X0.here hx rfl (hb hby d7_0) rfl rfl ?_
    show Steps p.tables e below (s₁.setTop (mkF m 1 #[rv a0_, iv u1] [(.ref a0_)])) _
    refine st1 _ ?_
    show Steps p.tables e below (T1.setTop (mkF m 4 #[rv a0_, iv u1] [(.ref b3)])) _
    refine XS.iloadN X1.here hx rfl (hb hby d7_4) rfl ?_
    show Steps p.tables e below (T1.setTop (mkF m 5 #[rv a0_, iv u1] [(.int u1), (.ref b3)])) _
    refine X1.aaload hx (j := u1) (v := (.ref y)) (by rw [e1]; exact Ar2.1) (State.isArrayOf_alike hZ.alike Ar2.2.1) rfl Ar2.2.2 hin2 (Has.at Ha2 hin2 hy) (g := (mkF m 5 #[rv a0_, iv u1] [(.int u1), (.ref b3)])) rfl rfl (hb hby d7_5) _ ?_
    show Steps p.tables e below (T1.setTop (mkF m 6 #[rv a0_, iv u1] [(.ref y)])) _
    jvm_step X1.here [X1.here.top, hx, (hb hby d7_6), X1.method', Bd.returns, Value.isRef, FieldType.isReference]
    first | (intro acts; rw [hr _ acts rfl rfl rfl]) | rw [hr _ _ rfl rfl rfl]
    exact Steps.refl _
  · show QVal1 Z a0_ u1 cap cn ks ns vs hs y h0 n0 _ T1.heap _
    rw [e1]
    exact ⟨rfl, N0, rfl⟩
theorem own_cap (y : Int32) : ((1 : Int32) + ((y &&& (255 : Int32)) % (3 : Int32))) = (1 : Int32) ∨ ((1 : Int32) + ((y &&& (255 : Int32)) % (3 : Int32))) = (2 : Int32) ∨ ((1 : Int32) + ((y &&& (255 : Int32)) % (3 : Int32))) = (3 : Int32) := by
  have h := Jvm.Kit.i32_mask y 255 (k := 8) (by decide) (by decide)
  have q := Jvm.Kit.i32_rem_nonneg (x := y &&& (255 : Int32)) (y := 3) (by rw [h]; omega)
  have e : (3 : Int32).toInt = 3 := by decide
  rw [e] at q
  have r : ((1 : Int32) + ((y &&& (255 : Int32)) % (3 : Int32))).toInt = (1 : Int32).toInt + ((y &&& (255 : Int32)) % (3 : Int32)).toInt := Jvm.Kit.i32_add (by simp only [Int32.reduceToInt]; omega) (by simp only [Int32.reduceToInt]; omega)
  simp only [← Int32.toInt_inj, r, q, Int32.reduceToInt]; omega
theorem pd_0 : parseMethodDescriptor "(I)V" = some ⟨[.int], none⟩ := by decide +kernel
theorem pd_1 : parseMethodDescriptor "(BI[BJ)Z" = some ⟨[.byte, .int, (.array .byte), .long], some .boolean⟩ := by decide +kernel
theorem pd_2 : parseMethodDescriptor "()I" = some ⟨[], some .int⟩ := by decide +kernel
theorem pd_3 : parseMethodDescriptor "(I)B" = some ⟨[.int], some .byte⟩ := by decide +kernel
theorem pd_4 : parseMethodDescriptor "(I)I" = some ⟨[.int], some .int⟩ := by decide +kernel
theorem pd_5 : parseMethodDescriptor "(I)[B" = some ⟨[.int], some (.array .byte)⟩ := by decide +kernel
theorem pd_6 : parseMethodDescriptor "(I)J" = some ⟨[.int], some .long⟩ := by decide +kernel
theorem pn_1 : plainName "com/example/agouti/agouti/store/IndexBuilderAddPinLaw" = true := by first | (simp [plainName, overriddenIn]; done) | decide +kernel
def Q0 (Z : State) (u0 : Int32) (u1 : Int32) (u2 : Int32) (u3 : Int64) (u4 : Int32) (u5 : Int64)  (h0 : Heap) (n0 : Nat) (v : Option Value) (h : Heap) (L : List Loc) : Prop := v = some (.int 1) ∧ Fr n0 L
theorem ef_rm0 (m : MethodId) (u0 : Int32) (u1 : Int32) (u2 : Int32) (u3 : Int64) (u4 : Int32) (u5 : Int64) : entryFrame m #[(.int u0), (.int u1), (.int u2), (.long u3), (.int u4), (.long u5)] maxLocals = mkF m 0 #[iv u0, iv u1, iv u2, .val (.long u3), .second, iv u4, .val (.long u5), .second, .unset, .unset, .unset, .unset, .unset, .unset, .unset, .unset, .unset, .unset] [] := by first | (simp [entryFrame, mkF, argsToLocals, Value.category, maxLocals]; done) | rfl
set_option maxRecDepth 65536 in
set_option maxHeartbeats 40000000 in
theorem rm0 (l : Launch) (Z : State) (a0 : Array Value) (hw : ∀ d ∈ tables_1, d.before a0 Z = true) (ws : List Jvm.Cond) (u0 : Int32) (u1 : Int32) (u2 : Int32) (u3 : Int64) (u4 : Int32) (u5 : Int64)  (h0 : Heap) (n0 : Nat) (Z0 : n0 ≤ h0.size) :
    MetFree l x (head1 (Jvm.Cond.code x code maxLocals ret :: ws) room_1) (fun a U => a = #[(.int u0), (.int u1), (.int u2), (.long u3), (.int u4), (.long u5)] ∧ Z.Warmed39 U.vm ∧ U.heap = h0) (fun _ _ _ _ _ => True) (fun _ U o U' => ∃ v L, o = .returned v ∧ Q0 Z u0 u1 u2 u3 u4 u5 h0 n0 v U'.heap L ∧ FrameEnd U o U' L room_1.cells room_1.slots) := by
  refine MetFree.of_bodySF (plainFor_of_name pn_1) hisR ?_
  intro p e s m args below meth c s₁ Bd hml0 hP hK
  obtain ⟨rfl, hZ, hh⟩ := hP
  have hx := Bd.exec
  have hby := Bd.bytes
  have hml : c.maxLocals = 18 := hml0
  have hown : s.vm.findClass "com/example/agouti/agouti/store/IndexBuilderAddPinLaw" = some m.cls := findClass_of_methodNamed Bd.named
  have hnm := (name_of_methodNamed Bd.named Bd.method).1
  have X0 : Stand p l e room_1 s m #[(.int u0), (.int u1), (.int u2), (.long u3), (.int u4), (.long u5)] below meth c s₁ [] 0 0 := Stand.of_body Bd
  have e0 : s₁.heap = h0 := by rw [← hh, Bd.state]; rfl
  have N0 := Fr.nil n0
  have S0 : ∀ t, Steps p.tables e below (s₁.setTop (mkF m 0 #[iv u0, iv u1, iv u2, .val (.long u3), .second, iv u4, .val (.long u5), .second, .unset, .unset, .unset, .unset, .unset, .unset, .unset, .unset, .unset, .unset] [])) t → Steps p.tables e below (s₁.setTop (entryFrame m #[(.int u0), (.int u1), (.int u2), (.long u3), (.int u4), (.long u5)] maxLocals)) t := fun t k => castTop (ef_rm0 m u0 u1 u2 u3 u4 u5) k
  have S1 : ∀ t, Steps p.tables e below (s₁.setTop (mkF m 20 #[iv u0, iv u1, iv u2, .val (.long u3), .second, iv u4, .val (.long u5), .second, iv ((1 : Int32) + ((u0 &&& (255 : Int32)) % (3 : Int32))), iv (((u1 &&& (65535 : Int32)) % (5 : Int32)).toInt8.toInt32), .unset, .unset, .unset, .unset, .unset, .unset, .unset, .unset] [])) t → Steps p.tables e below (s₁.setTop (entryFrame m #[(.int u0), (.int u1), (.int u2), (.long u3), (.int u4), (.long u5)] maxLocals)) t := by
    intro t k
    refine S0 t ?_
    show Steps p.tables e below (s₁.setTop (mkF m 0 #[iv u0, iv u1, iv u2, .val (.long u3), .second, iv u4, .val (.long u5), .second, .unset, .unset, .unset, .unset, .unset, .unset, .unset, .unset, .unset, .unset] [])) _
    refine XS.iconst X0.here hx rfl (hb hby at_0) ?_
    show Steps p.tables e below (s₁.setTop (mkF m 1 #[iv u0, iv u1, iv u2, .val (.long u3), .second, iv u4, .val (.long u5), .second, .unset, .unset, .unset, .unset, .unset, .unset, .unset, .unset, .unset, .unset] [(.int (1 : Int32))])) _
    refine XS.iloadN X0.here hx rfl (hb hby at_1) rfl ?_
    show Steps p.tables e below (s₁.setTop (mkF m 2 #[iv u0, iv u1, iv u2, .val (.long u3), .second, iv u4, .val (.long u5), .second, .unset, .unset, .unset, .unset, .unset, .unset, .unset, .unset, .unset, .unset] [(.int u0), (.int (1 : Int32))])) _
    refine XS.sipush X0.here hx rfl (hb hby at_2) ?_
    show Steps p.tables e below (s₁.setTop (mkF m 5 #[iv u0, iv u1, iv u2, .val (.long u3), .second, iv u4, .val (.long u5), .second, .unset, .unset, .unset, .unset, .unset, .unset, .unset, .unset, .unset, .unset] [(.int (255 : Int32)), (.int u0), (.int (1 : Int32))])) _
    refine XS.iand X0.here hx rfl (hb hby at_5) rfl ?_
    show Steps p.tables e below (s₁.setTop (mkF m 6 #[iv u0, iv u1, iv u2, .val (.long u3), .second, iv u4, .val (.long u5), .second, .unset, .unset, .unset, .unset, .unset, .unset, .unset, .unset, .unset, .unset] [(.int (u0 &&& (255 : Int32))), (.int (1 : Int32))])) _
    refine XS.iconst X0.here hx rfl (hb hby at_6) ?_
    show Steps p.tables e below (s₁.setTop (mkF m 7 #[iv u0, iv u1, iv u2, .val (.long u3), .second, iv u4, .val (.long u5), .second, .unset, .unset, .unset, .unset, .unset, .unset, .unset, .unset, .unset, .unset] [(.int (3 : Int32)), (.int (u0 &&& (255 : Int32))), (.int (1 : Int32))])) _
    refine iremM X0 hx rfl (hb hby at_7) rfl (by decide) ?_
    show Steps p.tables e below (s₁.setTop (mkF m 8 #[iv u0, iv u1, iv u2, .val (.long u3), .second, iv u4, .val (.long u5), .second, .unset, .unset, .unset, .unset, .unset, .unset, .unset, .unset, .unset, .unset] [(.int ((u0 &&& (255 : Int32)) % (3 : Int32))), (.int (1 : Int32))])) _
    refine XS.iadd X0.here hx rfl (hb hby at_8) rfl ?_
    show Steps p.tables e below (s₁.setTop (mkF m 9 #[iv u0, iv u1, iv u2, .val (.long u3), .second, iv u4, .val (.long u5), .second, .unset, .unset, .unset, .unset, .unset, .unset, .unset, .unset, .unset, .unset] [(.int ((1 : Int32) + ((u0 &&& (255 : Int32)) % (3 : Int32))))])) _
    refine XS.istore X0.here hx rfl (hb hby at_9) rfl (l' := #[iv u0, iv u1, iv u2, .val (.long u3), .second, iv u4, .val (.long u5), .second, iv ((1 : Int32) + ((u0 &&& (255 : Int32)) % (3 : Int32))), .unset, .unset, .unset, .unset, .unset, .unset, .unset, .unset, .unset]) rfl ?_
    show Steps p.tables e below (s₁.setTop (mkF m 11 #[iv u0, iv u1, iv u2, .val (.long u3), .second, iv u4, .val (.long u5), .second, iv ((1 : Int32) + ((u0 &&& (255 : Int32)) % (3 : Int32))), .unset, .unset, .unset, .unset, .unset, .unset, .unset, .unset, .unset] [])) _
    refine XS.iloadN X0.here hx rfl (hb hby at_11) rfl ?_
    show Steps p.tables e below (s₁.setTop (mkF m 12 #[iv u0, iv u1, iv u2, .val (.long u3), .second, iv u4, .val (.long u5), .second, iv ((1 : Int32) + ((u0 &&& (255 : Int32)) % (3 : Int32))), .unset, .unset, .unset, .unset, .unset, .unset, .unset, .unset, .unset] [(.int u1)])) _
    refine X0.ldcInt hx hown (mvT hZ (hw _ (List.mem_of_getElem? (i := 0) rfl))) (g := (mkF m 12 #[iv u0, iv u1, iv u2, .val (.long u3), .second, iv u4, .val (.long u5), .second, iv ((1 : Int32) + ((u0 &&& (255 : Int32)) % (3 : Int32))), .unset, .unset, .unset, .unset, .unset, .unset, .unset, .unset, .unset] [(.int u1)])) rfl (hb hby at_12) _ ?_
    show Steps p.tables e below (s₁.setTop (mkF m 14 #[iv u0, iv u1, iv u2, .val (.long u3), .second, iv u4, .val (.long u5), .second, iv ((1 : Int32) + ((u0 &&& (255 : Int32)) % (3 : Int32))), .unset, .unset, .unset, .unset, .unset, .unset, .unset, .unset, .unset] [(.int (65535 : Int32)), (.int u1)])) _
    refine XS.iand X0.here hx rfl (hb hby at_14) rfl ?_
    show Steps p.tables e below (s₁.setTop (mkF m 15 #[iv u0, iv u1, iv u2, .val (.long u3), .second, iv u4, .val (.long u5), .second, iv ((1 : Int32) + ((u0 &&& (255 : Int32)) % (3 : Int32))), .unset, .unset, .unset, .unset, .unset, .unset, .unset, .unset, .unset] [(.int (u1 &&& (65535 : Int32)))])) _
    refine XS.iconst X0.here hx rfl (hb hby at_15) ?_
    show Steps p.tables e below (s₁.setTop (mkF m 16 #[iv u0, iv u1, iv u2, .val (.long u3), .second, iv u4, .val (.long u5), .second, iv ((1 : Int32) + ((u0 &&& (255 : Int32)) % (3 : Int32))), .unset, .unset, .unset, .unset, .unset, .unset, .unset, .unset, .unset] [(.int (5 : Int32)), (.int (u1 &&& (65535 : Int32)))])) _
    refine iremM X0 hx rfl (hb hby at_16) rfl (by decide) ?_
    show Steps p.tables e below (s₁.setTop (mkF m 17 #[iv u0, iv u1, iv u2, .val (.long u3), .second, iv u4, .val (.long u5), .second, iv ((1 : Int32) + ((u0 &&& (255 : Int32)) % (3 : Int32))), .unset, .unset, .unset, .unset, .unset, .unset, .unset, .unset, .unset] [(.int ((u1 &&& (65535 : Int32)) % (5 : Int32)))])) _
    refine XS.i2b X0.here hx rfl (hb hby at_17) rfl ?_
    show Steps p.tables e below (s₁.setTop (mkF m 18 #[iv u0, iv u1, iv u2, .val (.long u3), .second, iv u4, .val (.long u5), .second, iv ((1 : Int32) + ((u0 &&& (255 : Int32)) % (3 : Int32))), .unset, .unset, .unset, .unset, .unset, .unset, .unset, .unset, .unset] [(.int (((u1 &&& (65535 : Int32)) % (5 : Int32)).toInt8.toInt32))])) _
    refine XS.istore X0.here hx rfl (hb hby at_18) rfl (l' := #[iv u0, iv u1, iv u2, .val (.long u3), .second, iv u4, .val (.long u5), .second, iv ((1 : Int32) + ((u0 &&& (255 : Int32)) % (3 : Int32))), iv (((u1 &&& (65535 : Int32)) % (5 : Int32)).toInt8.toInt32), .unset, .unset, .unset, .unset, .unset, .unset, .unset, .unset]) rfl ?_
    exact k
  obtain ⟨ka, e_ka⟩ : ∃ z : Int32, z = (((u1 &&& (65535 : Int32)) % (5 : Int32)).toInt8.toInt32) := ⟨_, rfl⟩
  rw [← e_ka] at S1
  have S2 : ∀ t, Steps p.tables e below (s₁.setTop (mkF m 32 #[iv u0, iv u1, iv u2, .val (.long u3), .second, iv u4, .val (.long u5), .second, iv ((1 : Int32) + ((u0 &&& (255 : Int32)) % (3 : Int32))), iv ka, iv (((((u1.toUInt32 >>> ((16 : Int32) &&& 31).toUInt32).toInt32) &&& (65535 : Int32)) % (5 : Int32)).toInt8.toInt32), .unset, .unset, .unset, .unset, .unset, .unset, .unset] [])) t → Steps p.tables e below (s₁.setTop (entryFrame m #[(.int u0), (.int u1), (.int u2), (.long u3), (.int u4), (.long u5)] maxLocals)) t := by
    intro t k
    refine S1 t ?_
    show Steps p.tables e below (s₁.setTop (mkF m 20 #[iv u0, iv u1, iv u2, .val (.long u3), .second, iv u4, .val (.long u5), .second, iv ((1 : Int32) + ((u0 &&& (255 : Int32)) % (3 : Int32))), iv ka, .unset, .unset, .unset, .unset, .unset, .unset, .unset, .unset] [])) _
    refine XS.iloadN X0.here hx rfl (hb hby at_20) rfl ?_
    show Steps p.tables e below (s₁.setTop (mkF m 21 #[iv u0, iv u1, iv u2, .val (.long u3), .second, iv u4, .val (.long u5), .second, iv ((1 : Int32) + ((u0 &&& (255 : Int32)) % (3 : Int32))), iv ka, .unset, .unset, .unset, .unset, .unset, .unset, .unset, .unset] [(.int u1)])) _
    refine XS.bipush X0.here hx rfl (hb hby at_21) ?_
    show Steps p.tables e below (s₁.setTop (mkF m 23 #[iv u0, iv u1, iv u2, .val (.long u3), .second, iv u4, .val (.long u5), .second, iv ((1 : Int32) + ((u0 &&& (255 : Int32)) % (3 : Int32))), iv ka, .unset, .unset, .unset, .unset, .unset, .unset, .unset, .unset] [(.int (16 : Int32)), (.int u1)])) _
    refine XS.iushr X0.here hx rfl (hb hby at_23) rfl ?_
    show Steps p.tables e below (s₁.setTop (mkF m 24 #[iv u0, iv u1, iv u2, .val (.long u3), .second, iv u4, .val (.long u5), .second, iv ((1 : Int32) + ((u0 &&& (255 : Int32)) % (3 : Int32))), iv ka, .unset, .unset, .unset, .unset, .unset, .unset, .unset, .unset] [(.int ((u1.toUInt32 >>> ((16 : Int32) &&& 31).toUInt32).toInt32))])) _
    refine X0.ldcInt hx hown (mvT hZ (hw _ (List.mem_of_getElem? (i := 0) rfl))) (g := (mkF m 24 #[iv u0, iv u1, iv u2, .val (.long u3), .second, iv u4, .val (.long u5), .second, iv ((1 : Int32) + ((u0 &&& (255 : Int32)) % (3 : Int32))), iv ka, .unset, .unset, .unset, .unset, .unset, .unset, .unset, .unset] [(.int ((u1.toUInt32 >>> ((16 : Int32) &&& 31).toUInt32).toInt32))])) rfl (hb hby at_24) _ ?_
    show Steps p.tables e below (s₁.setTop (mkF m 26 #[iv u0, iv u1, iv u2, .val (.long u3), .second, iv u4, .val (.long u5), .second, iv ((1 : Int32) + ((u0 &&& (255 : Int32)) % (3 : Int32))), iv ka, .unset, .unset, .unset, .unset, .unset, .unset, .unset, .unset] [(.int (65535 : Int32)), (.int ((u1.toUInt32 >>> ((16 : Int32) &&& 31).toUInt32).toInt32))])) _
    refine XS.iand X0.here hx rfl (hb hby at_26) rfl ?_
    show Steps p.tables e below (s₁.setTop (mkF m 27 #[iv u0, iv u1, iv u2, .val (.long u3), .second, iv u4, .val (.long u5), .second, iv ((1 : Int32) + ((u0 &&& (255 : Int32)) % (3 : Int32))), iv ka, .unset, .unset, .unset, .unset, .unset, .unset, .unset, .unset] [(.int (((u1.toUInt32 >>> ((16 : Int32) &&& 31).toUInt32).toInt32) &&& (65535 : Int32)))])) _
    refine XS.iconst X0.here hx rfl (hb hby at_27) ?_
    show Steps p.tables e below (s₁.setTop (mkF m 28 #[iv u0, iv u1, iv u2, .val (.long u3), .second, iv u4, .val (.long u5), .second, iv ((1 : Int32) + ((u0 &&& (255 : Int32)) % (3 : Int32))), iv ka, .unset, .unset, .unset, .unset, .unset, .unset, .unset, .unset] [(.int (5 : Int32)), (.int (((u1.toUInt32 >>> ((16 : Int32) &&& 31).toUInt32).toInt32) &&& (65535 : Int32)))])) _
    refine iremM X0 hx rfl (hb hby at_28) rfl (by decide) ?_
    show Steps p.tables e below (s₁.setTop (mkF m 29 #[iv u0, iv u1, iv u2, .val (.long u3), .second, iv u4, .val (.long u5), .second, iv ((1 : Int32) + ((u0 &&& (255 : Int32)) % (3 : Int32))), iv ka, .unset, .unset, .unset, .unset, .unset, .unset, .unset, .unset] [(.int ((((u1.toUInt32 >>> ((16 : Int32) &&& 31).toUInt32).toInt32) &&& (65535 : Int32)) % (5 : Int32)))])) _
    refine XS.i2b X0.here hx rfl (hb hby at_29) rfl ?_
    show Steps p.tables e below (s₁.setTop (mkF m 30 #[iv u0, iv u1, iv u2, .val (.long u3), .second, iv u4, .val (.long u5), .second, iv ((1 : Int32) + ((u0 &&& (255 : Int32)) % (3 : Int32))), iv ka, .unset, .unset, .unset, .unset, .unset, .unset, .unset, .unset] [(.int (((((u1.toUInt32 >>> ((16 : Int32) &&& 31).toUInt32).toInt32) &&& (65535 : Int32)) % (5 : Int32)).toInt8.toInt32))])) _
    refine XS.istore X0.here hx rfl (hb hby at_30) rfl (l' := #[iv u0, iv u1, iv u2, .val (.long u3), .second, iv u4, .val (.long u5), .second, iv ((1 : Int32) + ((u0 &&& (255 : Int32)) % (3 : Int32))), iv ka, iv (((((u1.toUInt32 >>> ((16 : Int32) &&& 31).toUInt32).toInt32) &&& (65535 : Int32)) % (5 : Int32)).toInt8.toInt32), .unset, .unset, .unset, .unset, .unset, .unset, .unset]) rfl ?_
    exact k
  obtain ⟨kb, e_kb⟩ : ∃ z : Int32, z = (((((u1.toUInt32 >>> ((16 : Int32) &&& 31).toUInt32).toInt32) &&& (65535 : Int32)) % (5 : Int32)).toInt8.toInt32) := ⟨_, rfl⟩
  rw [← e_kb] at S2
  have S3 : ∀ t, Steps p.tables e below (s₁.setTop (mkF m 37 #[iv u0, iv u1, iv u2, .val (.long u3), .second, iv u4, .val (.long u5), .second, iv ((1 : Int32) + ((u0 &&& (255 : Int32)) % (3 : Int32))), iv ka, iv kb, .unset, .unset, .unset, .unset, .unset, .unset, .unset] [(.int (u0 &&& (256 : Int32)))])) t → Steps p.tables e below (s₁.setTop (entryFrame m #[(.int u0), (.int u1), (.int u2), (.long u3), (.int u4), (.long u5)] maxLocals)) t := by
    intro t k
    refine S2 t ?_
    show Steps p.tables e below (s₁.setTop (mkF m 32 #[iv u0, iv u1, iv u2, .val (.long u3), .second, iv u4, .val (.long u5), .second, iv ((1 : Int32) + ((u0 &&& (255 : Int32)) % (3 : Int32))), iv ka, iv kb, .unset, .unset, .unset, .unset, .unset, .unset, .unset] [])) _
    refine XS.iloadN X0.here hx rfl (hb hby at_32) rfl ?_
    show Steps p.tables e below (s₁.setTop (mkF m 33 #[iv u0, iv u1, iv u2, .val (.long u3), .second, iv u4, .val (.long u5), .second, iv ((1 : Int32) + ((u0 &&& (255 : Int32)) % (3 : Int32))), iv ka, iv kb, .unset, .unset, .unset, .unset, .unset, .unset, .unset] [(.int u0)])) _
    refine XS.sipush X0.here hx rfl (hb hby at_33) ?_
    show Steps p.tables e below (s₁.setTop (mkF m 36 #[iv u0, iv u1, iv u2, .val (.long u3), .second, iv u4, .val (.long u5), .second, iv ((1 : Int32) + ((u0 &&& (255 : Int32)) % (3 : Int32))), iv ka, iv kb, .unset, .unset, .unset, .unset, .unset, .unset, .unset] [(.int (256 : Int32)), (.int u0)])) _
    refine XS.iand X0.here hx rfl (hb hby at_36) rfl ?_
    exact k
  by_cases hc4 : (u0 &&& (256 : Int32)) = (0 : Int32)
  · skip
    have S5 : ∀ t, Steps p.tables e below (s₁.setTop (mkF m 62 #[iv u0, iv u1, iv u2, .val (.long u3), .second, iv u4, .val (.long u5), .second, iv ((1 : Int32) + ((u0 &&& (255 : Int32)) % (3 : Int32))), iv ka, iv kb, .val .null, .unset, .unset, .unset, .unset, .unset, .unset] [(.int (u0 &&& (512 : Int32)))])) t → Steps p.tables e below (s₁.setTop (entryFrame m #[(.int u0), (.int u1), (.int u2), (.long u3), (.int u4), (.long u5)] maxLocals)) t := by
      intro t k
      refine S3 t ?_
      show Steps p.tables e below (s₁.setTop (mkF m 37 #[iv u0, iv u1, iv u2, .val (.long u3), .second, iv u4, .val (.long u5), .second, iv ((1 : Int32) + ((u0 &&& (255 : Int32)) % (3 : Int32))), iv ka, iv kb, .unset, .unset, .unset, .unset, .unset, .unset, .unset] [(.int (u0 &&& (256 : Int32)))])) _
      refine XS.ifYes X0.here hx rfl (pc0 := 37) (pc' := 54) rfl (hb hby at_37) rfl ((if0 _ _).trans (teq hc4).1) (by decide) (by decide) ?_
      show Steps p.tables e below (s₁.setTop (mkF m 54 #[iv u0, iv u1, iv u2, .val (.long u3), .second, iv u4, .val (.long u5), .second, iv ((1 : Int32) + ((u0 &&& (255 : Int32)) % (3 : Int32))), iv ka, iv kb, .unset, .unset, .unset, .unset, .unset, .unset, .unset] [])) _
      refine XS.aconstNull X0.here hx rfl (hb hby at_54) ?_
      show Steps p.tables e below (s₁.setTop (mkF m 55 #[iv u0, iv u1, iv u2, .val (.long u3), .second, iv u4, .val (.long u5), .second, iv ((1 : Int32) + ((u0 &&& (255 : Int32)) % (3 : Int32))), iv ka, iv kb, .unset, .unset, .unset, .unset, .unset, .unset, .unset] [.null])) _
      refine XS.astore X0.here hx rfl (hb hby at_55) rfl rfl (l' := #[iv u0, iv u1, iv u2, .val (.long u3), .second, iv u4, .val (.long u5), .second, iv ((1 : Int32) + ((u0 &&& (255 : Int32)) % (3 : Int32))), iv ka, iv kb, .val .null, .unset, .unset, .unset, .unset, .unset, .unset]) rfl ?_
      show Steps p.tables e below (s₁.setTop (mkF m 57 #[iv u0, iv u1, iv u2, .val (.long u3), .second, iv u4, .val (.long u5), .second, iv ((1 : Int32) + ((u0 &&& (255 : Int32)) % (3 : Int32))), iv ka, iv kb, .val .null, .unset, .unset, .unset, .unset, .unset, .unset] [])) _
      refine XS.iloadN X0.here hx rfl (hb hby at_57) rfl ?_
      show Steps p.tables e below (s₁.setTop (mkF m 58 #[iv u0, iv u1, iv u2, .val (.long u3), .second, iv u4, .val (.long u5), .second, iv ((1 : Int32) + ((u0 &&& (255 : Int32)) % (3 : Int32))), iv ka, iv kb, .val .null, .unset, .unset, .unset, .unset, .unset, .unset] [(.int u0)])) _
      refine XS.sipush X0.here hx rfl (hb hby at_58) ?_
      show Steps p.tables e below (s₁.setTop (mkF m 61 #[iv u0, iv u1, iv u2, .val (.long u3), .second, iv u4, .val (.long u5), .second, iv ((1 : Int32) + ((u0 &&& (255 : Int32)) % (3 : Int32))), iv ka, iv kb, .val .null, .unset, .unset, .unset, .unset, .unset, .unset] [(.int (512 : Int32)), (.int u0)])) _
      refine XS.iand X0.here hx rfl (hb hby at_61) rfl ?_
      exact k
    by_cases hc6 : (u0 &&& (512 : Int32)) = (0 : Int32)
    · skip
      have S7 : ∀ t, Steps p.tables e below (s₁.setTop (mkF m 87 #[iv u0, iv u1, iv u2, .val (.long u3), .second, iv u4, .val (.long u5), .second, iv ((1 : Int32) + ((u0 &&& (255 : Int32)) % (3 : Int32))), iv ka, iv kb, .val .null, .val .null, .unset, .unset, .unset, .unset, .unset] [])) t → Steps p.tables e below (s₁.setTop (entryFrame m #[(.int u0), (.int u1), (.int u2), (.long u3), (.int u4), (.long u5)] maxLocals)) t := by
        intro t k
        refine S5 t ?_
        show Steps p.tables e below (s₁.setTop (mkF m 62 #[iv u0, iv u1, iv u2, .val (.long u3), .second, iv u4, .val (.long u5), .second, iv ((1 : Int32) + ((u0 &&& (255 : Int32)) % (3 : Int32))), iv ka, iv kb, .val .null, .unset, .unset, .unset, .unset, .unset, .unset] [(.int (u0 &&& (512 : Int32)))])) _
        refine XS.ifYes X0.here hx rfl (pc0 := 62) (pc' := 84) rfl (hb hby at_62) rfl ((if0 _ _).trans (teq hc6).1) (by decide) (by decide) ?_
        show Steps p.tables e below (s₁.setTop (mkF m 84 #[iv u0, iv u1, iv u2, .val (.long u3), .second, iv u4, .val (.long u5), .second, iv ((1 : Int32) + ((u0 &&& (255 : Int32)) % (3 : Int32))), iv ka, iv kb, .val .null, .unset, .unset, .unset, .unset, .unset, .unset] [])) _
        refine XS.aconstNull X0.here hx rfl (hb hby at_84) ?_
        show Steps p.tables e below (s₁.setTop (mkF m 85 #[iv u0, iv u1, iv u2, .val (.long u3), .second, iv u4, .val (.long u5), .second, iv ((1 : Int32) + ((u0 &&& (255 : Int32)) % (3 : Int32))), iv ka, iv kb, .val .null, .unset, .unset, .unset, .unset, .unset, .unset] [.null])) _
        refine XS.astore X0.here hx rfl (hb hby at_85) rfl rfl (l' := #[iv u0, iv u1, iv u2, .val (.long u3), .second, iv u4, .val (.long u5), .second, iv ((1 : Int32) + ((u0 &&& (255 : Int32)) % (3 : Int32))), iv ka, iv kb, .val .null, .val .null, .unset, .unset, .unset, .unset, .unset]) rfl ?_
        exact k
      rcases own_cap u0 with hcp | hcp | hcp
      · skip
        rw [hcp] at S7
        obtain ⟨T8, h8, X8, e8, E8, A8, D8, -, st8⟩ := newO X0 hx hZ hown (hw _ (List.mem_of_getElem? (i := 1) rfl)) (hw _ (List.mem_of_getElem? (i := 2) rfl)) (hw _ (List.mem_of_getElem? (i := 3) rfl)) e0 (g := (mkF m 87 #[iv u0, iv u1, iv u2, .val (.long u3), .second, iv u4, .val (.long u5), .second, iv (1 : Int32), iv ka, iv kb, .val .null, .val .null, .unset, .unset, .unset, .unset, .unset] [])) rfl (hb hby at_87) (by decide) (by decide)
        obtain ⟨b8, g8⟩ : ∃ z, z = h0.size := ⟨_, rfl⟩
        rw [← g8] at A8 D8 st8
        have ge_b8 : n0 ≤ b8 := Nat.le_trans Z0 (Nat.le_of_eq g8.symm)
        have F8_kinds : Fld Z h8 b8 "com/example/agouti/agouti/store/IndexBuilder$Notes" "kinds" "[B" .null := D8 (Or.inr (hw _ (List.mem_of_getElem? (i := 12) rfl))) (ty := (.array .byte)) (by decide)
        have F8_nodes : Fld Z h8 b8 "com/example/agouti/agouti/store/IndexBuilder$Notes" "nodes" "[I" .null := D8 (Or.inr (hw _ (List.mem_of_getElem? (i := 15) rfl))) (ty := (.array .int)) (by decide)
        have F8_values : Fld Z h8 b8 "com/example/agouti/agouti/store/IndexBuilder$Notes" "values" "[[B" .null := D8 (Or.inl (hw _ (List.mem_of_getElem? (i := 19) rfl))) (ty := (.array (.array .byte))) (by decide)
        have F8_hashes : Fld Z h8 b8 "com/example/agouti/agouti/store/IndexBuilder$Notes" "hashes" "[J" .null := D8 (Or.inr (hw _ (List.mem_of_getElem? (i := 22) rfl))) (ty := (.array .long)) (by decide)
        have F8_count : Fld Z h8 b8 "com/example/agouti/agouti/store/IndexBuilder$Notes" "count" "I" (.int (0 : Int32)) := D8 (Or.inl (hw _ (List.mem_of_getElem? (i := 29) rfl))) (ty := .int) (by decide)
        have Z8 : n0 ≤ h8.size := Nat.le_trans Z0 E8.1
        obtain ⟨_, _, ⟨T9, L9, k9, n9⟩, -, X9, ⟨Lc9, hQ9, l9, y9, z9⟩, st9⟩ := X8.specialBack hx (y := (⟨"com/example/agouti/agouti/store/IndexBuilder$Notes", "<init>", "(I)V"⟩ : MethodName)) rfl hown (mvT hZ (hw _ (List.mem_of_getElem? (i := 4) rfl))) (mvT hZ (hw _ (List.mem_of_getElem? (i := 5) rfl))) (mvT hZ (hw _ (List.mem_of_getElem? (i := 6) rfl))) (by decide) (backOf (W := 1) (rmI1 l Z a0 hw [] b8 h8 n0 Z8 A8 F8_count F8_kinds F8_nodes F8_values F8_hashes ge_b8) hZ (hw _ (List.mem_of_getElem? (i := 6) rfl)) (hw _ (List.mem_of_getElem? (i := 3) rfl)) (by decide) (by decide)) (g := (mkF m 93 #[iv u0, iv u1, iv u2, .val (.long u3), .second, iv u4, .val (.long u5), .second, iv (1 : Int32), iv ka, iv kb, .val .null, .val .null, .unset, .unset, .unset, .unset, .unset] [(.int (1 : Int32)), (.ref b8), (.ref b8)])) rfl (by rw [hml]; rfl) (Steps.refl _) (a := b8) (argsL := [(.int (1 : Int32))]) (rest := [(.ref b8)]) (lenOf pd_0 rfl) rfl (by show 2 * 0 + _ ≤ _; exact Nat.le_of_eq rfl) (hb hby at_93) (fun _ _ => ⟨rfl, e8, (by decide : 1 + 4 ≤ _), (by decide : 5 + 4 ≤ _)⟩)
        dsimp only [Pt.U, Pt.locs, Pt.cells, Pt.slots] at X9 l9 y9 z9 st9 hQ9
        subst y9 z9
        obtain ⟨rfl, Nq9, Zq9, Kq9, Bq9⟩ := hQ9
        have N9 : Fr n0 L9 := by rw [l9]; exact Fr.app N0 Nq9
        have f10 := A8.keep Kq9
        have oe9 := Bq9.1
        obtain ⟨cq16, kq16, q16a, q16b, q16c⟩ := isOf hZ rfl oe9
        obtain ⟨_, _, ⟨T16, L16, k16, n16⟩, -, X16, ⟨Lc16, hQ16, l16, y16, z16⟩, st16⟩ := X9.virtualBack hx (y := (⟨"com/example/agouti/agouti/store/IndexBuilder$Notes", "add", "(BI[BJ)Z"⟩ : MethodName)) (z := (⟨"com/example/agouti/agouti/store/IndexBuilder$Notes", "add", "(BI[BJ)Z"⟩ : MethodName)) hown (mvT hZ (hw _ (List.mem_of_getElem? (i := 23) rfl))) (mvT hZ (hw _ (List.mem_of_getElem? (i := 24) rfl))) (notFace_of_selects (args := #[]) (mvT hZ (hw _ (List.mem_of_getElem? (i := 26) rfl)))) (mvT hZ (hw _ (List.mem_of_getElem? (i := 26) rfl))) (mvT hZ (hw _ (List.mem_of_getElem? (i := 25) rfl))) (by decide) (backOf (W := 0) (rmAddN l Z a0 hw [] b8 ka u2 u3 (1 : Int32) (0 : Int32) [0] [0] [.null] [0] T9.heap n0 Zq9 Bq9 ge_b8 (by decide) (by decide) (by rw [e_ka]; exact own_nb _)) hZ (hw _ (List.mem_of_getElem? (i := 27) rfl)) (hw _ (List.mem_of_getElem? (i := 3) rfl)) (by decide) (by decide)) q16a q16c (g := (mkF m 106 #[iv u0, iv u1, iv u2, .val (.long u3), .second, iv u4, .val (.long u5), .second, iv (1 : Int32), iv ka, iv kb, .val .null, .val .null, rv b8, .unset, .unset, .unset, .unset] [(.long u3), .null, (.int u2), (.int ka), (.ref b8)])) rfl (by rw [hml]; rfl) (Steps.refl _) (argsL := [(.int ka), (.int u2), .null, (.long u3)]) (rest := []) (lenOf pd_1 rfl) rfl (by show 2 * 0 + _ ≤ _; exact Nat.le_of_eq rfl) (hb hby at_106) (fun _ _ => ⟨rfl, rfl, (by decide : 5 + 0 ≤ _), (by decide : 9 + 0 ≤ _)⟩)
        dsimp only [Pt.U, Pt.locs, Pt.cells, Pt.slots] at X16 l16 y16 z16 st16 hQ16
        subst y16 z16
        obtain ⟨rfl, Nq16, Zq16, Kx16, Bq16⟩ := hQ16
        have N16 : Fr n0 L16 := by rw [l16]; exact Fr.app N9 Nq16
        obtain ⟨wsq16, Kq16⟩ := Kx16
        have f17 := oe9.keep Kq16
        have B16 : own_N Z T16.heap n0 b8 (1 : Int32) (1 : Int32) [ka] [u2] [.null] [u3] := Bq16
        obtain ⟨cq18, kq18, q18a, q18b, q18c⟩ := isOf hZ rfl f17
        obtain ⟨_, _, ⟨T18, L18, k18, n18⟩, -, X18, ⟨Lc18, hQ18, l18, y18, z18⟩, st18⟩ := X16.virtualBack hx (y := (⟨"com/example/agouti/agouti/store/IndexBuilder$Notes", "count", "()I"⟩ : MethodName)) (z := (⟨"com/example/agouti/agouti/store/IndexBuilder$Notes", "count", "()I"⟩ : MethodName)) hown (mvT hZ (hw _ (List.mem_of_getElem? (i := 30) rfl))) (mvT hZ (hw _ (List.mem_of_getElem? (i := 31) rfl))) (notFace_of_selects (args := #[]) (mvT hZ (hw _ (List.mem_of_getElem? (i := 33) rfl)))) (mvT hZ (hw _ (List.mem_of_getElem? (i := 33) rfl))) (mvT hZ (hw _ (List.mem_of_getElem? (i := 32) rfl))) (by decide) (backOf (W := 0) (rmCount l Z a0 hw [] b8 (1 : Int32) (1 : Int32) [ka] [u2] [.null] [u3] T16.heap n0 Zq16 B16) hZ (hw _ (List.mem_of_getElem? (i := 34) rfl)) (hw _ (List.mem_of_getElem? (i := 3) rfl)) (by decide) (by decide)) q18a q18c (g := (mkF m 196 #[iv u0, iv u1, iv u2, .val (.long u3), .second, iv u4, .val (.long u5), .second, iv (1 : Int32), iv ka, iv kb, .val .null, .val .null, rv b8, iv (1 : Int32), iv (1 : Int32), iv (1 : Int32), .unset] [(.ref b8)])) rfl (by rw [hml]; rfl) (Steps.refl _) (argsL := []) (rest := []) (lenOf pd_2 rfl) rfl (by show 2 * 0 + _ ≤ _; exact Nat.le_of_eq rfl) (hb hby at_196) (fun _ _ => ⟨rfl, rfl, (by decide : 5 + 0 ≤ _), (by decide : 9 + 0 ≤ _)⟩)
        dsimp only [Pt.U, Pt.locs, Pt.cells, Pt.slots] at X18 l18 y18 z18 st18 hQ18
        subst y18 z18
        obtain ⟨rfl, Nq18, eq18⟩ := hQ18
        have N18 : Fr n0 L18 := by rw [l18]; exact Fr.app N16 Nq18
        obtain ⟨cq19, kq19, q19a, q19b, q19c⟩ := isOf hZ eq18 f17
        obtain ⟨_, _, ⟨T19, L19, k19, n19⟩, -, X19, ⟨Lc19, hQ19, l19, y19, z19⟩, st19⟩ := X18.virtualBack hx (y := (⟨"com/example/agouti/agouti/store/IndexBuilder$Notes", "kind", "(I)B"⟩ : MethodName)) (z := (⟨"com/example/agouti/agouti/store/IndexBuilder$Notes", "kind", "(I)B"⟩ : MethodName)) hown (mvT hZ (hw _ (List.mem_of_getElem? (i := 35) rfl))) (mvT hZ (hw _ (List.mem_of_getElem? (i := 36) rfl))) (notFace_of_selects (args := #[]) (mvT hZ (hw _ (List.mem_of_getElem? (i := 38) rfl)))) (mvT hZ (hw _ (List.mem_of_getElem? (i := 38) rfl))) (mvT hZ (hw _ (List.mem_of_getElem? (i := 37) rfl))) (by decide) (backOf (W := 0) (rmKind l Z a0 hw [] b8 (0 : Int32) (1 : Int32) (1 : Int32) [ka] [u2] [.null] [u3] ka T16.heap n0 Zq16 B16 (by decide) (by decide) rfl (by rw [e_ka]; exact own_nb _)) hZ (hw _ (List.mem_of_getElem? (i := 39) rfl)) (hw _ (List.mem_of_getElem? (i := 3) rfl)) (by decide) (by decide)) q19a q19c (g := (mkF m 219 #[iv u0, iv u1, iv u2, .val (.long u3), .second, iv u4, .val (.long u5), .second, iv (1 : Int32), iv ka, iv kb, .val .null, .val .null, rv b8, iv (1 : Int32), iv (1 : Int32), iv (1 : Int32), .unset] [(.int (0 : Int32)), (.ref b8)])) rfl (by rw [hml]; rfl) (Steps.refl _) (argsL := [(.int (0 : Int32))]) (rest := []) (lenOf pd_3 rfl) rfl (by show 2 * 0 + _ ≤ _; exact Nat.le_of_eq rfl) (hb hby at_219) (fun _ _ => ⟨rfl, eq18, (by decide : 5 + 0 ≤ _), (by decide : 9 + 0 ≤ _)⟩)
        dsimp only [Pt.U, Pt.locs, Pt.cells, Pt.slots] at X19 l19 y19 z19 st19 hQ19
        subst y19 z19
        obtain ⟨rfl, Nq19, eq19⟩ := hQ19
        have N19 : Fr n0 L19 := by rw [l19]; exact Fr.app N18 Nq19
        obtain ⟨cq20, kq20, q20a, q20b, q20c⟩ := isOf hZ eq19 f17
        obtain ⟨_, _, ⟨T20, L20, k20, n20⟩, -, X20, ⟨Lc20, hQ20, l20, y20, z20⟩, st20⟩ := X19.virtualBack hx (y := (⟨"com/example/agouti/agouti/store/IndexBuilder$Notes", "node", "(I)I"⟩ : MethodName)) (z := (⟨"com/example/agouti/agouti/store/IndexBuilder$Notes", "node", "(I)I"⟩ : MethodName)) hown (mvT hZ (hw _ (List.mem_of_getElem? (i := 40) rfl))) (mvT hZ (hw _ (List.mem_of_getElem? (i := 41) rfl))) (notFace_of_selects (args := #[]) (mvT hZ (hw _ (List.mem_of_getElem? (i := 43) rfl)))) (mvT hZ (hw _ (List.mem_of_getElem? (i := 43) rfl))) (mvT hZ (hw _ (List.mem_of_getElem? (i := 42) rfl))) (by decide) (backOf (W := 0) (rmNode l Z a0 hw [] b8 (0 : Int32) (1 : Int32) (1 : Int32) [ka] [u2] [.null] [u3] u2 T16.heap n0 Zq16 B16 (by decide) (by decide) rfl) hZ (hw _ (List.mem_of_getElem? (i := 44) rfl)) (hw _ (List.mem_of_getElem? (i := 3) rfl)) (by decide) (by decide)) q20a q20c (g := (mkF m 230 #[iv u0, iv u1, iv u2, .val (.long u3), .second, iv u4, .val (.long u5), .second, iv (1 : Int32), iv ka, iv kb, .val .null, .val .null, rv b8, iv (1 : Int32), iv (1 : Int32), iv (1 : Int32), .unset] [(.int (0 : Int32)), (.ref b8)])) rfl (by rw [hml]; rfl) (Steps.refl _) (argsL := [(.int (0 : Int32))]) (rest := []) (lenOf pd_4 rfl) rfl (by show 2 * 0 + _ ≤ _; exact Nat.le_of_eq rfl) (hb hby at_230) (fun _ _ => ⟨rfl, eq19, (by decide : 5 + 0 ≤ _), (by decide : 9 + 0 ≤ _)⟩)
        dsimp only [Pt.U, Pt.locs, Pt.cells, Pt.slots] at X20 l20 y20 z20 st20 hQ20
        subst y20 z20
        obtain ⟨rfl, Nq20, eq20⟩ := hQ20
        have N20 : Fr n0 L20 := by rw [l20]; exact Fr.app N19 Nq20
        obtain ⟨cq21, kq21, q21a, q21b, q21c⟩ := isOf hZ eq20 f17
        obtain ⟨_, _, ⟨T21, L21, k21, n21⟩, -, X21, ⟨Lc21, hQ21, l21, y21, z21⟩, st21⟩ := X20.virtualBack hx (y := (⟨"com/example/agouti/agouti/store/IndexBuilder$Notes", "value", "(I)[B"⟩ : MethodName)) (z := (⟨"com/example/agouti/agouti/store/IndexBuilder$Notes", "value", "(I)[B"⟩ : MethodName)) hown (mvT hZ (hw _ (List.mem_of_getElem? (i := 45) rfl))) (mvT hZ (hw _ (List.mem_of_getElem? (i := 46) rfl))) (notFace_of_selects (args := #[]) (mvT hZ (hw _ (List.mem_of_getElem? (i := 48) rfl)))) (mvT hZ (hw _ (List.mem_of_getElem? (i := 48) rfl))) (mvT hZ (hw _ (List.mem_of_getElem? (i := 47) rfl))) (by decide) (backOf (W := 0) (rmVal0 l Z a0 hw [] b8 (0 : Int32) (1 : Int32) (1 : Int32) [ka] [u2] [.null] [u3] T16.heap n0 Zq16 B16 (by decide) (by decide) rfl) hZ (hw _ (List.mem_of_getElem? (i := 49) rfl)) (hw _ (List.mem_of_getElem? (i := 3) rfl)) (by decide) (by decide)) q21a q21c (g := (mkF m 240 #[iv u0, iv u1, iv u2, .val (.long u3), .second, iv u4, .val (.long u5), .second, iv (1 : Int32), iv ka, iv kb, .val .null, .val .null, rv b8, iv (1 : Int32), iv (1 : Int32), iv (1 : Int32), .unset] [(.int (0 : Int32)), (.ref b8)])) rfl (by rw [hml]; rfl) (Steps.refl _) (argsL := [(.int (0 : Int32))]) (rest := []) (lenOf pd_5 rfl) rfl (by show 2 * 0 + _ ≤ _; exact Nat.le_of_eq rfl) (hb hby at_240) (fun _ _ => ⟨rfl, eq20, (by decide : 5 + 0 ≤ _), (by decide : 9 + 0 ≤ _)⟩)
        dsimp only [Pt.U, Pt.locs, Pt.cells, Pt.slots] at X21 l21 y21 z21 st21 hQ21
        subst y21 z21
        obtain ⟨rfl, Nq21, eq21⟩ := hQ21
        have N21 : Fr n0 L21 := by rw [l21]; exact Fr.app N20 Nq21
        obtain ⟨cq22, kq22, q22a, q22b, q22c⟩ := isOf hZ eq21 f17
        obtain ⟨_, _, ⟨T22, L22, k22, n22⟩, -, X22, ⟨Lc22, hQ22, l22, y22, z22⟩, st22⟩ := X21.virtualBack hx (y := (⟨"com/example/agouti/agouti/store/IndexBuilder$Notes", "hash", "(I)J"⟩ : MethodName)) (z := (⟨"com/example/agouti/agouti/store/IndexBuilder$Notes", "hash", "(I)J"⟩ : MethodName)) hown (mvT hZ (hw _ (List.mem_of_getElem? (i := 50) rfl))) (mvT hZ (hw _ (List.mem_of_getElem? (i := 51) rfl))) (notFace_of_selects (args := #[]) (mvT hZ (hw _ (List.mem_of_getElem? (i := 53) rfl)))) (mvT hZ (hw _ (List.mem_of_getElem? (i := 53) rfl))) (mvT hZ (hw _ (List.mem_of_getElem? (i := 52) rfl))) (by decide) (backOf (W := 0) (rmHash l Z a0 hw [] b8 (0 : Int32) (1 : Int32) (1 : Int32) [ka] [u2] [.null] [u3] u3 T16.heap n0 Zq16 B16 (by decide) (by decide) rfl) hZ (hw _ (List.mem_of_getElem? (i := 54) rfl)) (hw _ (List.mem_of_getElem? (i := 3) rfl)) (by decide) (by decide)) q22a q22c (g := (mkF m 251 #[iv u0, iv u1, iv u2, .val (.long u3), .second, iv u4, .val (.long u5), .second, iv (1 : Int32), iv ka, iv kb, .val .null, .val .null, rv b8, iv (1 : Int32), iv (1 : Int32), iv (1 : Int32), .unset] [(.int (0 : Int32)), (.ref b8)])) rfl (by rw [hml]; rfl) (Steps.refl _) (argsL := [(.int (0 : Int32))]) (rest := []) (lenOf pd_6 rfl) rfl (by show 2 * 0 + _ ≤ _; exact Nat.le_of_eq rfl) (hb hby at_251) (fun _ _ => ⟨rfl, eq21, (by decide : 5 + 0 ≤ _), (by decide : 9 + 0 ≤ _)⟩)
        dsimp only [Pt.U, Pt.locs, Pt.cells, Pt.slots] at X22 l22 y22 z22 st22 hQ22
        subst y22 z22
        obtain ⟨rfl, Nq22, eq22⟩ := hQ22
        have N22 : Fr n0 L22 := by rw [l22]; exact Fr.app N21 Nq22
        obtain ⟨fs, hr, hrun, hended, hW, hsame⟩ := X22.leave (v := some (.int (1 : Int32))) (fun h => by rw [Bd.returns] at h; cases h)
        refine ⟨_, _, S7 _ ?_, hrun, hended, _, _, rfl, ?_, ⟨_, rfl⟩, hW, hsame.mono (by decide) (by decide)⟩
        · skip
          show Steps p.tables e below (s₁.setTop (mkF m 87 #[iv u0, iv u1, iv u2, .val (.long u3), .second, iv u4, .val (.long u5), .second, iv (1 : Int32), iv ka, iv kb, .val .null, .val .null, .unset, .unset, .unset, .unset, .unset] [])) _
          refine st8 _ ?_
          show Steps p.tables e below (T8.setTop (mkF m 90 #[iv u0, iv u1, iv u2, .val (.long u3), .second, iv u4, .val (.long u5), .second, iv (1 : Int32), iv ka, iv kb, .val .null, .val .null, .unset, .unset, .unset, .unset, .unset] [(.ref b8)])) _
          refine XS.dup X8.here hx rfl (hb hby at_90) rfl rfl ?_
          show Steps p.tables e below (T8.setTop (mkF m 91 #[iv u0, iv u1, iv u2, .val (.long u3), .second, iv u4, .val (.long u5), .second, iv (1 : Int32), iv ka, iv kb, .val .null, .val .null, .unset, .unset, .unset, .unset, .unset] [(.ref b8), (.ref b8)])) _
          refine XS.iload X8.here hx rfl (hb hby at_91) rfl ?_
          show Steps p.tables e below (T8.setTop (mkF m 93 #[iv u0, iv u1, iv u2, .val (.long u3), .second, iv u4, .val (.long u5), .second, iv (1 : Int32), iv ka, iv kb, .val .null, .val .null, .unset, .unset, .unset, .unset, .unset] [(.int (1 : Int32)), (.ref b8), (.ref b8)])) _
          refine st9.trans ?_
          show Steps p.tables e below (T9.setTop (mkF m 96 #[iv u0, iv u1, iv u2, .val (.long u3), .second, iv u4, .val (.long u5), .second, iv (1 : Int32), iv ka, iv kb, .val .null, .val .null, .unset, .unset, .unset, .unset, .unset] [(.ref b8)])) _
          refine XS.astore X9.here hx rfl (hb hby at_96) rfl rfl (l' := #[iv u0, iv u1, iv u2, .val (.long u3), .second, iv u4, .val (.long u5), .second, iv (1 : Int32), iv ka, iv kb, .val .null, .val .null, rv b8, .unset, .unset, .unset, .unset]) rfl ?_
          show Steps p.tables e below (T9.setTop (mkF m 98 #[iv u0, iv u1, iv u2, .val (.long u3), .second, iv u4, .val (.long u5), .second, iv (1 : Int32), iv ka, iv kb, .val .null, .val .null, rv b8, .unset, .unset, .unset, .unset] [])) _
          refine XS.aload X9.here hx rfl (hb hby at_98) rfl rfl ?_
          show Steps p.tables e below (T9.setTop (mkF m 100 #[iv u0, iv u1, iv u2, .val (.long u3), .second, iv u4, .val (.long u5), .second, iv (1 : Int32), iv ka, iv kb, .val .null, .val .null, rv b8, .unset, .unset, .unset, .unset] [(.ref b8)])) _
          refine XS.iload X9.here hx rfl (hb hby at_100) rfl ?_
          show Steps p.tables e below (T9.setTop (mkF m 102 #[iv u0, iv u1, iv u2, .val (.long u3), .second, iv u4, .val (.long u5), .second, iv (1 : Int32), iv ka, iv kb, .val .null, .val .null, rv b8, .unset, .unset, .unset, .unset] [(.int ka), (.ref b8)])) _
          refine XS.iloadN X9.here hx rfl (hb hby at_102) rfl ?_
          show Steps p.tables e below (T9.setTop (mkF m 103 #[iv u0, iv u1, iv u2, .val (.long u3), .second, iv u4, .val (.long u5), .second, iv (1 : Int32), iv ka, iv kb, .val .null, .val .null, rv b8, .unset, .unset, .unset, .unset] [(.int u2), (.int ka), (.ref b8)])) _
          refine XS.aload X9.here hx rfl (hb hby at_103) rfl rfl ?_
          show Steps p.tables e below (T9.setTop (mkF m 105 #[iv u0, iv u1, iv u2, .val (.long u3), .second, iv u4, .val (.long u5), .second, iv (1 : Int32), iv ka, iv kb, .val .null, .val .null, rv b8, .unset, .unset, .unset, .unset] [.null, (.int u2), (.int ka), (.ref b8)])) _
          refine XS.lloadN X9.here hx rfl (hb hby at_105) rfl ?_
          show Steps p.tables e below (T9.setTop (mkF m 106 #[iv u0, iv u1, iv u2, .val (.long u3), .second, iv u4, .val (.long u5), .second, iv (1 : Int32), iv ka, iv kb, .val .null, .val .null, rv b8, .unset, .unset, .unset, .unset] [(.long u3), .null, (.int u2), (.int ka), (.ref b8)])) _
          refine st16.trans ?_
          show Steps p.tables e below (T16.setTop (mkF m 109 #[iv u0, iv u1, iv u2, .val (.long u3), .second, iv u4, .val (.long u5), .second, iv (1 : Int32), iv ka, iv kb, .val .null, .val .null, rv b8, .unset, .unset, .unset, .unset] [(.int (1 : Int32))])) _
          refine XS.istore X16.here hx rfl (hb hby at_109) rfl (l' := #[iv u0, iv u1, iv u2, .val (.long u3), .second, iv u4, .val (.long u5), .second, iv (1 : Int32), iv ka, iv kb, .val .null, .val .null, rv b8, iv (1 : Int32), .unset, .unset, .unset]) rfl ?_
          show Steps p.tables e below (T16.setTop (mkF m 111 #[iv u0, iv u1, iv u2, .val (.long u3), .second, iv u4, .val (.long u5), .second, iv (1 : Int32), iv ka, iv kb, .val .null, .val .null, rv b8, iv (1 : Int32), .unset, .unset, .unset] [])) _
          refine XS.iload X16.here hx rfl (hb hby at_111) rfl ?_
          show Steps p.tables e below (T16.setTop (mkF m 113 #[iv u0, iv u1, iv u2, .val (.long u3), .second, iv u4, .val (.long u5), .second, iv (1 : Int32), iv ka, iv kb, .val .null, .val .null, rv b8, iv (1 : Int32), .unset, .unset, .unset] [(.int (1 : Int32))])) _
          refine XS.iload X16.here hx rfl (hb hby at_113) rfl ?_
          show Steps p.tables e below (T16.setTop (mkF m 115 #[iv u0, iv u1, iv u2, .val (.long u3), .second, iv u4, .val (.long u5), .second, iv (1 : Int32), iv ka, iv kb, .val .null, .val .null, rv b8, iv (1 : Int32), .unset, .unset, .unset] [(.int (1 : Int32)), (.int (1 : Int32))])) _
          refine XS.iconst X16.here hx rfl (hb hby at_115) ?_
          show Steps p.tables e below (T16.setTop (mkF m 116 #[iv u0, iv u1, iv u2, .val (.long u3), .second, iv u4, .val (.long u5), .second, iv (1 : Int32), iv ka, iv kb, .val .null, .val .null, rv b8, iv (1 : Int32), .unset, .unset, .unset] [(.int (1 : Int32)), (.int (1 : Int32)), (.int (1 : Int32))])) _
          refine XS.icmpNo X16.here hx rfl (hb hby at_116) rfl (teq (by decide : (1 : Int32) = (1 : Int32))).2 ?_
          show Steps p.tables e below (T16.setTop (mkF m 119 #[iv u0, iv u1, iv u2, .val (.long u3), .second, iv u4, .val (.long u5), .second, iv (1 : Int32), iv ka, iv kb, .val .null, .val .null, rv b8, iv (1 : Int32), .unset, .unset, .unset] [(.int (1 : Int32))])) _
          refine XS.iconst X16.here hx rfl (hb hby at_119) ?_
          show Steps p.tables e below (T16.setTop (mkF m 120 #[iv u0, iv u1, iv u2, .val (.long u3), .second, iv u4, .val (.long u5), .second, iv (1 : Int32), iv ka, iv kb, .val .null, .val .null, rv b8, iv (1 : Int32), .unset, .unset, .unset] [(.int (1 : Int32)), (.int (1 : Int32))])) _
          refine XS.goto X16.here hx rfl (pc0 := 120) (pc' := 124) rfl (hb hby at_120) (by decide) (by decide) ?_
          show Steps p.tables e below (T16.setTop (mkF m 124 #[iv u0, iv u1, iv u2, .val (.long u3), .second, iv u4, .val (.long u5), .second, iv (1 : Int32), iv ka, iv kb, .val .null, .val .null, rv b8, iv (1 : Int32), .unset, .unset, .unset] [(.int (1 : Int32)), (.int (1 : Int32))])) _
          refine XS.icmpNo X16.here hx rfl (hb hby at_124) rfl (teq (by decide : (1 : Int32) = (1 : Int32))).2 ?_
          show Steps p.tables e below (T16.setTop (mkF m 127 #[iv u0, iv u1, iv u2, .val (.long u3), .second, iv u4, .val (.long u5), .second, iv (1 : Int32), iv ka, iv kb, .val .null, .val .null, rv b8, iv (1 : Int32), .unset, .unset, .unset] [])) _
          refine XS.iconst X16.here hx rfl (hb hby at_127) ?_
          show Steps p.tables e below (T16.setTop (mkF m 128 #[iv u0, iv u1, iv u2, .val (.long u3), .second, iv u4, .val (.long u5), .second, iv (1 : Int32), iv ka, iv kb, .val .null, .val .null, rv b8, iv (1 : Int32), .unset, .unset, .unset] [(.int (1 : Int32))])) _
          refine XS.goto X16.here hx rfl (pc0 := 128) (pc' := 132) rfl (hb hby at_128) (by decide) (by decide) ?_
          show Steps p.tables e below (T16.setTop (mkF m 132 #[iv u0, iv u1, iv u2, .val (.long u3), .second, iv u4, .val (.long u5), .second, iv (1 : Int32), iv ka, iv kb, .val .null, .val .null, rv b8, iv (1 : Int32), .unset, .unset, .unset] [(.int (1 : Int32))])) _
          refine XS.istore X16.here hx rfl (hb hby at_132) rfl (l' := #[iv u0, iv u1, iv u2, .val (.long u3), .second, iv u4, .val (.long u5), .second, iv (1 : Int32), iv ka, iv kb, .val .null, .val .null, rv b8, iv (1 : Int32), iv (1 : Int32), .unset, .unset]) rfl ?_
          show Steps p.tables e below (T16.setTop (mkF m 134 #[iv u0, iv u1, iv u2, .val (.long u3), .second, iv u4, .val (.long u5), .second, iv (1 : Int32), iv ka, iv kb, .val .null, .val .null, rv b8, iv (1 : Int32), iv (1 : Int32), .unset, .unset] [])) _
          refine XS.iconst X16.here hx rfl (hb hby at_134) ?_
          show Steps p.tables e below (T16.setTop (mkF m 135 #[iv u0, iv u1, iv u2, .val (.long u3), .second, iv u4, .val (.long u5), .second, iv (1 : Int32), iv ka, iv kb, .val .null, .val .null, rv b8, iv (1 : Int32), iv (1 : Int32), .unset, .unset] [(.int (1 : Int32))])) _
          refine XS.istore X16.here hx rfl (hb hby at_135) rfl (l' := #[iv u0, iv u1, iv u2, .val (.long u3), .second, iv u4, .val (.long u5), .second, iv (1 : Int32), iv ka, iv kb, .val .null, .val .null, rv b8, iv (1 : Int32), iv (1 : Int32), iv (1 : Int32), .unset]) rfl ?_
          show Steps p.tables e below (T16.setTop (mkF m 137 #[iv u0, iv u1, iv u2, .val (.long u3), .second, iv u4, .val (.long u5), .second, iv (1 : Int32), iv ka, iv kb, .val .null, .val .null, rv b8, iv (1 : Int32), iv (1 : Int32), iv (1 : Int32), .unset] [])) _
          refine XS.iload X16.here hx rfl (hb hby at_137) rfl ?_
          show Steps p.tables e below (T16.setTop (mkF m 139 #[iv u0, iv u1, iv u2, .val (.long u3), .second, iv u4, .val (.long u5), .second, iv (1 : Int32), iv ka, iv kb, .val .null, .val .null, rv b8, iv (1 : Int32), iv (1 : Int32), iv (1 : Int32), .unset] [(.int (1 : Int32))])) _
          refine XS.iconst X16.here hx rfl (hb hby at_139) ?_
          show Steps p.tables e below (T16.setTop (mkF m 140 #[iv u0, iv u1, iv u2, .val (.long u3), .second, iv u4, .val (.long u5), .second, iv (1 : Int32), iv ka, iv kb, .val .null, .val .null, rv b8, iv (1 : Int32), iv (1 : Int32), iv (1 : Int32), .unset] [(.int (2 : Int32)), (.int (1 : Int32))])) _
          refine XS.icmpYes X16.here hx rfl (pc0 := 140) (pc' := 189) rfl (hb hby at_140) rfl (tlt (by decide : (1 : Int32) < (2 : Int32))).1 (by decide) (by decide) ?_
          show Steps p.tables e below (T16.setTop (mkF m 189 #[iv u0, iv u1, iv u2, .val (.long u3), .second, iv u4, .val (.long u5), .second, iv (1 : Int32), iv ka, iv kb, .val .null, .val .null, rv b8, iv (1 : Int32), iv (1 : Int32), iv (1 : Int32), .unset] [])) _
          refine XS.iload X16.here hx rfl (hb hby at_189) rfl ?_
          show Steps p.tables e below (T16.setTop (mkF m 191 #[iv u0, iv u1, iv u2, .val (.long u3), .second, iv u4, .val (.long u5), .second, iv (1 : Int32), iv ka, iv kb, .val .null, .val .null, rv b8, iv (1 : Int32), iv (1 : Int32), iv (1 : Int32), .unset] [(.int (1 : Int32))])) _
          refine XS.ifNo X16.here hx rfl (hb hby at_191) rfl ((if0 _ _).trans (feq (by decide : ¬ ((1 : Int32) = (0 : Int32)))).1) ?_
          show Steps p.tables e below (T16.setTop (mkF m 194 #[iv u0, iv u1, iv u2, .val (.long u3), .second, iv u4, .val (.long u5), .second, iv (1 : Int32), iv ka, iv kb, .val .null, .val .null, rv b8, iv (1 : Int32), iv (1 : Int32), iv (1 : Int32), .unset] [])) _
          refine XS.aload X16.here hx rfl (hb hby at_194) rfl rfl ?_
          show Steps p.tables e below (T16.setTop (mkF m 196 #[iv u0, iv u1, iv u2, .val (.long u3), .second, iv u4, .val (.long u5), .second, iv (1 : Int32), iv ka, iv kb, .val .null, .val .null, rv b8, iv (1 : Int32), iv (1 : Int32), iv (1 : Int32), .unset] [(.ref b8)])) _
          refine st18.trans ?_
          show Steps p.tables e below (T18.setTop (mkF m 199 #[iv u0, iv u1, iv u2, .val (.long u3), .second, iv u4, .val (.long u5), .second, iv (1 : Int32), iv ka, iv kb, .val .null, .val .null, rv b8, iv (1 : Int32), iv (1 : Int32), iv (1 : Int32), .unset] [(.int (1 : Int32))])) _
          refine XS.iload X18.here hx rfl (hb hby at_199) rfl ?_
          show Steps p.tables e below (T18.setTop (mkF m 201 #[iv u0, iv u1, iv u2, .val (.long u3), .second, iv u4, .val (.long u5), .second, iv (1 : Int32), iv ka, iv kb, .val .null, .val .null, rv b8, iv (1 : Int32), iv (1 : Int32), iv (1 : Int32), .unset] [(.int (1 : Int32)), (.int (1 : Int32))])) _
          refine XS.icmpNo X18.here hx rfl (hb hby at_201) rfl (teq (by decide : (1 : Int32) = (1 : Int32))).2 ?_
          show Steps p.tables e below (T18.setTop (mkF m 204 #[iv u0, iv u1, iv u2, .val (.long u3), .second, iv u4, .val (.long u5), .second, iv (1 : Int32), iv ka, iv kb, .val .null, .val .null, rv b8, iv (1 : Int32), iv (1 : Int32), iv (1 : Int32), .unset] [])) _
          refine XS.iconst X18.here hx rfl (hb hby at_204) ?_
          show Steps p.tables e below (T18.setTop (mkF m 205 #[iv u0, iv u1, iv u2, .val (.long u3), .second, iv u4, .val (.long u5), .second, iv (1 : Int32), iv ka, iv kb, .val .null, .val .null, rv b8, iv (1 : Int32), iv (1 : Int32), iv (1 : Int32), .unset] [(.int (1 : Int32))])) _
          refine XS.goto X18.here hx rfl (pc0 := 205) (pc' := 209) rfl (hb hby at_205) (by decide) (by decide) ?_
          show Steps p.tables e below (T18.setTop (mkF m 209 #[iv u0, iv u1, iv u2, .val (.long u3), .second, iv u4, .val (.long u5), .second, iv (1 : Int32), iv ka, iv kb, .val .null, .val .null, rv b8, iv (1 : Int32), iv (1 : Int32), iv (1 : Int32), .unset] [(.int (1 : Int32))])) _
          refine XS.istore X18.here hx rfl (hb hby at_209) rfl (l' := #[iv u0, iv u1, iv u2, .val (.long u3), .second, iv u4, .val (.long u5), .second, iv (1 : Int32), iv ka, iv kb, .val .null, .val .null, rv b8, iv (1 : Int32), iv (1 : Int32), iv (1 : Int32), .unset]) rfl ?_
          show Steps p.tables e below (T18.setTop (mkF m 211 #[iv u0, iv u1, iv u2, .val (.long u3), .second, iv u4, .val (.long u5), .second, iv (1 : Int32), iv ka, iv kb, .val .null, .val .null, rv b8, iv (1 : Int32), iv (1 : Int32), iv (1 : Int32), .unset] [])) _
          refine XS.iload X18.here hx rfl (hb hby at_211) rfl ?_
          show Steps p.tables e below (T18.setTop (mkF m 213 #[iv u0, iv u1, iv u2, .val (.long u3), .second, iv u4, .val (.long u5), .second, iv (1 : Int32), iv ka, iv kb, .val .null, .val .null, rv b8, iv (1 : Int32), iv (1 : Int32), iv (1 : Int32), .unset] [(.int (1 : Int32))])) _
          refine XS.ifNo X18.here hx rfl (hb hby at_213) rfl ((if0 _ _).trans (feq (by decide : ¬ ((1 : Int32) = (0 : Int32)))).1) ?_
          show Steps p.tables e below (T18.setTop (mkF m 216 #[iv u0, iv u1, iv u2, .val (.long u3), .second, iv u4, .val (.long u5), .second, iv (1 : Int32), iv ka, iv kb, .val .null, .val .null, rv b8, iv (1 : Int32), iv (1 : Int32), iv (1 : Int32), .unset] [])) _
          refine XS.aload X18.here hx rfl (hb hby at_216) rfl rfl ?_
          show Steps p.tables e below (T18.setTop (mkF m 218 #[iv u0, iv u1, iv u2, .val (.long u3), .second, iv u4, .val (.long u5), .second, iv (1 : Int32), iv ka, iv kb, .val .null, .val .null, rv b8, iv (1 : Int32), iv (1 : Int32), iv (1 : Int32), .unset] [(.ref b8)])) _
          refine XS.iconst X18.here hx rfl (hb hby at_218) ?_
          show Steps p.tables e below (T18.setTop (mkF m 219 #[iv u0, iv u1, iv u2, .val (.long u3), .second, iv u4, .val (.long u5), .second, iv (1 : Int32), iv ka, iv kb, .val .null, .val .null, rv b8, iv (1 : Int32), iv (1 : Int32), iv (1 : Int32), .unset] [(.int (0 : Int32)), (.ref b8)])) _
          refine st19.trans ?_
          show Steps p.tables e below (T19.setTop (mkF m 222 #[iv u0, iv u1, iv u2, .val (.long u3), .second, iv u4, .val (.long u5), .second, iv (1 : Int32), iv ka, iv kb, .val .null, .val .null, rv b8, iv (1 : Int32), iv (1 : Int32), iv (1 : Int32), .unset] [(.int ka)])) _
          refine XS.iload X19.here hx rfl (hb hby at_222) rfl ?_
          show Steps p.tables e below (T19.setTop (mkF m 224 #[iv u0, iv u1, iv u2, .val (.long u3), .second, iv u4, .val (.long u5), .second, iv (1 : Int32), iv ka, iv kb, .val .null, .val .null, rv b8, iv (1 : Int32), iv (1 : Int32), iv (1 : Int32), .unset] [(.int ka), (.int ka)])) _
          refine XS.icmpNo X19.here hx rfl (hb hby at_224) rfl (teq rfl).2 ?_
          show Steps p.tables e below (T19.setTop (mkF m 227 #[iv u0, iv u1, iv u2, .val (.long u3), .second, iv u4, .val (.long u5), .second, iv (1 : Int32), iv ka, iv kb, .val .null, .val .null, rv b8, iv (1 : Int32), iv (1 : Int32), iv (1 : Int32), .unset] [])) _
          refine XS.aload X19.here hx rfl (hb hby at_227) rfl rfl ?_
          show Steps p.tables e below (T19.setTop (mkF m 229 #[iv u0, iv u1, iv u2, .val (.long u3), .second, iv u4, .val (.long u5), .second, iv (1 : Int32), iv ka, iv kb, .val .null, .val .null, rv b8, iv (1 : Int32), iv (1 : Int32), iv (1 : Int32), .unset] [(.ref b8)])) _
          refine XS.iconst X19.here hx rfl (hb hby at_229) ?_
          show Steps p.tables e below (T19.setTop (mkF m 230 #[iv u0, iv u1, iv u2, .val (.long u3), .second, iv u4, .val (.long u5), .second, iv (1 : Int32), iv ka, iv kb, .val .null, .val .null, rv b8, iv (1 : Int32), iv (1 : Int32), iv (1 : Int32), .unset] [(.int (0 : Int32)), (.ref b8)])) _
          refine st20.trans ?_
          show Steps p.tables e below (T20.setTop (mkF m 233 #[iv u0, iv u1, iv u2, .val (.long u3), .second, iv u4, .val (.long u5), .second, iv (1 : Int32), iv ka, iv kb, .val .null, .val .null, rv b8, iv (1 : Int32), iv (1 : Int32), iv (1 : Int32), .unset] [(.int u2)])) _
          refine XS.iloadN X20.here hx rfl (hb hby at_233) rfl ?_
          show Steps p.tables e below (T20.setTop (mkF m 234 #[iv u0, iv u1, iv u2, .val (.long u3), .second, iv u4, .val (.long u5), .second, iv (1 : Int32), iv ka, iv kb, .val .null, .val .null, rv b8, iv (1 : Int32), iv (1 : Int32), iv (1 : Int32), .unset] [(.int u2), (.int u2)])) _
          refine XS.icmpNo X20.here hx rfl (hb hby at_234) rfl (teq rfl).2 ?_
          show Steps p.tables e below (T20.setTop (mkF m 237 #[iv u0, iv u1, iv u2, .val (.long u3), .second, iv u4, .val (.long u5), .second, iv (1 : Int32), iv ka, iv kb, .val .null, .val .null, rv b8, iv (1 : Int32), iv (1 : Int32), iv (1 : Int32), .unset] [])) _
          refine XS.aload X20.here hx rfl (hb hby at_237) rfl rfl ?_
          show Steps p.tables e below (T20.setTop (mkF m 239 #[iv u0, iv u1, iv u2, .val (.long u3), .second, iv u4, .val (.long u5), .second, iv (1 : Int32), iv ka, iv kb, .val .null, .val .null, rv b8, iv (1 : Int32), iv (1 : Int32), iv (1 : Int32), .unset] [(.ref b8)])) _
          refine XS.iconst X20.here hx rfl (hb hby at_239) ?_
          show Steps p.tables e below (T20.setTop (mkF m 240 #[iv u0, iv u1, iv u2, .val (.long u3), .second, iv u4, .val (.long u5), .second, iv (1 : Int32), iv ka, iv kb, .val .null, .val .null, rv b8, iv (1 : Int32), iv (1 : Int32), iv (1 : Int32), .unset] [(.int (0 : Int32)), (.ref b8)])) _
          refine st21.trans ?_
          show Steps p.tables e below (T21.setTop (mkF m 243 #[iv u0, iv u1, iv u2, .val (.long u3), .second, iv u4, .val (.long u5), .second, iv (1 : Int32), iv ka, iv kb, .val .null, .val .null, rv b8, iv (1 : Int32), iv (1 : Int32), iv (1 : Int32), .unset] [.null])) _
          refine XS.aload X21.here hx rfl (hb hby at_243) rfl rfl ?_
          show Steps p.tables e below (T21.setTop (mkF m 245 #[iv u0, iv u1, iv u2, .val (.long u3), .second, iv u4, .val (.long u5), .second, iv (1 : Int32), iv ka, iv kb, .val .null, .val .null, rv b8, iv (1 : Int32), iv (1 : Int32), iv (1 : Int32), .unset] [.null, .null])) _
          refine Jvm.RoadKit.acmp (g := (mkF m 245 #[iv u0, iv u1, iv u2, .val (.long u3), .second, iv u4, .val (.long u5), .second, iv (1 : Int32), iv ka, iv kb, .val .null, .val .null, rv b8, iv (1 : Int32), iv (1 : Int32), iv (1 : Int32), .unset] [.null, .null])) X21 hx rfl rfl rfl (pc0 := 245) (pc' := 248) (same := true) rfl (hb hby at_245) rfl (decide_eq_true rfl) (by decide) (by decide) ?_
          show Steps p.tables e below (T21.setTop (mkF m 248 #[iv u0, iv u1, iv u2, .val (.long u3), .second, iv u4, .val (.long u5), .second, iv (1 : Int32), iv ka, iv kb, .val .null, .val .null, rv b8, iv (1 : Int32), iv (1 : Int32), iv (1 : Int32), .unset] [])) _
          refine XS.aload X21.here hx rfl (hb hby at_248) rfl rfl ?_
          show Steps p.tables e below (T21.setTop (mkF m 250 #[iv u0, iv u1, iv u2, .val (.long u3), .second, iv u4, .val (.long u5), .second, iv (1 : Int32), iv ka, iv kb, .val .null, .val .null, rv b8, iv (1 : Int32), iv (1 : Int32), iv (1 : Int32), .unset] [(.ref b8)])) _
          refine XS.iconst X21.here hx rfl (hb hby at_250) ?_
          show Steps p.tables e below (T21.setTop (mkF m 251 #[iv u0, iv u1, iv u2, .val (.long u3), .second, iv u4, .val (.long u5), .second, iv (1 : Int32), iv ka, iv kb, .val .null, .val .null, rv b8, iv (1 : Int32), iv (1 : Int32), iv (1 : Int32), .unset] [(.int (0 : Int32)), (.ref b8)])) _
          refine st22.trans ?_
          show Steps p.tables e below (T22.setTop (mkF m 254 #[iv u0, iv u1, iv u2, .val (.long u3), .second, iv u4, .val (.long u5), .second, iv (1 : Int32), iv ka, iv kb, .val .null, .val .null, rv b8, iv (1 : Int32), iv (1 : Int32), iv (1 : Int32), .unset] [(.long u3)])) _
          refine XS.lloadN X22.here hx rfl (hb hby at_254) rfl ?_
          show Steps p.tables e below (T22.setTop (mkF m 255 #[iv u0, iv u1, iv u2, .val (.long u3), .second, iv u4, .val (.long u5), .second, iv (1 : Int32), iv ka, iv kb, .val .null, .val .null, rv b8, iv (1 : Int32), iv (1 : Int32), iv (1 : Int32), .unset] [(.long u3), (.long u3)])) _
          refine XS.lcmp X22.here hx rfl (hb hby at_255) rfl ?_
          show Steps p.tables e below (T22.setTop (mkF m 256 #[iv u0, iv u1, iv u2, .val (.long u3), .second, iv u4, .val (.long u5), .second, iv (1 : Int32), iv ka, iv kb, .val .null, .val .null, rv b8, iv (1 : Int32), iv (1 : Int32), iv (1 : Int32), .unset] [(.int (lcmpW u3 u3))])) _
          refine XS.ifNo X22.here hx rfl (hb hby at_256) rfl ((if0 _ _).trans (teq ((lw_eq _ _).mpr rfl)).2) ?_
          show Steps p.tables e below (T22.setTop (mkF m 259 #[iv u0, iv u1, iv u2, .val (.long u3), .second, iv u4, .val (.long u5), .second, iv (1 : Int32), iv ka, iv kb, .val .null, .val .null, rv b8, iv (1 : Int32), iv (1 : Int32), iv (1 : Int32), .unset] [])) _
          refine XS.iconst X22.here hx rfl (hb hby at_259) ?_
          show Steps p.tables e below (T22.setTop (mkF m 260 #[iv u0, iv u1, iv u2, .val (.long u3), .second, iv u4, .val (.long u5), .second, iv (1 : Int32), iv ka, iv kb, .val .null, .val .null, rv b8, iv (1 : Int32), iv (1 : Int32), iv (1 : Int32), .unset] [(.int (1 : Int32))])) _
          refine XS.goto X22.here hx rfl (pc0 := 260) (pc' := 264) rfl (hb hby at_260) (by decide) (by decide) ?_
          show Steps p.tables e below (T22.setTop (mkF m 264 #[iv u0, iv u1, iv u2, .val (.long u3), .second, iv u4, .val (.long u5), .second, iv (1 : Int32), iv ka, iv kb, .val .null, .val .null, rv b8, iv (1 : Int32), iv (1 : Int32), iv (1 : Int32), .unset] [(.int (1 : Int32))])) _
          refine XS.istore X22.here hx rfl (hb hby at_264) rfl (l' := #[iv u0, iv u1, iv u2, .val (.long u3), .second, iv u4, .val (.long u5), .second, iv (1 : Int32), iv ka, iv kb, .val .null, .val .null, rv b8, iv (1 : Int32), iv (1 : Int32), iv (1 : Int32), .unset]) rfl ?_
          show Steps p.tables e below (T22.setTop (mkF m 266 #[iv u0, iv u1, iv u2, .val (.long u3), .second, iv u4, .val (.long u5), .second, iv (1 : Int32), iv ka, iv kb, .val .null, .val .null, rv b8, iv (1 : Int32), iv (1 : Int32), iv (1 : Int32), .unset] [])) _
          refine XS.iload X22.here hx rfl (hb hby at_266) rfl ?_
          show Steps p.tables e below (T22.setTop (mkF m 268 #[iv u0, iv u1, iv u2, .val (.long u3), .second, iv u4, .val (.long u5), .second, iv (1 : Int32), iv ka, iv kb, .val .null, .val .null, rv b8, iv (1 : Int32), iv (1 : Int32), iv (1 : Int32), .unset] [(.int (1 : Int32))])) _
          refine XS.iconst X22.here hx rfl (hb hby at_268) ?_
          show Steps p.tables e below (T22.setTop (mkF m 269 #[iv u0, iv u1, iv u2, .val (.long u3), .second, iv u4, .val (.long u5), .second, iv (1 : Int32), iv ka, iv kb, .val .null, .val .null, rv b8, iv (1 : Int32), iv (1 : Int32), iv (1 : Int32), .unset] [(.int (2 : Int32)), (.int (1 : Int32))])) _
          refine XS.icmpYes X22.here hx rfl (pc0 := 269) (pc' := 329) rfl (hb hby at_269) rfl (tlt (by decide : (1 : Int32) < (2 : Int32))).1 (by decide) (by decide) ?_
          show Steps p.tables e below (T22.setTop (mkF m 329 #[iv u0, iv u1, iv u2, .val (.long u3), .second, iv u4, .val (.long u5), .second, iv (1 : Int32), iv ka, iv kb, .val .null, .val .null, rv b8, iv (1 : Int32), iv (1 : Int32), iv (1 : Int32), .unset] [])) _
          refine XS.iload X22.here hx rfl (hb hby at_329) rfl ?_
          show Steps p.tables e below (T22.setTop (mkF m 331 #[iv u0, iv u1, iv u2, .val (.long u3), .second, iv u4, .val (.long u5), .second, iv (1 : Int32), iv ka, iv kb, .val .null, .val .null, rv b8, iv (1 : Int32), iv (1 : Int32), iv (1 : Int32), .unset] [(.int (1 : Int32))])) _
          exact retN X22 hx (t := .boolean) Bd.returns (by simp) (hb hby at_331) hr
        · show Q0 Z u0 u1 u2 u3 u4 u5 h0 n0 _ T22.heap _
          rw [eq22]
          exact ⟨rfl, N22⟩
      · skip
        rw [hcp] at S7
        obtain ⟨T23, h23, X23, e23, E23, A23, D23, -, st23⟩ := newO X0 hx hZ hown (hw _ (List.mem_of_getElem? (i := 1) rfl)) (hw _ (List.mem_of_getElem? (i := 2) rfl)) (hw _ (List.mem_of_getElem? (i := 3) rfl)) e0 (g := (mkF m 87 #[iv u0, iv u1, iv u2, .val (.long u3), .second, iv u4, .val (.long u5), .second, iv (2 : Int32), iv ka, iv kb, .val .null, .val .null, .unset, .unset, .unset, .unset, .unset] [])) rfl (hb hby at_87) (by decide) (by decide)
        obtain ⟨b23, g23⟩ : ∃ z, z = h0.size := ⟨_, rfl⟩
        rw [← g23] at A23 D23 st23
        have ge_b23 : n0 ≤ b23 := Nat.le_trans Z0 (Nat.le_of_eq g23.symm)
        have F23_kinds : Fld Z h23 b23 "com/example/agouti/agouti/store/IndexBuilder$Notes" "kinds" "[B" .null := D23 (Or.inr (hw _ (List.mem_of_getElem? (i := 12) rfl))) (ty := (.array .byte)) (by decide)
        have F23_nodes : Fld Z h23 b23 "com/example/agouti/agouti/store/IndexBuilder$Notes" "nodes" "[I" .null := D23 (Or.inr (hw _ (List.mem_of_getElem? (i := 15) rfl))) (ty := (.array .int)) (by decide)
        have F23_values : Fld Z h23 b23 "com/example/agouti/agouti/store/IndexBuilder$Notes" "values" "[[B" .null := D23 (Or.inl (hw _ (List.mem_of_getElem? (i := 19) rfl))) (ty := (.array (.array .byte))) (by decide)
        have F23_hashes : Fld Z h23 b23 "com/example/agouti/agouti/store/IndexBuilder$Notes" "hashes" "[J" .null := D23 (Or.inr (hw _ (List.mem_of_getElem? (i := 22) rfl))) (ty := (.array .long)) (by decide)
        have F23_count : Fld Z h23 b23 "com/example/agouti/agouti/store/IndexBuilder$Notes" "count" "I" (.int (0 : Int32)) := D23 (Or.inl (hw _ (List.mem_of_getElem? (i := 29) rfl))) (ty := .int) (by decide)
        have Z23 : n0 ≤ h23.size := Nat.le_trans Z0 E23.1
        obtain ⟨_, _, ⟨T24, L24, k24, n24⟩, -, X24, ⟨Lc24, hQ24, l24, y24, z24⟩, st24⟩ := X23.specialBack hx (y := (⟨"com/example/agouti/agouti/store/IndexBuilder$Notes", "<init>", "(I)V"⟩ : MethodName)) rfl hown (mvT hZ (hw _ (List.mem_of_getElem? (i := 4) rfl))) (mvT hZ (hw _ (List.mem_of_getElem? (i := 5) rfl))) (mvT hZ (hw _ (List.mem_of_getElem? (i := 6) rfl))) (by decide) (backOf (W := 1) (rmI2 l Z a0 hw [] b23 h23 n0 Z23 A23 F23_count F23_kinds F23_nodes F23_values F23_hashes ge_b23) hZ (hw _ (List.mem_of_getElem? (i := 6) rfl)) (hw _ (List.mem_of_getElem? (i := 3) rfl)) (by decide) (by decide)) (g := (mkF m 93 #[iv u0, iv u1, iv u2, .val (.long u3), .second, iv u4, .val (.long u5), .second, iv (2 : Int32), iv ka, iv kb, .val .null, .val .null, .unset, .unset, .unset, .unset, .unset] [(.int (2 : Int32)), (.ref b23), (.ref b23)])) rfl (by rw [hml]; rfl) (Steps.refl _) (a := b23) (argsL := [(.int (2 : Int32))]) (rest := [(.ref b23)]) (lenOf pd_0 rfl) rfl (by show 2 * 0 + _ ≤ _; exact Nat.le_of_eq rfl) (hb hby at_93) (fun _ _ => ⟨rfl, e23, (by decide : 1 + 4 ≤ _), (by decide : 5 + 8 ≤ _)⟩)
        dsimp only [Pt.U, Pt.locs, Pt.cells, Pt.slots] at X24 l24 y24 z24 st24 hQ24
        subst y24 z24
        obtain ⟨rfl, Nq24, Zq24, Kq24, Bq24⟩ := hQ24
        have N24 : Fr n0 L24 := by rw [l24]; exact Fr.app N0 Nq24
        have f25 := A23.keep Kq24
        have oe24 := Bq24.1
        obtain ⟨cq31, kq31, q31a, q31b, q31c⟩ := isOf hZ rfl oe24
        obtain ⟨_, _, ⟨T31, L31, k31, n31⟩, -, X31, ⟨Lc31, hQ31, l31, y31, z31⟩, st31⟩ := X24.virtualBack hx (y := (⟨"com/example/agouti/agouti/store/IndexBuilder$Notes", "add", "(BI[BJ)Z"⟩ : MethodName)) (z := (⟨"com/example/agouti/agouti/store/IndexBuilder$Notes", "add", "(BI[BJ)Z"⟩ : MethodName)) hown (mvT hZ (hw _ (List.mem_of_getElem? (i := 23) rfl))) (mvT hZ (hw _ (List.mem_of_getElem? (i := 24) rfl))) (notFace_of_selects (args := #[]) (mvT hZ (hw _ (List.mem_of_getElem? (i := 26) rfl)))) (mvT hZ (hw _ (List.mem_of_getElem? (i := 26) rfl))) (mvT hZ (hw _ (List.mem_of_getElem? (i := 25) rfl))) (by decide) (backOf (W := 0) (rmAddN l Z a0 hw [] b23 ka u2 u3 (2 : Int32) (0 : Int32) [0, 0] [0, 0] [.null, .null] [0, 0] T24.heap n0 Zq24 Bq24 ge_b23 (by decide) (by decide) (by rw [e_ka]; exact own_nb _)) hZ (hw _ (List.mem_of_getElem? (i := 27) rfl)) (hw _ (List.mem_of_getElem? (i := 3) rfl)) (by decide) (by decide)) q31a q31c (g := (mkF m 106 #[iv u0, iv u1, iv u2, .val (.long u3), .second, iv u4, .val (.long u5), .second, iv (2 : Int32), iv ka, iv kb, .val .null, .val .null, rv b23, .unset, .unset, .unset, .unset] [(.long u3), .null, (.int u2), (.int ka), (.ref b23)])) rfl (by rw [hml]; rfl) (Steps.refl _) (argsL := [(.int ka), (.int u2), .null, (.long u3)]) (rest := []) (lenOf pd_1 rfl) rfl (by show 2 * 0 + _ ≤ _; exact Nat.le_of_eq rfl) (hb hby at_106) (fun _ _ => ⟨rfl, rfl, (by decide : 5 + 0 ≤ _), (by decide : 13 + 0 ≤ _)⟩)
        dsimp only [Pt.U, Pt.locs, Pt.cells, Pt.slots] at X31 l31 y31 z31 st31 hQ31
        subst y31 z31
        obtain ⟨rfl, Nq31, Zq31, Kx31, Bq31⟩ := hQ31
        have N31 : Fr n0 L31 := by rw [l31]; exact Fr.app N24 Nq31
        obtain ⟨wsq31, Kq31⟩ := Kx31
        have f32 := oe24.keep Kq31
        have B31 : own_N Z T31.heap n0 b23 (2 : Int32) (1 : Int32) [ka, 0] [u2, 0] [.null, .null] [u3, 0] := Bq31
        obtain ⟨cq33, kq33, q33a, q33b, q33c⟩ := isOf hZ rfl f32
        obtain ⟨_, _, ⟨T33, L33, k33, n33⟩, -, X33, ⟨Lc33, hQ33, l33, y33, z33⟩, st33⟩ := X31.virtualBack hx (y := (⟨"com/example/agouti/agouti/store/IndexBuilder$Notes", "add", "(BI[BJ)Z"⟩ : MethodName)) (z := (⟨"com/example/agouti/agouti/store/IndexBuilder$Notes", "add", "(BI[BJ)Z"⟩ : MethodName)) hown (mvT hZ (hw _ (List.mem_of_getElem? (i := 23) rfl))) (mvT hZ (hw _ (List.mem_of_getElem? (i := 24) rfl))) (notFace_of_selects (args := #[]) (mvT hZ (hw _ (List.mem_of_getElem? (i := 26) rfl)))) (mvT hZ (hw _ (List.mem_of_getElem? (i := 26) rfl))) (mvT hZ (hw _ (List.mem_of_getElem? (i := 25) rfl))) (by decide) (backOf (W := 0) (rmAddN l Z a0 hw [] b23 kb u4 u5 (2 : Int32) (1 : Int32) [ka, 0] [u2, 0] [.null, .null] [u3, 0] T31.heap n0 Zq31 B31 ge_b23 (by decide) (by decide) (by rw [e_kb]; exact own_nb _)) hZ (hw _ (List.mem_of_getElem? (i := 27) rfl)) (hw _ (List.mem_of_getElem? (i := 3) rfl)) (by decide) (by decide)) q33a q33c (g := (mkF m 153 #[iv u0, iv u1, iv u2, .val (.long u3), .second, iv u4, .val (.long u5), .second, iv (2 : Int32), iv ka, iv kb, .val .null, .val .null, rv b23, iv (0 : Int32), iv (1 : Int32), iv (1 : Int32), .unset] [(.long u5), .null, (.int u4), (.int kb), (.ref b23)])) rfl (by rw [hml]; rfl) (Steps.refl _) (argsL := [(.int kb), (.int u4), .null, (.long u5)]) (rest := []) (lenOf pd_1 rfl) rfl (by show 2 * 0 + _ ≤ _; exact Nat.le_of_eq rfl) (hb hby at_153) (fun _ _ => ⟨rfl, rfl, (by decide : 5 + 0 ≤ _), (by decide : 13 + 0 ≤ _)⟩)
        dsimp only [Pt.U, Pt.locs, Pt.cells, Pt.slots] at X33 l33 y33 z33 st33 hQ33
        subst y33 z33
        obtain ⟨rfl, Nq33, Zq33, Kx33, Bq33⟩ := hQ33
        have N33 : Fr n0 L33 := by rw [l33]; exact Fr.app N31 Nq33
        obtain ⟨wsq33, Kq33⟩ := Kx33
        have f34 := f32.keep Kq33
        have B33 : own_N Z T33.heap n0 b23 (2 : Int32) (2 : Int32) [ka, kb] [u2, u4] [.null, .null] [u3, u5] := Bq33
        obtain ⟨cq35, kq35, q35a, q35b, q35c⟩ := isOf hZ rfl f34
        obtain ⟨_, _, ⟨T35, L35, k35, n35⟩, -, X35, ⟨Lc35, hQ35, l35, y35, z35⟩, st35⟩ := X33.virtualBack hx (y := (⟨"com/example/agouti/agouti/store/IndexBuilder$Notes", "count", "()I"⟩ : MethodName)) (z := (⟨"com/example/agouti/agouti/store/IndexBuilder$Notes", "count", "()I"⟩ : MethodName)) hown (mvT hZ (hw _ (List.mem_of_getElem? (i := 30) rfl))) (mvT hZ (hw _ (List.mem_of_getElem? (i := 31) rfl))) (notFace_of_selects (args := #[]) (mvT hZ (hw _ (List.mem_of_getElem? (i := 33) rfl)))) (mvT hZ (hw _ (List.mem_of_getElem? (i := 33) rfl))) (mvT hZ (hw _ (List.mem_of_getElem? (i := 32) rfl))) (by decide) (backOf (W := 0) (rmCount l Z a0 hw [] b23 (2 : Int32) (2 : Int32) [ka, kb] [u2, u4] [.null, .null] [u3, u5] T33.heap n0 Zq33 B33) hZ (hw _ (List.mem_of_getElem? (i := 34) rfl)) (hw _ (List.mem_of_getElem? (i := 3) rfl)) (by decide) (by decide)) q35a q35c (g := (mkF m 196 #[iv u0, iv u1, iv u2, .val (.long u3), .second, iv u4, .val (.long u5), .second, iv (2 : Int32), iv ka, iv kb, .val .null, .val .null, rv b23, iv (0 : Int32), iv (1 : Int32), iv (2 : Int32), iv (1 : Int32)] [(.ref b23)])) rfl (by rw [hml]; rfl) (Steps.refl _) (argsL := []) (rest := []) (lenOf pd_2 rfl) rfl (by show 2 * 0 + _ ≤ _; exact Nat.le_of_eq rfl) (hb hby at_196) (fun _ _ => ⟨rfl, rfl, (by decide : 5 + 0 ≤ _), (by decide : 13 + 0 ≤ _)⟩)
        dsimp only [Pt.U, Pt.locs, Pt.cells, Pt.slots] at X35 l35 y35 z35 st35 hQ35
        subst y35 z35
        obtain ⟨rfl, Nq35, eq35⟩ := hQ35
        have N35 : Fr n0 L35 := by rw [l35]; exact Fr.app N33 Nq35
        obtain ⟨cq36, kq36, q36a, q36b, q36c⟩ := isOf hZ eq35 f34
        obtain ⟨_, _, ⟨T36, L36, k36, n36⟩, -, X36, ⟨Lc36, hQ36, l36, y36, z36⟩, st36⟩ := X35.virtualBack hx (y := (⟨"com/example/agouti/agouti/store/IndexBuilder$Notes", "kind", "(I)B"⟩ : MethodName)) (z := (⟨"com/example/agouti/agouti/store/IndexBuilder$Notes", "kind", "(I)B"⟩ : MethodName)) hown (mvT hZ (hw _ (List.mem_of_getElem? (i := 35) rfl))) (mvT hZ (hw _ (List.mem_of_getElem? (i := 36) rfl))) (notFace_of_selects (args := #[]) (mvT hZ (hw _ (List.mem_of_getElem? (i := 38) rfl)))) (mvT hZ (hw _ (List.mem_of_getElem? (i := 38) rfl))) (mvT hZ (hw _ (List.mem_of_getElem? (i := 37) rfl))) (by decide) (backOf (W := 0) (rmKind l Z a0 hw [] b23 (0 : Int32) (2 : Int32) (2 : Int32) [ka, kb] [u2, u4] [.null, .null] [u3, u5] ka T33.heap n0 Zq33 B33 (by decide) (by decide) rfl (by rw [e_ka]; exact own_nb _)) hZ (hw _ (List.mem_of_getElem? (i := 39) rfl)) (hw _ (List.mem_of_getElem? (i := 3) rfl)) (by decide) (by decide)) q36a q36c (g := (mkF m 219 #[iv u0, iv u1, iv u2, .val (.long u3), .second, iv u4, .val (.long u5), .second, iv (2 : Int32), iv ka, iv kb, .val .null, .val .null, rv b23, iv (0 : Int32), iv (1 : Int32), iv (2 : Int32), iv (1 : Int32)] [(.int (0 : Int32)), (.ref b23)])) rfl (by rw [hml]; rfl) (Steps.refl _) (argsL := [(.int (0 : Int32))]) (rest := []) (lenOf pd_3 rfl) rfl (by show 2 * 0 + _ ≤ _; exact Nat.le_of_eq rfl) (hb hby at_219) (fun _ _ => ⟨rfl, eq35, (by decide : 5 + 0 ≤ _), (by decide : 13 + 0 ≤ _)⟩)
        dsimp only [Pt.U, Pt.locs, Pt.cells, Pt.slots] at X36 l36 y36 z36 st36 hQ36
        subst y36 z36
        obtain ⟨rfl, Nq36, eq36⟩ := hQ36
        have N36 : Fr n0 L36 := by rw [l36]; exact Fr.app N35 Nq36
        obtain ⟨cq37, kq37, q37a, q37b, q37c⟩ := isOf hZ eq36 f34
        obtain ⟨_, _, ⟨T37, L37, k37, n37⟩, -, X37, ⟨Lc37, hQ37, l37, y37, z37⟩, st37⟩ := X36.virtualBack hx (y := (⟨"com/example/agouti/agouti/store/IndexBuilder$Notes", "node", "(I)I"⟩ : MethodName)) (z := (⟨"com/example/agouti/agouti/store/IndexBuilder$Notes", "node", "(I)I"⟩ : MethodName)) hown (mvT hZ (hw _ (List.mem_of_getElem? (i := 40) rfl))) (mvT hZ (hw _ (List.mem_of_getElem? (i := 41) rfl))) (notFace_of_selects (args := #[]) (mvT hZ (hw _ (List.mem_of_getElem? (i := 43) rfl)))) (mvT hZ (hw _ (List.mem_of_getElem? (i := 43) rfl))) (mvT hZ (hw _ (List.mem_of_getElem? (i := 42) rfl))) (by decide) (backOf (W := 0) (rmNode l Z a0 hw [] b23 (0 : Int32) (2 : Int32) (2 : Int32) [ka, kb] [u2, u4] [.null, .null] [u3, u5] u2 T33.heap n0 Zq33 B33 (by decide) (by decide) rfl) hZ (hw _ (List.mem_of_getElem? (i := 44) rfl)) (hw _ (List.mem_of_getElem? (i := 3) rfl)) (by decide) (by decide)) q37a q37c (g := (mkF m 230 #[iv u0, iv u1, iv u2, .val (.long u3), .second, iv u4, .val (.long u5), .second, iv (2 : Int32), iv ka, iv kb, .val .null, .val .null, rv b23, iv (0 : Int32), iv (1 : Int32), iv (2 : Int32), iv (1 : Int32)] [(.int (0 : Int32)), (.ref b23)])) rfl (by rw [hml]; rfl) (Steps.refl _) (argsL := [(.int (0 : Int32))]) (rest := []) (lenOf pd_4 rfl) rfl (by show 2 * 0 + _ ≤ _; exact Nat.le_of_eq rfl) (hb hby at_230) (fun _ _ => ⟨rfl, eq36, (by decide : 5 + 0 ≤ _), (by decide : 13 + 0 ≤ _)⟩)
        dsimp only [Pt.U, Pt.locs, Pt.cells, Pt.slots] at X37 l37 y37 z37 st37 hQ37
        subst y37 z37
        obtain ⟨rfl, Nq37, eq37⟩ := hQ37
        have N37 : Fr n0 L37 := by rw [l37]; exact Fr.app N36 Nq37
        obtain ⟨cq38, kq38, q38a, q38b, q38c⟩ := isOf hZ eq37 f34
        obtain ⟨_, _, ⟨T38, L38, k38, n38⟩, -, X38, ⟨Lc38, hQ38, l38, y38, z38⟩, st38⟩ := X37.virtualBack hx (y := (⟨"com/example/agouti/agouti/store/IndexBuilder$Notes", "value", "(I)[B"⟩ : MethodName)) (z := (⟨"com/example/agouti/agouti/store/IndexBuilder$Notes", "value", "(I)[B"⟩ : MethodName)) hown (mvT hZ (hw _ (List.mem_of_getElem? (i := 45) rfl))) (mvT hZ (hw _ (List.mem_of_getElem? (i := 46) rfl))) (notFace_of_selects (args := #[]) (mvT hZ (hw _ (List.mem_of_getElem? (i := 48) rfl)))) (mvT hZ (hw _ (List.mem_of_getElem? (i := 48) rfl))) (mvT hZ (hw _ (List.mem_of_getElem? (i := 47) rfl))) (by decide) (backOf (W := 0) (rmVal0 l Z a0 hw [] b23 (0 : Int32) (2 : Int32) (2 : Int32) [ka, kb] [u2, u4] [.null, .null] [u3, u5] T33.heap n0 Zq33 B33 (by decide) (by decide) rfl) hZ (hw _ (List.mem_of_getElem? (i := 49) rfl)) (hw _ (List.mem_of_getElem? (i := 3) rfl)) (by decide) (by decide)) q38a q38c (g := (mkF m 240 #[iv u0, iv u1, iv u2, .val (.long u3), .second, iv u4, .val (.long u5), .second, iv (2 : Int32), iv ka, iv kb, .val .null, .val .null, rv b23, iv (0 : Int32), iv (1 : Int32), iv (2 : Int32), iv (1 : Int32)] [(.int (0 : Int32)), (.ref b23)])) rfl (by rw [hml]; rfl) (Steps.refl _) (argsL := [(.int (0 : Int32))]) (rest := []) (lenOf pd_5 rfl) rfl (by show 2 * 0 + _ ≤ _; exact Nat.le_of_eq rfl) (hb hby at_240) (fun _ _ => ⟨rfl, eq37, (by decide : 5 + 0 ≤ _), (by decide : 13 + 0 ≤ _)⟩)
        dsimp only [Pt.U, Pt.locs, Pt.cells, Pt.slots] at X38 l38 y38 z38 st38 hQ38
        subst y38 z38
        obtain ⟨rfl, Nq38, eq38⟩ := hQ38
        have N38 : Fr n0 L38 := by rw [l38]; exact Fr.app N37 Nq38
        obtain ⟨cq39, kq39, q39a, q39b, q39c⟩ := isOf hZ eq38 f34
        obtain ⟨_, _, ⟨T39, L39, k39, n39⟩, -, X39, ⟨Lc39, hQ39, l39, y39, z39⟩, st39⟩ := X38.virtualBack hx (y := (⟨"com/example/agouti/agouti/store/IndexBuilder$Notes", "hash", "(I)J"⟩ : MethodName)) (z := (⟨"com/example/agouti/agouti/store/IndexBuilder$Notes", "hash", "(I)J"⟩ : MethodName)) hown (mvT hZ (hw _ (List.mem_of_getElem? (i := 50) rfl))) (mvT hZ (hw _ (List.mem_of_getElem? (i := 51) rfl))) (notFace_of_selects (args := #[]) (mvT hZ (hw _ (List.mem_of_getElem? (i := 53) rfl)))) (mvT hZ (hw _ (List.mem_of_getElem? (i := 53) rfl))) (mvT hZ (hw _ (List.mem_of_getElem? (i := 52) rfl))) (by decide) (backOf (W := 0) (rmHash l Z a0 hw [] b23 (0 : Int32) (2 : Int32) (2 : Int32) [ka, kb] [u2, u4] [.null, .null] [u3, u5] u3 T33.heap n0 Zq33 B33 (by decide) (by decide) rfl) hZ (hw _ (List.mem_of_getElem? (i := 54) rfl)) (hw _ (List.mem_of_getElem? (i := 3) rfl)) (by decide) (by decide)) q39a q39c (g := (mkF m 251 #[iv u0, iv u1, iv u2, .val (.long u3), .second, iv u4, .val (.long u5), .second, iv (2 : Int32), iv ka, iv kb, .val .null, .val .null, rv b23, iv (0 : Int32), iv (1 : Int32), iv (2 : Int32), iv (1 : Int32)] [(.int (0 : Int32)), (.ref b23)])) rfl (by rw [hml]; rfl) (Steps.refl _) (argsL := [(.int (0 : Int32))]) (rest := []) (lenOf pd_6 rfl) rfl (by show 2 * 0 + _ ≤ _; exact Nat.le_of_eq rfl) (hb hby at_251) (fun _ _ => ⟨rfl, eq38, (by decide : 5 + 0 ≤ _), (by decide : 13 + 0 ≤ _)⟩)
        dsimp only [Pt.U, Pt.locs, Pt.cells, Pt.slots] at X39 l39 y39 z39 st39 hQ39
        subst y39 z39
        obtain ⟨rfl, Nq39, eq39⟩ := hQ39
        have N39 : Fr n0 L39 := by rw [l39]; exact Fr.app N38 Nq39
        obtain ⟨cq40, kq40, q40a, q40b, q40c⟩ := isOf hZ eq39 f34
        obtain ⟨_, _, ⟨T40, L40, k40, n40⟩, -, X40, ⟨Lc40, hQ40, l40, y40, z40⟩, st40⟩ := X39.virtualBack hx (y := (⟨"com/example/agouti/agouti/store/IndexBuilder$Notes", "kind", "(I)B"⟩ : MethodName)) (z := (⟨"com/example/agouti/agouti/store/IndexBuilder$Notes", "kind", "(I)B"⟩ : MethodName)) hown (mvT hZ (hw _ (List.mem_of_getElem? (i := 35) rfl))) (mvT hZ (hw _ (List.mem_of_getElem? (i := 36) rfl))) (notFace_of_selects (args := #[]) (mvT hZ (hw _ (List.mem_of_getElem? (i := 38) rfl)))) (mvT hZ (hw _ (List.mem_of_getElem? (i := 38) rfl))) (mvT hZ (hw _ (List.mem_of_getElem? (i := 37) rfl))) (by decide) (backOf (W := 0) (rmKind l Z a0 hw [] b23 (1 : Int32) (2 : Int32) (2 : Int32) [ka, kb] [u2, u4] [.null, .null] [u3, u5] kb T33.heap n0 Zq33 B33 (by decide) (by decide) rfl (by rw [e_kb]; exact own_nb _)) hZ (hw _ (List.mem_of_getElem? (i := 39) rfl)) (hw _ (List.mem_of_getElem? (i := 3) rfl)) (by decide) (by decide)) q40a q40c (g := (mkF m 280 #[iv u0, iv u1, iv u2, .val (.long u3), .second, iv u4, .val (.long u5), .second, iv (2 : Int32), iv ka, iv kb, .val .null, .val .null, rv b23, iv (0 : Int32), iv (1 : Int32), iv (2 : Int32), iv (1 : Int32)] [(.int (1 : Int32)), (.ref b23)])) rfl (by rw [hml]; rfl) (Steps.refl _) (argsL := [(.int (1 : Int32))]) (rest := []) (lenOf pd_3 rfl) rfl (by show 2 * 0 + _ ≤ _; exact Nat.le_of_eq rfl) (hb hby at_280) (fun _ _ => ⟨rfl, eq39, (by decide : 5 + 0 ≤ _), (by decide : 13 + 0 ≤ _)⟩)
        dsimp only [Pt.U, Pt.locs, Pt.cells, Pt.slots] at X40 l40 y40 z40 st40 hQ40
        subst y40 z40
        obtain ⟨rfl, Nq40, eq40⟩ := hQ40
        have N40 : Fr n0 L40 := by rw [l40]; exact Fr.app N39 Nq40
        obtain ⟨cq41, kq41, q41a, q41b, q41c⟩ := isOf hZ eq40 f34
        obtain ⟨_, _, ⟨T41, L41, k41, n41⟩, -, X41, ⟨Lc41, hQ41, l41, y41, z41⟩, st41⟩ := X40.virtualBack hx (y := (⟨"com/example/agouti/agouti/store/IndexBuilder$Notes", "node", "(I)I"⟩ : MethodName)) (z := (⟨"com/example/agouti/agouti/store/IndexBuilder$Notes", "node", "(I)I"⟩ : MethodName)) hown (mvT hZ (hw _ (List.mem_of_getElem? (i := 40) rfl))) (mvT hZ (hw _ (List.mem_of_getElem? (i := 41) rfl))) (notFace_of_selects (args := #[]) (mvT hZ (hw _ (List.mem_of_getElem? (i := 43) rfl)))) (mvT hZ (hw _ (List.mem_of_getElem? (i := 43) rfl))) (mvT hZ (hw _ (List.mem_of_getElem? (i := 42) rfl))) (by decide) (backOf (W := 0) (rmNode l Z a0 hw [] b23 (1 : Int32) (2 : Int32) (2 : Int32) [ka, kb] [u2, u4] [.null, .null] [u3, u5] u4 T33.heap n0 Zq33 B33 (by decide) (by decide) rfl) hZ (hw _ (List.mem_of_getElem? (i := 44) rfl)) (hw _ (List.mem_of_getElem? (i := 3) rfl)) (by decide) (by decide)) q41a q41c (g := (mkF m 291 #[iv u0, iv u1, iv u2, .val (.long u3), .second, iv u4, .val (.long u5), .second, iv (2 : Int32), iv ka, iv kb, .val .null, .val .null, rv b23, iv (0 : Int32), iv (1 : Int32), iv (2 : Int32), iv (1 : Int32)] [(.int (1 : Int32)), (.ref b23)])) rfl (by rw [hml]; rfl) (Steps.refl _) (argsL := [(.int (1 : Int32))]) (rest := []) (lenOf pd_4 rfl) rfl (by show 2 * 0 + _ ≤ _; exact Nat.le_of_eq rfl) (hb hby at_291) (fun _ _ => ⟨rfl, eq40, (by decide : 5 + 0 ≤ _), (by decide : 13 + 0 ≤ _)⟩)
        dsimp only [Pt.U, Pt.locs, Pt.cells, Pt.slots] at X41 l41 y41 z41 st41 hQ41
        subst y41 z41
        obtain ⟨rfl, Nq41, eq41⟩ := hQ41
        have N41 : Fr n0 L41 := by rw [l41]; exact Fr.app N40 Nq41
        obtain ⟨cq42, kq42, q42a, q42b, q42c⟩ := isOf hZ eq41 f34
        obtain ⟨_, _, ⟨T42, L42, k42, n42⟩, -, X42, ⟨Lc42, hQ42, l42, y42, z42⟩, st42⟩ := X41.virtualBack hx (y := (⟨"com/example/agouti/agouti/store/IndexBuilder$Notes", "value", "(I)[B"⟩ : MethodName)) (z := (⟨"com/example/agouti/agouti/store/IndexBuilder$Notes", "value", "(I)[B"⟩ : MethodName)) hown (mvT hZ (hw _ (List.mem_of_getElem? (i := 45) rfl))) (mvT hZ (hw _ (List.mem_of_getElem? (i := 46) rfl))) (notFace_of_selects (args := #[]) (mvT hZ (hw _ (List.mem_of_getElem? (i := 48) rfl)))) (mvT hZ (hw _ (List.mem_of_getElem? (i := 48) rfl))) (mvT hZ (hw _ (List.mem_of_getElem? (i := 47) rfl))) (by decide) (backOf (W := 0) (rmVal0 l Z a0 hw [] b23 (1 : Int32) (2 : Int32) (2 : Int32) [ka, kb] [u2, u4] [.null, .null] [u3, u5] T33.heap n0 Zq33 B33 (by decide) (by decide) rfl) hZ (hw _ (List.mem_of_getElem? (i := 49) rfl)) (hw _ (List.mem_of_getElem? (i := 3) rfl)) (by decide) (by decide)) q42a q42c (g := (mkF m 302 #[iv u0, iv u1, iv u2, .val (.long u3), .second, iv u4, .val (.long u5), .second, iv (2 : Int32), iv ka, iv kb, .val .null, .val .null, rv b23, iv (0 : Int32), iv (1 : Int32), iv (2 : Int32), iv (1 : Int32)] [(.int (1 : Int32)), (.ref b23)])) rfl (by rw [hml]; rfl) (Steps.refl _) (argsL := [(.int (1 : Int32))]) (rest := []) (lenOf pd_5 rfl) rfl (by show 2 * 0 + _ ≤ _; exact Nat.le_of_eq rfl) (hb hby at_302) (fun _ _ => ⟨rfl, eq41, (by decide : 5 + 0 ≤ _), (by decide : 13 + 0 ≤ _)⟩)
        dsimp only [Pt.U, Pt.locs, Pt.cells, Pt.slots] at X42 l42 y42 z42 st42 hQ42
        subst y42 z42
        obtain ⟨rfl, Nq42, eq42⟩ := hQ42
        have N42 : Fr n0 L42 := by rw [l42]; exact Fr.app N41 Nq42
        obtain ⟨cq43, kq43, q43a, q43b, q43c⟩ := isOf hZ eq42 f34
        obtain ⟨_, _, ⟨T43, L43, k43, n43⟩, -, X43, ⟨Lc43, hQ43, l43, y43, z43⟩, st43⟩ := X42.virtualBack hx (y := (⟨"com/example/agouti/agouti/store/IndexBuilder$Notes", "hash", "(I)J"⟩ : MethodName)) (z := (⟨"com/example/agouti/agouti/store/IndexBuilder$Notes", "hash", "(I)J"⟩ : MethodName)) hown (mvT hZ (hw _ (List.mem_of_getElem? (i := 50) rfl))) (mvT hZ (hw _ (List.mem_of_getElem? (i := 51) rfl))) (notFace_of_selects (args := #[]) (mvT hZ (hw _ (List.mem_of_getElem? (i := 53) rfl)))) (mvT hZ (hw _ (List.mem_of_getElem? (i := 53) rfl))) (mvT hZ (hw _ (List.mem_of_getElem? (i := 52) rfl))) (by decide) (backOf (W := 0) (rmHash l Z a0 hw [] b23 (1 : Int32) (2 : Int32) (2 : Int32) [ka, kb] [u2, u4] [.null, .null] [u3, u5] u5 T33.heap n0 Zq33 B33 (by decide) (by decide) rfl) hZ (hw _ (List.mem_of_getElem? (i := 54) rfl)) (hw _ (List.mem_of_getElem? (i := 3) rfl)) (by decide) (by decide)) q43a q43c (g := (mkF m 313 #[iv u0, iv u1, iv u2, .val (.long u3), .second, iv u4, .val (.long u5), .second, iv (2 : Int32), iv ka, iv kb, .val .null, .val .null, rv b23, iv (0 : Int32), iv (1 : Int32), iv (2 : Int32), iv (1 : Int32)] [(.int (1 : Int32)), (.ref b23)])) rfl (by rw [hml]; rfl) (Steps.refl _) (argsL := [(.int (1 : Int32))]) (rest := []) (lenOf pd_6 rfl) rfl (by show 2 * 0 + _ ≤ _; exact Nat.le_of_eq rfl) (hb hby at_313) (fun _ _ => ⟨rfl, eq42, (by decide : 5 + 0 ≤ _), (by decide : 13 + 0 ≤ _)⟩)
        dsimp only [Pt.U, Pt.locs, Pt.cells, Pt.slots] at X43 l43 y43 z43 st43 hQ43
        subst y43 z43
        obtain ⟨rfl, Nq43, eq43⟩ := hQ43
        have N43 : Fr n0 L43 := by rw [l43]; exact Fr.app N42 Nq43
        obtain ⟨fs, hr, hrun, hended, hW, hsame⟩ := X43.leave (v := some (.int (1 : Int32))) (fun h => by rw [Bd.returns] at h; cases h)
        refine ⟨_, _, S7 _ ?_, hrun, hended, _, _, rfl, ?_, ⟨_, rfl⟩, hW, hsame.mono (by decide) (by decide)⟩
        · skip
          show Steps p.tables e below (s₁.setTop (mkF m 87 #[iv u0, iv u1, iv u2, .val (.long u3), .second, iv u4, .val (.long u5), .second, iv (2 : Int32), iv ka, iv kb, .val .null, .val .null, .unset, .unset, .unset, .unset, .unset] [])) _
          refine st23 _ ?_
          show Steps p.tables e below (T23.setTop (mkF m 90 #[iv u0, iv u1, iv u2, .val (.long u3), .second, iv u4, .val (.long u5), .second, iv (2 : Int32), iv ka, iv kb, .val .null, .val .null, .unset, .unset, .unset, .unset, .unset] [(.ref b23)])) _
          refine XS.dup X23.here hx rfl (hb hby at_90) rfl rfl ?_
          show Steps p.tables e below (T23.setTop (mkF m 91 #[iv u0, iv u1, iv u2, .val (.long u3), .second, iv u4, .val (.long u5), .second, iv (2 : Int32), iv ka, iv kb, .val .null, .val .null, .unset, .unset, .unset, .unset, .unset] [(.ref b23), (.ref b23)])) _
          refine XS.iload X23.here hx rfl (hb hby at_91) rfl ?_
          show Steps p.tables e below (T23.setTop (mkF m 93 #[iv u0, iv u1, iv u2, .val (.long u3), .second, iv u4, .val (.long u5), .second, iv (2 : Int32), iv ka, iv kb, .val .null, .val .null, .unset, .unset, .unset, .unset, .unset] [(.int (2 : Int32)), (.ref b23), (.ref b23)])) _
          refine st24.trans ?_
          show Steps p.tables e below (T24.setTop (mkF m 96 #[iv u0, iv u1, iv u2, .val (.long u3), .second, iv u4, .val (.long u5), .second, iv (2 : Int32), iv ka, iv kb, .val .null, .val .null, .unset, .unset, .unset, .unset, .unset] [(.ref b23)])) _
          refine XS.astore X24.here hx rfl (hb hby at_96) rfl rfl (l' := #[iv u0, iv u1, iv u2, .val (.long u3), .second, iv u4, .val (.long u5), .second, iv (2 : Int32), iv ka, iv kb, .val .null, .val .null, rv b23, .unset, .unset, .unset, .unset]) rfl ?_
          show Steps p.tables e below (T24.setTop (mkF m 98 #[iv u0, iv u1, iv u2, .val (.long u3), .second, iv u4, .val (.long u5), .second, iv (2 : Int32), iv ka, iv kb, .val .null, .val .null, rv b23, .unset, .unset, .unset, .unset] [])) _
          refine XS.aload X24.here hx rfl (hb hby at_98) rfl rfl ?_
          show Steps p.tables e below (T24.setTop (mkF m 100 #[iv u0, iv u1, iv u2, .val (.long u3), .second, iv u4, .val (.long u5), .second, iv (2 : Int32), iv ka, iv kb, .val .null, .val .null, rv b23, .unset, .unset, .unset, .unset] [(.ref b23)])) _
          refine XS.iload X24.here hx rfl (hb hby at_100) rfl ?_
          show Steps p.tables e below (T24.setTop (mkF m 102 #[iv u0, iv u1, iv u2, .val (.long u3), .second, iv u4, .val (.long u5), .second, iv (2 : Int32), iv ka, iv kb, .val .null, .val .null, rv b23, .unset, .unset, .unset, .unset] [(.int ka), (.ref b23)])) _
          refine XS.iloadN X24.here hx rfl (hb hby at_102) rfl ?_
          show Steps p.tables e below (T24.setTop (mkF m 103 #[iv u0, iv u1, iv u2, .val (.long u3), .second, iv u4, .val (.long u5), .second, iv (2 : Int32), iv ka, iv kb, .val .null, .val .null, rv b23, .unset, .unset, .unset, .unset] [(.int u2), (.int ka), (.ref b23)])) _
          refine XS.aload X24.here hx rfl (hb hby at_103) rfl rfl ?_
          show Steps p.tables e below (T24.setTop (mkF m 105 #[iv u0, iv u1, iv u2, .val (.long u3), .second, iv u4, .val (.long u5), .second, iv (2 : Int32), iv ka, iv kb, .val .null, .val .null, rv b23, .unset, .unset, .unset, .unset] [.null, (.int u2), (.int ka), (.ref b23)])) _
          refine XS.lloadN X24.here hx rfl (hb hby at_105) rfl ?_
          show Steps p.tables e below (T24.setTop (mkF m 106 #[iv u0, iv u1, iv u2, .val (.long u3), .second, iv u4, .val (.long u5), .second, iv (2 : Int32), iv ka, iv kb, .val .null, .val .null, rv b23, .unset, .unset, .unset, .unset] [(.long u3), .null, (.int u2), (.int ka), (.ref b23)])) _
          refine st31.trans ?_
          show Steps p.tables e below (T31.setTop (mkF m 109 #[iv u0, iv u1, iv u2, .val (.long u3), .second, iv u4, .val (.long u5), .second, iv (2 : Int32), iv ka, iv kb, .val .null, .val .null, rv b23, .unset, .unset, .unset, .unset] [(.int (0 : Int32))])) _
          refine XS.istore X31.here hx rfl (hb hby at_109) rfl (l' := #[iv u0, iv u1, iv u2, .val (.long u3), .second, iv u4, .val (.long u5), .second, iv (2 : Int32), iv ka, iv kb, .val .null, .val .null, rv b23, iv (0 : Int32), .unset, .unset, .unset]) rfl ?_
          show Steps p.tables e below (T31.setTop (mkF m 111 #[iv u0, iv u1, iv u2, .val (.long u3), .second, iv u4, .val (.long u5), .second, iv (2 : Int32), iv ka, iv kb, .val .null, .val .null, rv b23, iv (0 : Int32), .unset, .unset, .unset] [])) _
          refine XS.iload X31.here hx rfl (hb hby at_111) rfl ?_
          show Steps p.tables e below (T31.setTop (mkF m 113 #[iv u0, iv u1, iv u2, .val (.long u3), .second, iv u4, .val (.long u5), .second, iv (2 : Int32), iv ka, iv kb, .val .null, .val .null, rv b23, iv (0 : Int32), .unset, .unset, .unset] [(.int (0 : Int32))])) _
          refine XS.iload X31.here hx rfl (hb hby at_113) rfl ?_
          show Steps p.tables e below (T31.setTop (mkF m 115 #[iv u0, iv u1, iv u2, .val (.long u3), .second, iv u4, .val (.long u5), .second, iv (2 : Int32), iv ka, iv kb, .val .null, .val .null, rv b23, iv (0 : Int32), .unset, .unset, .unset] [(.int (2 : Int32)), (.int (0 : Int32))])) _
          refine XS.iconst X31.here hx rfl (hb hby at_115) ?_
          show Steps p.tables e below (T31.setTop (mkF m 116 #[iv u0, iv u1, iv u2, .val (.long u3), .second, iv u4, .val (.long u5), .second, iv (2 : Int32), iv ka, iv kb, .val .null, .val .null, rv b23, iv (0 : Int32), .unset, .unset, .unset] [(.int (1 : Int32)), (.int (2 : Int32)), (.int (0 : Int32))])) _
          refine XS.icmpYes X31.here hx rfl (pc0 := 116) (pc' := 123) rfl (hb hby at_116) rfl (feq (by decide : ¬ ((2 : Int32) = (1 : Int32)))).2 (by decide) (by decide) ?_
          show Steps p.tables e below (T31.setTop (mkF m 123 #[iv u0, iv u1, iv u2, .val (.long u3), .second, iv u4, .val (.long u5), .second, iv (2 : Int32), iv ka, iv kb, .val .null, .val .null, rv b23, iv (0 : Int32), .unset, .unset, .unset] [(.int (0 : Int32))])) _
          refine XS.iconst X31.here hx rfl (hb hby at_123) ?_
          show Steps p.tables e below (T31.setTop (mkF m 124 #[iv u0, iv u1, iv u2, .val (.long u3), .second, iv u4, .val (.long u5), .second, iv (2 : Int32), iv ka, iv kb, .val .null, .val .null, rv b23, iv (0 : Int32), .unset, .unset, .unset] [(.int (0 : Int32)), (.int (0 : Int32))])) _
          refine XS.icmpNo X31.here hx rfl (hb hby at_124) rfl (teq (by decide : (0 : Int32) = (0 : Int32))).2 ?_
          show Steps p.tables e below (T31.setTop (mkF m 127 #[iv u0, iv u1, iv u2, .val (.long u3), .second, iv u4, .val (.long u5), .second, iv (2 : Int32), iv ka, iv kb, .val .null, .val .null, rv b23, iv (0 : Int32), .unset, .unset, .unset] [])) _
          refine XS.iconst X31.here hx rfl (hb hby at_127) ?_
          show Steps p.tables e below (T31.setTop (mkF m 128 #[iv u0, iv u1, iv u2, .val (.long u3), .second, iv u4, .val (.long u5), .second, iv (2 : Int32), iv ka, iv kb, .val .null, .val .null, rv b23, iv (0 : Int32), .unset, .unset, .unset] [(.int (1 : Int32))])) _
          refine XS.goto X31.here hx rfl (pc0 := 128) (pc' := 132) rfl (hb hby at_128) (by decide) (by decide) ?_
          show Steps p.tables e below (T31.setTop (mkF m 132 #[iv u0, iv u1, iv u2, .val (.long u3), .second, iv u4, .val (.long u5), .second, iv (2 : Int32), iv ka, iv kb, .val .null, .val .null, rv b23, iv (0 : Int32), .unset, .unset, .unset] [(.int (1 : Int32))])) _
          refine XS.istore X31.here hx rfl (hb hby at_132) rfl (l' := #[iv u0, iv u1, iv u2, .val (.long u3), .second, iv u4, .val (.long u5), .second, iv (2 : Int32), iv ka, iv kb, .val .null, .val .null, rv b23, iv (0 : Int32), iv (1 : Int32), .unset, .unset]) rfl ?_
          show Steps p.tables e below (T31.setTop (mkF m 134 #[iv u0, iv u1, iv u2, .val (.long u3), .second, iv u4, .val (.long u5), .second, iv (2 : Int32), iv ka, iv kb, .val .null, .val .null, rv b23, iv (0 : Int32), iv (1 : Int32), .unset, .unset] [])) _
          refine XS.iconst X31.here hx rfl (hb hby at_134) ?_
          show Steps p.tables e below (T31.setTop (mkF m 135 #[iv u0, iv u1, iv u2, .val (.long u3), .second, iv u4, .val (.long u5), .second, iv (2 : Int32), iv ka, iv kb, .val .null, .val .null, rv b23, iv (0 : Int32), iv (1 : Int32), .unset, .unset] [(.int (1 : Int32))])) _
          refine XS.istore X31.here hx rfl (hb hby at_135) rfl (l' := #[iv u0, iv u1, iv u2, .val (.long u3), .second, iv u4, .val (.long u5), .second, iv (2 : Int32), iv ka, iv kb, .val .null, .val .null, rv b23, iv (0 : Int32), iv (1 : Int32), iv (1 : Int32), .unset]) rfl ?_
          show Steps p.tables e below (T31.setTop (mkF m 137 #[iv u0, iv u1, iv u2, .val (.long u3), .second, iv u4, .val (.long u5), .second, iv (2 : Int32), iv ka, iv kb, .val .null, .val .null, rv b23, iv (0 : Int32), iv (1 : Int32), iv (1 : Int32), .unset] [])) _
          refine XS.iload X31.here hx rfl (hb hby at_137) rfl ?_
          show Steps p.tables e below (T31.setTop (mkF m 139 #[iv u0, iv u1, iv u2, .val (.long u3), .second, iv u4, .val (.long u5), .second, iv (2 : Int32), iv ka, iv kb, .val .null, .val .null, rv b23, iv (0 : Int32), iv (1 : Int32), iv (1 : Int32), .unset] [(.int (2 : Int32))])) _
          refine XS.iconst X31.here hx rfl (hb hby at_139) ?_
          show Steps p.tables e below (T31.setTop (mkF m 140 #[iv u0, iv u1, iv u2, .val (.long u3), .second, iv u4, .val (.long u5), .second, iv (2 : Int32), iv ka, iv kb, .val .null, .val .null, rv b23, iv (0 : Int32), iv (1 : Int32), iv (1 : Int32), .unset] [(.int (2 : Int32)), (.int (2 : Int32))])) _
          refine XS.icmpNo X31.here hx rfl (hb hby at_140) rfl (flt (by decide : ¬ ((2 : Int32) < (2 : Int32)))).1 ?_
          show Steps p.tables e below (T31.setTop (mkF m 143 #[iv u0, iv u1, iv u2, .val (.long u3), .second, iv u4, .val (.long u5), .second, iv (2 : Int32), iv ka, iv kb, .val .null, .val .null, rv b23, iv (0 : Int32), iv (1 : Int32), iv (1 : Int32), .unset] [])) _
          refine XS.aload X31.here hx rfl (hb hby at_143) rfl rfl ?_
          show Steps p.tables e below (T31.setTop (mkF m 145 #[iv u0, iv u1, iv u2, .val (.long u3), .second, iv u4, .val (.long u5), .second, iv (2 : Int32), iv ka, iv kb, .val .null, .val .null, rv b23, iv (0 : Int32), iv (1 : Int32), iv (1 : Int32), .unset] [(.ref b23)])) _
          refine XS.iload X31.here hx rfl (hb hby at_145) rfl ?_
          show Steps p.tables e below (T31.setTop (mkF m 147 #[iv u0, iv u1, iv u2, .val (.long u3), .second, iv u4, .val (.long u5), .second, iv (2 : Int32), iv ka, iv kb, .val .null, .val .null, rv b23, iv (0 : Int32), iv (1 : Int32), iv (1 : Int32), .unset] [(.int kb), (.ref b23)])) _
          refine XS.iload X31.here hx rfl (hb hby at_147) rfl ?_
          show Steps p.tables e below (T31.setTop (mkF m 149 #[iv u0, iv u1, iv u2, .val (.long u3), .second, iv u4, .val (.long u5), .second, iv (2 : Int32), iv ka, iv kb, .val .null, .val .null, rv b23, iv (0 : Int32), iv (1 : Int32), iv (1 : Int32), .unset] [(.int u4), (.int kb), (.ref b23)])) _
          refine XS.aload X31.here hx rfl (hb hby at_149) rfl rfl ?_
          show Steps p.tables e below (T31.setTop (mkF m 151 #[iv u0, iv u1, iv u2, .val (.long u3), .second, iv u4, .val (.long u5), .second, iv (2 : Int32), iv ka, iv kb, .val .null, .val .null, rv b23, iv (0 : Int32), iv (1 : Int32), iv (1 : Int32), .unset] [.null, (.int u4), (.int kb), (.ref b23)])) _
          refine XS.lload X31.here hx rfl (hb hby at_151) rfl ?_
          show Steps p.tables e below (T31.setTop (mkF m 153 #[iv u0, iv u1, iv u2, .val (.long u3), .second, iv u4, .val (.long u5), .second, iv (2 : Int32), iv ka, iv kb, .val .null, .val .null, rv b23, iv (0 : Int32), iv (1 : Int32), iv (1 : Int32), .unset] [(.long u5), .null, (.int u4), (.int kb), (.ref b23)])) _
          refine st33.trans ?_
          show Steps p.tables e below (T33.setTop (mkF m 156 #[iv u0, iv u1, iv u2, .val (.long u3), .second, iv u4, .val (.long u5), .second, iv (2 : Int32), iv ka, iv kb, .val .null, .val .null, rv b23, iv (0 : Int32), iv (1 : Int32), iv (1 : Int32), .unset] [(.int (1 : Int32))])) _
          refine XS.istore X33.here hx rfl (hb hby at_156) rfl (l' := #[iv u0, iv u1, iv u2, .val (.long u3), .second, iv u4, .val (.long u5), .second, iv (2 : Int32), iv ka, iv kb, .val .null, .val .null, rv b23, iv (0 : Int32), iv (1 : Int32), iv (1 : Int32), iv (1 : Int32)]) rfl ?_
          show Steps p.tables e below (T33.setTop (mkF m 158 #[iv u0, iv u1, iv u2, .val (.long u3), .second, iv u4, .val (.long u5), .second, iv (2 : Int32), iv ka, iv kb, .val .null, .val .null, rv b23, iv (0 : Int32), iv (1 : Int32), iv (1 : Int32), iv (1 : Int32)] [])) _
          refine XS.iload X33.here hx rfl (hb hby at_158) rfl ?_
          show Steps p.tables e below (T33.setTop (mkF m 160 #[iv u0, iv u1, iv u2, .val (.long u3), .second, iv u4, .val (.long u5), .second, iv (2 : Int32), iv ka, iv kb, .val .null, .val .null, rv b23, iv (0 : Int32), iv (1 : Int32), iv (1 : Int32), iv (1 : Int32)] [(.int (1 : Int32))])) _
          refine XS.ifNo X33.here hx rfl (hb hby at_160) rfl ((if0 _ _).trans (feq (by decide : ¬ ((1 : Int32) = (0 : Int32)))).1) ?_
          show Steps p.tables e below (T33.setTop (mkF m 163 #[iv u0, iv u1, iv u2, .val (.long u3), .second, iv u4, .val (.long u5), .second, iv (2 : Int32), iv ka, iv kb, .val .null, .val .null, rv b23, iv (0 : Int32), iv (1 : Int32), iv (1 : Int32), iv (1 : Int32)] [])) _
          refine XS.iload X33.here hx rfl (hb hby at_163) rfl ?_
          show Steps p.tables e below (T33.setTop (mkF m 165 #[iv u0, iv u1, iv u2, .val (.long u3), .second, iv u4, .val (.long u5), .second, iv (2 : Int32), iv ka, iv kb, .val .null, .val .null, rv b23, iv (0 : Int32), iv (1 : Int32), iv (1 : Int32), iv (1 : Int32)] [(.int (1 : Int32))])) _
          refine XS.iload X33.here hx rfl (hb hby at_165) rfl ?_
          show Steps p.tables e below (T33.setTop (mkF m 167 #[iv u0, iv u1, iv u2, .val (.long u3), .second, iv u4, .val (.long u5), .second, iv (2 : Int32), iv ka, iv kb, .val .null, .val .null, rv b23, iv (0 : Int32), iv (1 : Int32), iv (1 : Int32), iv (1 : Int32)] [(.int (2 : Int32)), (.int (1 : Int32))])) _
          refine XS.iconst X33.here hx rfl (hb hby at_167) ?_
          show Steps p.tables e below (T33.setTop (mkF m 168 #[iv u0, iv u1, iv u2, .val (.long u3), .second, iv u4, .val (.long u5), .second, iv (2 : Int32), iv ka, iv kb, .val .null, .val .null, rv b23, iv (0 : Int32), iv (1 : Int32), iv (1 : Int32), iv (1 : Int32)] [(.int (2 : Int32)), (.int (2 : Int32)), (.int (1 : Int32))])) _
          refine XS.icmpNo X33.here hx rfl (hb hby at_168) rfl (teq (by decide : (2 : Int32) = (2 : Int32))).2 ?_
          show Steps p.tables e below (T33.setTop (mkF m 171 #[iv u0, iv u1, iv u2, .val (.long u3), .second, iv u4, .val (.long u5), .second, iv (2 : Int32), iv ka, iv kb, .val .null, .val .null, rv b23, iv (0 : Int32), iv (1 : Int32), iv (1 : Int32), iv (1 : Int32)] [(.int (1 : Int32))])) _
          refine XS.iconst X33.here hx rfl (hb hby at_171) ?_
          show Steps p.tables e below (T33.setTop (mkF m 172 #[iv u0, iv u1, iv u2, .val (.long u3), .second, iv u4, .val (.long u5), .second, iv (2 : Int32), iv ka, iv kb, .val .null, .val .null, rv b23, iv (0 : Int32), iv (1 : Int32), iv (1 : Int32), iv (1 : Int32)] [(.int (1 : Int32)), (.int (1 : Int32))])) _
          refine XS.goto X33.here hx rfl (pc0 := 172) (pc' := 176) rfl (hb hby at_172) (by decide) (by decide) ?_
          show Steps p.tables e below (T33.setTop (mkF m 176 #[iv u0, iv u1, iv u2, .val (.long u3), .second, iv u4, .val (.long u5), .second, iv (2 : Int32), iv ka, iv kb, .val .null, .val .null, rv b23, iv (0 : Int32), iv (1 : Int32), iv (1 : Int32), iv (1 : Int32)] [(.int (1 : Int32)), (.int (1 : Int32))])) _
          refine XS.icmpNo X33.here hx rfl (hb hby at_176) rfl (teq (by decide : (1 : Int32) = (1 : Int32))).2 ?_
          show Steps p.tables e below (T33.setTop (mkF m 179 #[iv u0, iv u1, iv u2, .val (.long u3), .second, iv u4, .val (.long u5), .second, iv (2 : Int32), iv ka, iv kb, .val .null, .val .null, rv b23, iv (0 : Int32), iv (1 : Int32), iv (1 : Int32), iv (1 : Int32)] [])) _
          refine XS.iconst X33.here hx rfl (hb hby at_179) ?_
          show Steps p.tables e below (T33.setTop (mkF m 180 #[iv u0, iv u1, iv u2, .val (.long u3), .second, iv u4, .val (.long u5), .second, iv (2 : Int32), iv ka, iv kb, .val .null, .val .null, rv b23, iv (0 : Int32), iv (1 : Int32), iv (1 : Int32), iv (1 : Int32)] [(.int (1 : Int32))])) _
          refine XS.goto X33.here hx rfl (pc0 := 180) (pc' := 184) rfl (hb hby at_180) (by decide) (by decide) ?_
          show Steps p.tables e below (T33.setTop (mkF m 184 #[iv u0, iv u1, iv u2, .val (.long u3), .second, iv u4, .val (.long u5), .second, iv (2 : Int32), iv ka, iv kb, .val .null, .val .null, rv b23, iv (0 : Int32), iv (1 : Int32), iv (1 : Int32), iv (1 : Int32)] [(.int (1 : Int32))])) _
          refine XS.istore X33.here hx rfl (hb hby at_184) rfl (l' := #[iv u0, iv u1, iv u2, .val (.long u3), .second, iv u4, .val (.long u5), .second, iv (2 : Int32), iv ka, iv kb, .val .null, .val .null, rv b23, iv (0 : Int32), iv (1 : Int32), iv (1 : Int32), iv (1 : Int32)]) rfl ?_
          show Steps p.tables e below (T33.setTop (mkF m 186 #[iv u0, iv u1, iv u2, .val (.long u3), .second, iv u4, .val (.long u5), .second, iv (2 : Int32), iv ka, iv kb, .val .null, .val .null, rv b23, iv (0 : Int32), iv (1 : Int32), iv (1 : Int32), iv (1 : Int32)] [])) _
          refine XS.iconst X33.here hx rfl (hb hby at_186) ?_
          show Steps p.tables e below (T33.setTop (mkF m 187 #[iv u0, iv u1, iv u2, .val (.long u3), .second, iv u4, .val (.long u5), .second, iv (2 : Int32), iv ka, iv kb, .val .null, .val .null, rv b23, iv (0 : Int32), iv (1 : Int32), iv (1 : Int32), iv (1 : Int32)] [(.int (2 : Int32))])) _
          refine XS.istore X33.here hx rfl (hb hby at_187) rfl (l' := #[iv u0, iv u1, iv u2, .val (.long u3), .second, iv u4, .val (.long u5), .second, iv (2 : Int32), iv ka, iv kb, .val .null, .val .null, rv b23, iv (0 : Int32), iv (1 : Int32), iv (2 : Int32), iv (1 : Int32)]) rfl ?_
          show Steps p.tables e below (T33.setTop (mkF m 189 #[iv u0, iv u1, iv u2, .val (.long u3), .second, iv u4, .val (.long u5), .second, iv (2 : Int32), iv ka, iv kb, .val .null, .val .null, rv b23, iv (0 : Int32), iv (1 : Int32), iv (2 : Int32), iv (1 : Int32)] [])) _
          refine XS.iload X33.here hx rfl (hb hby at_189) rfl ?_
          show Steps p.tables e below (T33.setTop (mkF m 191 #[iv u0, iv u1, iv u2, .val (.long u3), .second, iv u4, .val (.long u5), .second, iv (2 : Int32), iv ka, iv kb, .val .null, .val .null, rv b23, iv (0 : Int32), iv (1 : Int32), iv (2 : Int32), iv (1 : Int32)] [(.int (1 : Int32))])) _
          refine XS.ifNo X33.here hx rfl (hb hby at_191) rfl ((if0 _ _).trans (feq (by decide : ¬ ((1 : Int32) = (0 : Int32)))).1) ?_
          show Steps p.tables e below (T33.setTop (mkF m 194 #[iv u0, iv u1, iv u2, .val (.long u3), .second, iv u4, .val (.long u5), .second, iv (2 : Int32), iv ka, iv kb, .val .null, .val .null, rv b23, iv (0 : Int32), iv (1 : Int32), iv (2 : Int32), iv (1 : Int32)] [])) _
          refine XS.aload X33.here hx rfl (hb hby at_194) rfl rfl ?_
          show Steps p.tables e below (T33.setTop (mkF m 196 #[iv u0, iv u1, iv u2, .val (.long u3), .second, iv u4, .val (.long u5), .second, iv (2 : Int32), iv ka, iv kb, .val .null, .val .null, rv b23, iv (0 : Int32), iv (1 : Int32), iv (2 : Int32), iv (1 : Int32)] [(.ref b23)])) _
          refine st35.trans ?_
          show Steps p.tables e below (T35.setTop (mkF m 199 #[iv u0, iv u1, iv u2, .val (.long u3), .second, iv u4, .val (.long u5), .second, iv (2 : Int32), iv ka, iv kb, .val .null, .val .null, rv b23, iv (0 : Int32), iv (1 : Int32), iv (2 : Int32), iv (1 : Int32)] [(.int (2 : Int32))])) _
          refine XS.iload X35.here hx rfl (hb hby at_199) rfl ?_
          show Steps p.tables e below (T35.setTop (mkF m 201 #[iv u0, iv u1, iv u2, .val (.long u3), .second, iv u4, .val (.long u5), .second, iv (2 : Int32), iv ka, iv kb, .val .null, .val .null, rv b23, iv (0 : Int32), iv (1 : Int32), iv (2 : Int32), iv (1 : Int32)] [(.int (2 : Int32)), (.int (2 : Int32))])) _
          refine XS.icmpNo X35.here hx rfl (hb hby at_201) rfl (teq (by decide : (2 : Int32) = (2 : Int32))).2 ?_
          show Steps p.tables e below (T35.setTop (mkF m 204 #[iv u0, iv u1, iv u2, .val (.long u3), .second, iv u4, .val (.long u5), .second, iv (2 : Int32), iv ka, iv kb, .val .null, .val .null, rv b23, iv (0 : Int32), iv (1 : Int32), iv (2 : Int32), iv (1 : Int32)] [])) _
          refine XS.iconst X35.here hx rfl (hb hby at_204) ?_
          show Steps p.tables e below (T35.setTop (mkF m 205 #[iv u0, iv u1, iv u2, .val (.long u3), .second, iv u4, .val (.long u5), .second, iv (2 : Int32), iv ka, iv kb, .val .null, .val .null, rv b23, iv (0 : Int32), iv (1 : Int32), iv (2 : Int32), iv (1 : Int32)] [(.int (1 : Int32))])) _
          refine XS.goto X35.here hx rfl (pc0 := 205) (pc' := 209) rfl (hb hby at_205) (by decide) (by decide) ?_
          show Steps p.tables e below (T35.setTop (mkF m 209 #[iv u0, iv u1, iv u2, .val (.long u3), .second, iv u4, .val (.long u5), .second, iv (2 : Int32), iv ka, iv kb, .val .null, .val .null, rv b23, iv (0 : Int32), iv (1 : Int32), iv (2 : Int32), iv (1 : Int32)] [(.int (1 : Int32))])) _
          refine XS.istore X35.here hx rfl (hb hby at_209) rfl (l' := #[iv u0, iv u1, iv u2, .val (.long u3), .second, iv u4, .val (.long u5), .second, iv (2 : Int32), iv ka, iv kb, .val .null, .val .null, rv b23, iv (0 : Int32), iv (1 : Int32), iv (2 : Int32), iv (1 : Int32)]) rfl ?_
          show Steps p.tables e below (T35.setTop (mkF m 211 #[iv u0, iv u1, iv u2, .val (.long u3), .second, iv u4, .val (.long u5), .second, iv (2 : Int32), iv ka, iv kb, .val .null, .val .null, rv b23, iv (0 : Int32), iv (1 : Int32), iv (2 : Int32), iv (1 : Int32)] [])) _
          refine XS.iload X35.here hx rfl (hb hby at_211) rfl ?_
          show Steps p.tables e below (T35.setTop (mkF m 213 #[iv u0, iv u1, iv u2, .val (.long u3), .second, iv u4, .val (.long u5), .second, iv (2 : Int32), iv ka, iv kb, .val .null, .val .null, rv b23, iv (0 : Int32), iv (1 : Int32), iv (2 : Int32), iv (1 : Int32)] [(.int (1 : Int32))])) _
          refine XS.ifNo X35.here hx rfl (hb hby at_213) rfl ((if0 _ _).trans (feq (by decide : ¬ ((1 : Int32) = (0 : Int32)))).1) ?_
          show Steps p.tables e below (T35.setTop (mkF m 216 #[iv u0, iv u1, iv u2, .val (.long u3), .second, iv u4, .val (.long u5), .second, iv (2 : Int32), iv ka, iv kb, .val .null, .val .null, rv b23, iv (0 : Int32), iv (1 : Int32), iv (2 : Int32), iv (1 : Int32)] [])) _
          refine XS.aload X35.here hx rfl (hb hby at_216) rfl rfl ?_
          show Steps p.tables e below (T35.setTop (mkF m 218 #[iv u0, iv u1, iv u2, .val (.long u3), .second, iv u4, .val (.long u5), .second, iv (2 : Int32), iv ka, iv kb, .val .null, .val .null, rv b23, iv (0 : Int32), iv (1 : Int32), iv (2 : Int32), iv (1 : Int32)] [(.ref b23)])) _
          refine XS.iconst X35.here hx rfl (hb hby at_218) ?_
          show Steps p.tables e below (T35.setTop (mkF m 219 #[iv u0, iv u1, iv u2, .val (.long u3), .second, iv u4, .val (.long u5), .second, iv (2 : Int32), iv ka, iv kb, .val .null, .val .null, rv b23, iv (0 : Int32), iv (1 : Int32), iv (2 : Int32), iv (1 : Int32)] [(.int (0 : Int32)), (.ref b23)])) _
          refine st36.trans ?_
          show Steps p.tables e below (T36.setTop (mkF m 222 #[iv u0, iv u1, iv u2, .val (.long u3), .second, iv u4, .val (.long u5), .second, iv (2 : Int32), iv ka, iv kb, .val .null, .val .null, rv b23, iv (0 : Int32), iv (1 : Int32), iv (2 : Int32), iv (1 : Int32)] [(.int ka)])) _
          refine XS.iload X36.here hx rfl (hb hby at_222) rfl ?_
          show Steps p.tables e below (T36.setTop (mkF m 224 #[iv u0, iv u1, iv u2, .val (.long u3), .second, iv u4, .val (.long u5), .second, iv (2 : Int32), iv ka, iv kb, .val .null, .val .null, rv b23, iv (0 : Int32), iv (1 : Int32), iv (2 : Int32), iv (1 : Int32)] [(.int ka), (.int ka)])) _
          refine XS.icmpNo X36.here hx rfl (hb hby at_224) rfl (teq rfl).2 ?_
          show Steps p.tables e below (T36.setTop (mkF m 227 #[iv u0, iv u1, iv u2, .val (.long u3), .second, iv u4, .val (.long u5), .second, iv (2 : Int32), iv ka, iv kb, .val .null, .val .null, rv b23, iv (0 : Int32), iv (1 : Int32), iv (2 : Int32), iv (1 : Int32)] [])) _
          refine XS.aload X36.here hx rfl (hb hby at_227) rfl rfl ?_
          show Steps p.tables e below (T36.setTop (mkF m 229 #[iv u0, iv u1, iv u2, .val (.long u3), .second, iv u4, .val (.long u5), .second, iv (2 : Int32), iv ka, iv kb, .val .null, .val .null, rv b23, iv (0 : Int32), iv (1 : Int32), iv (2 : Int32), iv (1 : Int32)] [(.ref b23)])) _
          refine XS.iconst X36.here hx rfl (hb hby at_229) ?_
          show Steps p.tables e below (T36.setTop (mkF m 230 #[iv u0, iv u1, iv u2, .val (.long u3), .second, iv u4, .val (.long u5), .second, iv (2 : Int32), iv ka, iv kb, .val .null, .val .null, rv b23, iv (0 : Int32), iv (1 : Int32), iv (2 : Int32), iv (1 : Int32)] [(.int (0 : Int32)), (.ref b23)])) _
          refine st37.trans ?_
          show Steps p.tables e below (T37.setTop (mkF m 233 #[iv u0, iv u1, iv u2, .val (.long u3), .second, iv u4, .val (.long u5), .second, iv (2 : Int32), iv ka, iv kb, .val .null, .val .null, rv b23, iv (0 : Int32), iv (1 : Int32), iv (2 : Int32), iv (1 : Int32)] [(.int u2)])) _
          refine XS.iloadN X37.here hx rfl (hb hby at_233) rfl ?_
          show Steps p.tables e below (T37.setTop (mkF m 234 #[iv u0, iv u1, iv u2, .val (.long u3), .second, iv u4, .val (.long u5), .second, iv (2 : Int32), iv ka, iv kb, .val .null, .val .null, rv b23, iv (0 : Int32), iv (1 : Int32), iv (2 : Int32), iv (1 : Int32)] [(.int u2), (.int u2)])) _
          refine XS.icmpNo X37.here hx rfl (hb hby at_234) rfl (teq rfl).2 ?_
          show Steps p.tables e below (T37.setTop (mkF m 237 #[iv u0, iv u1, iv u2, .val (.long u3), .second, iv u4, .val (.long u5), .second, iv (2 : Int32), iv ka, iv kb, .val .null, .val .null, rv b23, iv (0 : Int32), iv (1 : Int32), iv (2 : Int32), iv (1 : Int32)] [])) _
          refine XS.aload X37.here hx rfl (hb hby at_237) rfl rfl ?_
          show Steps p.tables e below (T37.setTop (mkF m 239 #[iv u0, iv u1, iv u2, .val (.long u3), .second, iv u4, .val (.long u5), .second, iv (2 : Int32), iv ka, iv kb, .val .null, .val .null, rv b23, iv (0 : Int32), iv (1 : Int32), iv (2 : Int32), iv (1 : Int32)] [(.ref b23)])) _
          refine XS.iconst X37.here hx rfl (hb hby at_239) ?_
          show Steps p.tables e below (T37.setTop (mkF m 240 #[iv u0, iv u1, iv u2, .val (.long u3), .second, iv u4, .val (.long u5), .second, iv (2 : Int32), iv ka, iv kb, .val .null, .val .null, rv b23, iv (0 : Int32), iv (1 : Int32), iv (2 : Int32), iv (1 : Int32)] [(.int (0 : Int32)), (.ref b23)])) _
          refine st38.trans ?_
          show Steps p.tables e below (T38.setTop (mkF m 243 #[iv u0, iv u1, iv u2, .val (.long u3), .second, iv u4, .val (.long u5), .second, iv (2 : Int32), iv ka, iv kb, .val .null, .val .null, rv b23, iv (0 : Int32), iv (1 : Int32), iv (2 : Int32), iv (1 : Int32)] [.null])) _
          refine XS.aload X38.here hx rfl (hb hby at_243) rfl rfl ?_
          show Steps p.tables e below (T38.setTop (mkF m 245 #[iv u0, iv u1, iv u2, .val (.long u3), .second, iv u4, .val (.long u5), .second, iv (2 : Int32), iv ka, iv kb, .val .null, .val .null, rv b23, iv (0 : Int32), iv (1 : Int32), iv (2 : Int32), iv (1 : Int32)] [.null, .null])) _
          refine Jvm.RoadKit.acmp (g := (mkF m 245 #[iv u0, iv u1, iv u2, .val (.long u3), .second, iv u4, .val (.long u5), .second, iv (2 : Int32), iv ka, iv kb, .val .null, .val .null, rv b23, iv (0 : Int32), iv (1 : Int32), iv (2 : Int32), iv (1 : Int32)] [.null, .null])) X38 hx rfl rfl rfl (pc0 := 245) (pc' := 248) (same := true) rfl (hb hby at_245) rfl (decide_eq_true rfl) (by decide) (by decide) ?_
          show Steps p.tables e below (T38.setTop (mkF m 248 #[iv u0, iv u1, iv u2, .val (.long u3), .second, iv u4, .val (.long u5), .second, iv (2 : Int32), iv ka, iv kb, .val .null, .val .null, rv b23, iv (0 : Int32), iv (1 : Int32), iv (2 : Int32), iv (1 : Int32)] [])) _
          refine XS.aload X38.here hx rfl (hb hby at_248) rfl rfl ?_
          show Steps p.tables e below (T38.setTop (mkF m 250 #[iv u0, iv u1, iv u2, .val (.long u3), .second, iv u4, .val (.long u5), .second, iv (2 : Int32), iv ka, iv kb, .val .null, .val .null, rv b23, iv (0 : Int32), iv (1 : Int32), iv (2 : Int32), iv (1 : Int32)] [(.ref b23)])) _
          refine XS.iconst X38.here hx rfl (hb hby at_250) ?_
          show Steps p.tables e below (T38.setTop (mkF m 251 #[iv u0, iv u1, iv u2, .val (.long u3), .second, iv u4, .val (.long u5), .second, iv (2 : Int32), iv ka, iv kb, .val .null, .val .null, rv b23, iv (0 : Int32), iv (1 : Int32), iv (2 : Int32), iv (1 : Int32)] [(.int (0 : Int32)), (.ref b23)])) _
          refine st39.trans ?_
          show Steps p.tables e below (T39.setTop (mkF m 254 #[iv u0, iv u1, iv u2, .val (.long u3), .second, iv u4, .val (.long u5), .second, iv (2 : Int32), iv ka, iv kb, .val .null, .val .null, rv b23, iv (0 : Int32), iv (1 : Int32), iv (2 : Int32), iv (1 : Int32)] [(.long u3)])) _
          refine XS.lloadN X39.here hx rfl (hb hby at_254) rfl ?_
          show Steps p.tables e below (T39.setTop (mkF m 255 #[iv u0, iv u1, iv u2, .val (.long u3), .second, iv u4, .val (.long u5), .second, iv (2 : Int32), iv ka, iv kb, .val .null, .val .null, rv b23, iv (0 : Int32), iv (1 : Int32), iv (2 : Int32), iv (1 : Int32)] [(.long u3), (.long u3)])) _
          refine XS.lcmp X39.here hx rfl (hb hby at_255) rfl ?_
          show Steps p.tables e below (T39.setTop (mkF m 256 #[iv u0, iv u1, iv u2, .val (.long u3), .second, iv u4, .val (.long u5), .second, iv (2 : Int32), iv ka, iv kb, .val .null, .val .null, rv b23, iv (0 : Int32), iv (1 : Int32), iv (2 : Int32), iv (1 : Int32)] [(.int (lcmpW u3 u3))])) _
          refine XS.ifNo X39.here hx rfl (hb hby at_256) rfl ((if0 _ _).trans (teq ((lw_eq _ _).mpr rfl)).2) ?_
          show Steps p.tables e below (T39.setTop (mkF m 259 #[iv u0, iv u1, iv u2, .val (.long u3), .second, iv u4, .val (.long u5), .second, iv (2 : Int32), iv ka, iv kb, .val .null, .val .null, rv b23, iv (0 : Int32), iv (1 : Int32), iv (2 : Int32), iv (1 : Int32)] [])) _
          refine XS.iconst X39.here hx rfl (hb hby at_259) ?_
          show Steps p.tables e below (T39.setTop (mkF m 260 #[iv u0, iv u1, iv u2, .val (.long u3), .second, iv u4, .val (.long u5), .second, iv (2 : Int32), iv ka, iv kb, .val .null, .val .null, rv b23, iv (0 : Int32), iv (1 : Int32), iv (2 : Int32), iv (1 : Int32)] [(.int (1 : Int32))])) _
          refine XS.goto X39.here hx rfl (pc0 := 260) (pc' := 264) rfl (hb hby at_260) (by decide) (by decide) ?_
          show Steps p.tables e below (T39.setTop (mkF m 264 #[iv u0, iv u1, iv u2, .val (.long u3), .second, iv u4, .val (.long u5), .second, iv (2 : Int32), iv ka, iv kb, .val .null, .val .null, rv b23, iv (0 : Int32), iv (1 : Int32), iv (2 : Int32), iv (1 : Int32)] [(.int (1 : Int32))])) _
          refine XS.istore X39.here hx rfl (hb hby at_264) rfl (l' := #[iv u0, iv u1, iv u2, .val (.long u3), .second, iv u4, .val (.long u5), .second, iv (2 : Int32), iv ka, iv kb, .val .null, .val .null, rv b23, iv (0 : Int32), iv (1 : Int32), iv (2 : Int32), iv (1 : Int32)]) rfl ?_
          show Steps p.tables e below (T39.setTop (mkF m 266 #[iv u0, iv u1, iv u2, .val (.long u3), .second, iv u4, .val (.long u5), .second, iv (2 : Int32), iv ka, iv kb, .val .null, .val .null, rv b23, iv (0 : Int32), iv (1 : Int32), iv (2 : Int32), iv (1 : Int32)] [])) _
          refine XS.iload X39.here hx rfl (hb hby at_266) rfl ?_
          show Steps p.tables e below (T39.setTop (mkF m 268 #[iv u0, iv u1, iv u2, .val (.long u3), .second, iv u4, .val (.long u5), .second, iv (2 : Int32), iv ka, iv kb, .val .null, .val .null, rv b23, iv (0 : Int32), iv (1 : Int32), iv (2 : Int32), iv (1 : Int32)] [(.int (2 : Int32))])) _
          refine XS.iconst X39.here hx rfl (hb hby at_268) ?_
          show Steps p.tables e below (T39.setTop (mkF m 269 #[iv u0, iv u1, iv u2, .val (.long u3), .second, iv u4, .val (.long u5), .second, iv (2 : Int32), iv ka, iv kb, .val .null, .val .null, rv b23, iv (0 : Int32), iv (1 : Int32), iv (2 : Int32), iv (1 : Int32)] [(.int (2 : Int32)), (.int (2 : Int32))])) _
          refine XS.icmpNo X39.here hx rfl (hb hby at_269) rfl (flt (by decide : ¬ ((2 : Int32) < (2 : Int32)))).1 ?_
          show Steps p.tables e below (T39.setTop (mkF m 272 #[iv u0, iv u1, iv u2, .val (.long u3), .second, iv u4, .val (.long u5), .second, iv (2 : Int32), iv ka, iv kb, .val .null, .val .null, rv b23, iv (0 : Int32), iv (1 : Int32), iv (2 : Int32), iv (1 : Int32)] [])) _
          refine XS.iload X39.here hx rfl (hb hby at_272) rfl ?_
          show Steps p.tables e below (T39.setTop (mkF m 274 #[iv u0, iv u1, iv u2, .val (.long u3), .second, iv u4, .val (.long u5), .second, iv (2 : Int32), iv ka, iv kb, .val .null, .val .null, rv b23, iv (0 : Int32), iv (1 : Int32), iv (2 : Int32), iv (1 : Int32)] [(.int (1 : Int32))])) _
          refine XS.ifNo X39.here hx rfl (hb hby at_274) rfl ((if0 _ _).trans (feq (by decide : ¬ ((1 : Int32) = (0 : Int32)))).1) ?_
          show Steps p.tables e below (T39.setTop (mkF m 277 #[iv u0, iv u1, iv u2, .val (.long u3), .second, iv u4, .val (.long u5), .second, iv (2 : Int32), iv ka, iv kb, .val .null, .val .null, rv b23, iv (0 : Int32), iv (1 : Int32), iv (2 : Int32), iv (1 : Int32)] [])) _
          refine XS.aload X39.here hx rfl (hb hby at_277) rfl rfl ?_
          show Steps p.tables e below (T39.setTop (mkF m 279 #[iv u0, iv u1, iv u2, .val (.long u3), .second, iv u4, .val (.long u5), .second, iv (2 : Int32), iv ka, iv kb, .val .null, .val .null, rv b23, iv (0 : Int32), iv (1 : Int32), iv (2 : Int32), iv (1 : Int32)] [(.ref b23)])) _
          refine XS.iconst X39.here hx rfl (hb hby at_279) ?_
          show Steps p.tables e below (T39.setTop (mkF m 280 #[iv u0, iv u1, iv u2, .val (.long u3), .second, iv u4, .val (.long u5), .second, iv (2 : Int32), iv ka, iv kb, .val .null, .val .null, rv b23, iv (0 : Int32), iv (1 : Int32), iv (2 : Int32), iv (1 : Int32)] [(.int (1 : Int32)), (.ref b23)])) _
          refine st40.trans ?_
          show Steps p.tables e below (T40.setTop (mkF m 283 #[iv u0, iv u1, iv u2, .val (.long u3), .second, iv u4, .val (.long u5), .second, iv (2 : Int32), iv ka, iv kb, .val .null, .val .null, rv b23, iv (0 : Int32), iv (1 : Int32), iv (2 : Int32), iv (1 : Int32)] [(.int kb)])) _
          refine XS.iload X40.here hx rfl (hb hby at_283) rfl ?_
          show Steps p.tables e below (T40.setTop (mkF m 285 #[iv u0, iv u1, iv u2, .val (.long u3), .second, iv u4, .val (.long u5), .second, iv (2 : Int32), iv ka, iv kb, .val .null, .val .null, rv b23, iv (0 : Int32), iv (1 : Int32), iv (2 : Int32), iv (1 : Int32)] [(.int kb), (.int kb)])) _
          refine XS.icmpNo X40.here hx rfl (hb hby at_285) rfl (teq rfl).2 ?_
          show Steps p.tables e below (T40.setTop (mkF m 288 #[iv u0, iv u1, iv u2, .val (.long u3), .second, iv u4, .val (.long u5), .second, iv (2 : Int32), iv ka, iv kb, .val .null, .val .null, rv b23, iv (0 : Int32), iv (1 : Int32), iv (2 : Int32), iv (1 : Int32)] [])) _
          refine XS.aload X40.here hx rfl (hb hby at_288) rfl rfl ?_
          show Steps p.tables e below (T40.setTop (mkF m 290 #[iv u0, iv u1, iv u2, .val (.long u3), .second, iv u4, .val (.long u5), .second, iv (2 : Int32), iv ka, iv kb, .val .null, .val .null, rv b23, iv (0 : Int32), iv (1 : Int32), iv (2 : Int32), iv (1 : Int32)] [(.ref b23)])) _
          refine XS.iconst X40.here hx rfl (hb hby at_290) ?_
          show Steps p.tables e below (T40.setTop (mkF m 291 #[iv u0, iv u1, iv u2, .val (.long u3), .second, iv u4, .val (.long u5), .second, iv (2 : Int32), iv ka, iv kb, .val .null, .val .null, rv b23, iv (0 : Int32), iv (1 : Int32), iv (2 : Int32), iv (1 : Int32)] [(.int (1 : Int32)), (.ref b23)])) _
          refine st41.trans ?_
          show Steps p.tables e below (T41.setTop (mkF m 294 #[iv u0, iv u1, iv u2, .val (.long u3), .second, iv u4, .val (.long u5), .second, iv (2 : Int32), iv ka, iv kb, .val .null, .val .null, rv b23, iv (0 : Int32), iv (1 : Int32), iv (2 : Int32), iv (1 : Int32)] [(.int u4)])) _
          refine XS.iload X41.here hx rfl (hb hby at_294) rfl ?_
          show Steps p.tables e below (T41.setTop (mkF m 296 #[iv u0, iv u1, iv u2, .val (.long u3), .second, iv u4, .val (.long u5), .second, iv (2 : Int32), iv ka, iv kb, .val .null, .val .null, rv b23, iv (0 : Int32), iv (1 : Int32), iv (2 : Int32), iv (1 : Int32)] [(.int u4), (.int u4)])) _
          refine XS.icmpNo X41.here hx rfl (hb hby at_296) rfl (teq rfl).2 ?_
          show Steps p.tables e below (T41.setTop (mkF m 299 #[iv u0, iv u1, iv u2, .val (.long u3), .second, iv u4, .val (.long u5), .second, iv (2 : Int32), iv ka, iv kb, .val .null, .val .null, rv b23, iv (0 : Int32), iv (1 : Int32), iv (2 : Int32), iv (1 : Int32)] [])) _
          refine XS.aload X41.here hx rfl (hb hby at_299) rfl rfl ?_
          show Steps p.tables e below (T41.setTop (mkF m 301 #[iv u0, iv u1, iv u2, .val (.long u3), .second, iv u4, .val (.long u5), .second, iv (2 : Int32), iv ka, iv kb, .val .null, .val .null, rv b23, iv (0 : Int32), iv (1 : Int32), iv (2 : Int32), iv (1 : Int32)] [(.ref b23)])) _
          refine XS.iconst X41.here hx rfl (hb hby at_301) ?_
          show Steps p.tables e below (T41.setTop (mkF m 302 #[iv u0, iv u1, iv u2, .val (.long u3), .second, iv u4, .val (.long u5), .second, iv (2 : Int32), iv ka, iv kb, .val .null, .val .null, rv b23, iv (0 : Int32), iv (1 : Int32), iv (2 : Int32), iv (1 : Int32)] [(.int (1 : Int32)), (.ref b23)])) _
          refine st42.trans ?_
          show Steps p.tables e below (T42.setTop (mkF m 305 #[iv u0, iv u1, iv u2, .val (.long u3), .second, iv u4, .val (.long u5), .second, iv (2 : Int32), iv ka, iv kb, .val .null, .val .null, rv b23, iv (0 : Int32), iv (1 : Int32), iv (2 : Int32), iv (1 : Int32)] [.null])) _
          refine XS.aload X42.here hx rfl (hb hby at_305) rfl rfl ?_
          show Steps p.tables e below (T42.setTop (mkF m 307 #[iv u0, iv u1, iv u2, .val (.long u3), .second, iv u4, .val (.long u5), .second, iv (2 : Int32), iv ka, iv kb, .val .null, .val .null, rv b23, iv (0 : Int32), iv (1 : Int32), iv (2 : Int32), iv (1 : Int32)] [.null, .null])) _
          refine Jvm.RoadKit.acmp (g := (mkF m 307 #[iv u0, iv u1, iv u2, .val (.long u3), .second, iv u4, .val (.long u5), .second, iv (2 : Int32), iv ka, iv kb, .val .null, .val .null, rv b23, iv (0 : Int32), iv (1 : Int32), iv (2 : Int32), iv (1 : Int32)] [.null, .null])) X42 hx rfl rfl rfl (pc0 := 307) (pc' := 310) (same := true) rfl (hb hby at_307) rfl (decide_eq_true rfl) (by decide) (by decide) ?_
          show Steps p.tables e below (T42.setTop (mkF m 310 #[iv u0, iv u1, iv u2, .val (.long u3), .second, iv u4, .val (.long u5), .second, iv (2 : Int32), iv ka, iv kb, .val .null, .val .null, rv b23, iv (0 : Int32), iv (1 : Int32), iv (2 : Int32), iv (1 : Int32)] [])) _
          refine XS.aload X42.here hx rfl (hb hby at_310) rfl rfl ?_
          show Steps p.tables e below (T42.setTop (mkF m 312 #[iv u0, iv u1, iv u2, .val (.long u3), .second, iv u4, .val (.long u5), .second, iv (2 : Int32), iv ka, iv kb, .val .null, .val .null, rv b23, iv (0 : Int32), iv (1 : Int32), iv (2 : Int32), iv (1 : Int32)] [(.ref b23)])) _
          refine XS.iconst X42.here hx rfl (hb hby at_312) ?_
          show Steps p.tables e below (T42.setTop (mkF m 313 #[iv u0, iv u1, iv u2, .val (.long u3), .second, iv u4, .val (.long u5), .second, iv (2 : Int32), iv ka, iv kb, .val .null, .val .null, rv b23, iv (0 : Int32), iv (1 : Int32), iv (2 : Int32), iv (1 : Int32)] [(.int (1 : Int32)), (.ref b23)])) _
          refine st43.trans ?_
          show Steps p.tables e below (T43.setTop (mkF m 316 #[iv u0, iv u1, iv u2, .val (.long u3), .second, iv u4, .val (.long u5), .second, iv (2 : Int32), iv ka, iv kb, .val .null, .val .null, rv b23, iv (0 : Int32), iv (1 : Int32), iv (2 : Int32), iv (1 : Int32)] [(.long u5)])) _
          refine XS.lload X43.here hx rfl (hb hby at_316) rfl ?_
          show Steps p.tables e below (T43.setTop (mkF m 318 #[iv u0, iv u1, iv u2, .val (.long u3), .second, iv u4, .val (.long u5), .second, iv (2 : Int32), iv ka, iv kb, .val .null, .val .null, rv b23, iv (0 : Int32), iv (1 : Int32), iv (2 : Int32), iv (1 : Int32)] [(.long u5), (.long u5)])) _
          refine XS.lcmp X43.here hx rfl (hb hby at_318) rfl ?_
          show Steps p.tables e below (T43.setTop (mkF m 319 #[iv u0, iv u1, iv u2, .val (.long u3), .second, iv u4, .val (.long u5), .second, iv (2 : Int32), iv ka, iv kb, .val .null, .val .null, rv b23, iv (0 : Int32), iv (1 : Int32), iv (2 : Int32), iv (1 : Int32)] [(.int (lcmpW u5 u5))])) _
          refine XS.ifNo X43.here hx rfl (hb hby at_319) rfl ((if0 _ _).trans (teq ((lw_eq _ _).mpr rfl)).2) ?_
          show Steps p.tables e below (T43.setTop (mkF m 322 #[iv u0, iv u1, iv u2, .val (.long u3), .second, iv u4, .val (.long u5), .second, iv (2 : Int32), iv ka, iv kb, .val .null, .val .null, rv b23, iv (0 : Int32), iv (1 : Int32), iv (2 : Int32), iv (1 : Int32)] [])) _
          refine XS.iconst X43.here hx rfl (hb hby at_322) ?_
          show Steps p.tables e below (T43.setTop (mkF m 323 #[iv u0, iv u1, iv u2, .val (.long u3), .second, iv u4, .val (.long u5), .second, iv (2 : Int32), iv ka, iv kb, .val .null, .val .null, rv b23, iv (0 : Int32), iv (1 : Int32), iv (2 : Int32), iv (1 : Int32)] [(.int (1 : Int32))])) _
          refine XS.goto X43.here hx rfl (pc0 := 323) (pc' := 327) rfl (hb hby at_323) (by decide) (by decide) ?_
          show Steps p.tables e below (T43.setTop (mkF m 327 #[iv u0, iv u1, iv u2, .val (.long u3), .second, iv u4, .val (.long u5), .second, iv (2 : Int32), iv ka, iv kb, .val .null, .val .null, rv b23, iv (0 : Int32), iv (1 : Int32), iv (2 : Int32), iv (1 : Int32)] [(.int (1 : Int32))])) _
          refine XS.istore X43.here hx rfl (hb hby at_327) rfl (l' := #[iv u0, iv u1, iv u2, .val (.long u3), .second, iv u4, .val (.long u5), .second, iv (2 : Int32), iv ka, iv kb, .val .null, .val .null, rv b23, iv (0 : Int32), iv (1 : Int32), iv (2 : Int32), iv (1 : Int32)]) rfl ?_
          show Steps p.tables e below (T43.setTop (mkF m 329 #[iv u0, iv u1, iv u2, .val (.long u3), .second, iv u4, .val (.long u5), .second, iv (2 : Int32), iv ka, iv kb, .val .null, .val .null, rv b23, iv (0 : Int32), iv (1 : Int32), iv (2 : Int32), iv (1 : Int32)] [])) _
          refine XS.iload X43.here hx rfl (hb hby at_329) rfl ?_
          show Steps p.tables e below (T43.setTop (mkF m 331 #[iv u0, iv u1, iv u2, .val (.long u3), .second, iv u4, .val (.long u5), .second, iv (2 : Int32), iv ka, iv kb, .val .null, .val .null, rv b23, iv (0 : Int32), iv (1 : Int32), iv (2 : Int32), iv (1 : Int32)] [(.int (1 : Int32))])) _
          exact retN X43 hx (t := .boolean) Bd.returns (by simp) (hb hby at_331) hr
        · show Q0 Z u0 u1 u2 u3 u4 u5 h0 n0 _ T43.heap _
          rw [eq43]
          exact ⟨rfl, N43⟩
      · skip
        rw [hcp] at S7
        obtain ⟨T44, h44, X44, e44, E44, A44, D44, -, st44⟩ := newO X0 hx hZ hown (hw _ (List.mem_of_getElem? (i := 1) rfl)) (hw _ (List.mem_of_getElem? (i := 2) rfl)) (hw _ (List.mem_of_getElem? (i := 3) rfl)) e0 (g := (mkF m 87 #[iv u0, iv u1, iv u2, .val (.long u3), .second, iv u4, .val (.long u5), .second, iv (3 : Int32), iv ka, iv kb, .val .null, .val .null, .unset, .unset, .unset, .unset, .unset] [])) rfl (hb hby at_87) (by decide) (by decide)
        obtain ⟨b44, g44⟩ : ∃ z, z = h0.size := ⟨_, rfl⟩
        rw [← g44] at A44 D44 st44
        have ge_b44 : n0 ≤ b44 := Nat.le_trans Z0 (Nat.le_of_eq g44.symm)
        have F44_kinds : Fld Z h44 b44 "com/example/agouti/agouti/store/IndexBuilder$Notes" "kinds" "[B" .null := D44 (Or.inr (hw _ (List.mem_of_getElem? (i := 12) rfl))) (ty := (.array .byte)) (by decide)
        have F44_nodes : Fld Z h44 b44 "com/example/agouti/agouti/store/IndexBuilder$Notes" "nodes" "[I" .null := D44 (Or.inr (hw _ (List.mem_of_getElem? (i := 15) rfl))) (ty := (.array .int)) (by decide)
        have F44_values : Fld Z h44 b44 "com/example/agouti/agouti/store/IndexBuilder$Notes" "values" "[[B" .null := D44 (Or.inl (hw _ (List.mem_of_getElem? (i := 19) rfl))) (ty := (.array (.array .byte))) (by decide)
        have F44_hashes : Fld Z h44 b44 "com/example/agouti/agouti/store/IndexBuilder$Notes" "hashes" "[J" .null := D44 (Or.inr (hw _ (List.mem_of_getElem? (i := 22) rfl))) (ty := (.array .long)) (by decide)
        have F44_count : Fld Z h44 b44 "com/example/agouti/agouti/store/IndexBuilder$Notes" "count" "I" (.int (0 : Int32)) := D44 (Or.inl (hw _ (List.mem_of_getElem? (i := 29) rfl))) (ty := .int) (by decide)
        have Z44 : n0 ≤ h44.size := Nat.le_trans Z0 E44.1
        obtain ⟨_, _, ⟨T45, L45, k45, n45⟩, -, X45, ⟨Lc45, hQ45, l45, y45, z45⟩, st45⟩ := X44.specialBack hx (y := (⟨"com/example/agouti/agouti/store/IndexBuilder$Notes", "<init>", "(I)V"⟩ : MethodName)) rfl hown (mvT hZ (hw _ (List.mem_of_getElem? (i := 4) rfl))) (mvT hZ (hw _ (List.mem_of_getElem? (i := 5) rfl))) (mvT hZ (hw _ (List.mem_of_getElem? (i := 6) rfl))) (by decide) (backOf (W := 1) (rmI3 l Z a0 hw [] b44 h44 n0 Z44 A44 F44_count F44_kinds F44_nodes F44_values F44_hashes ge_b44) hZ (hw _ (List.mem_of_getElem? (i := 6) rfl)) (hw _ (List.mem_of_getElem? (i := 3) rfl)) (by decide) (by decide)) (g := (mkF m 93 #[iv u0, iv u1, iv u2, .val (.long u3), .second, iv u4, .val (.long u5), .second, iv (3 : Int32), iv ka, iv kb, .val .null, .val .null, .unset, .unset, .unset, .unset, .unset] [(.int (3 : Int32)), (.ref b44), (.ref b44)])) rfl (by rw [hml]; rfl) (Steps.refl _) (a := b44) (argsL := [(.int (3 : Int32))]) (rest := [(.ref b44)]) (lenOf pd_0 rfl) rfl (by show 2 * 0 + _ ≤ _; exact Nat.le_of_eq rfl) (hb hby at_93) (fun _ _ => ⟨rfl, e44, (by decide : 1 + 4 ≤ _), (by decide : 5 + 12 ≤ _)⟩)
        dsimp only [Pt.U, Pt.locs, Pt.cells, Pt.slots] at X45 l45 y45 z45 st45 hQ45
        subst y45 z45
        obtain ⟨rfl, Nq45, Zq45, Kq45, Bq45⟩ := hQ45
        have N45 : Fr n0 L45 := by rw [l45]; exact Fr.app N0 Nq45
        have f46 := A44.keep Kq45
        have oe45 := Bq45.1
        obtain ⟨cq52, kq52, q52a, q52b, q52c⟩ := isOf hZ rfl oe45
        obtain ⟨_, _, ⟨T52, L52, k52, n52⟩, -, X52, ⟨Lc52, hQ52, l52, y52, z52⟩, st52⟩ := X45.virtualBack hx (y := (⟨"com/example/agouti/agouti/store/IndexBuilder$Notes", "add", "(BI[BJ)Z"⟩ : MethodName)) (z := (⟨"com/example/agouti/agouti/store/IndexBuilder$Notes", "add", "(BI[BJ)Z"⟩ : MethodName)) hown (mvT hZ (hw _ (List.mem_of_getElem? (i := 23) rfl))) (mvT hZ (hw _ (List.mem_of_getElem? (i := 24) rfl))) (notFace_of_selects (args := #[]) (mvT hZ (hw _ (List.mem_of_getElem? (i := 26) rfl)))) (mvT hZ (hw _ (List.mem_of_getElem? (i := 26) rfl))) (mvT hZ (hw _ (List.mem_of_getElem? (i := 25) rfl))) (by decide) (backOf (W := 0) (rmAddN l Z a0 hw [] b44 ka u2 u3 (3 : Int32) (0 : Int32) [0, 0, 0] [0, 0, 0] [.null, .null, .null] [0, 0, 0] T45.heap n0 Zq45 Bq45 ge_b44 (by decide) (by decide) (by rw [e_ka]; exact own_nb _)) hZ (hw _ (List.mem_of_getElem? (i := 27) rfl)) (hw _ (List.mem_of_getElem? (i := 3) rfl)) (by decide) (by decide)) q52a q52c (g := (mkF m 106 #[iv u0, iv u1, iv u2, .val (.long u3), .second, iv u4, .val (.long u5), .second, iv (3 : Int32), iv ka, iv kb, .val .null, .val .null, rv b44, .unset, .unset, .unset, .unset] [(.long u3), .null, (.int u2), (.int ka), (.ref b44)])) rfl (by rw [hml]; rfl) (Steps.refl _) (argsL := [(.int ka), (.int u2), .null, (.long u3)]) (rest := []) (lenOf pd_1 rfl) rfl (by show 2 * 0 + _ ≤ _; exact Nat.le_of_eq rfl) (hb hby at_106) (fun _ _ => ⟨rfl, rfl, (by decide : 5 + 0 ≤ _), (by decide : 17 + 0 ≤ _)⟩)
        dsimp only [Pt.U, Pt.locs, Pt.cells, Pt.slots] at X52 l52 y52 z52 st52 hQ52
        subst y52 z52
        obtain ⟨rfl, Nq52, Zq52, Kx52, Bq52⟩ := hQ52
        have N52 : Fr n0 L52 := by rw [l52]; exact Fr.app N45 Nq52
        obtain ⟨wsq52, Kq52⟩ := Kx52
        have f53 := oe45.keep Kq52
        have B52 : own_N Z T52.heap n0 b44 (3 : Int32) (1 : Int32) [ka, 0, 0] [u2, 0, 0] [.null, .null, .null] [u3, 0, 0] := Bq52
        obtain ⟨cq54, kq54, q54a, q54b, q54c⟩ := isOf hZ rfl f53
        obtain ⟨_, _, ⟨T54, L54, k54, n54⟩, -, X54, ⟨Lc54, hQ54, l54, y54, z54⟩, st54⟩ := X52.virtualBack hx (y := (⟨"com/example/agouti/agouti/store/IndexBuilder$Notes", "add", "(BI[BJ)Z"⟩ : MethodName)) (z := (⟨"com/example/agouti/agouti/store/IndexBuilder$Notes", "add", "(BI[BJ)Z"⟩ : MethodName)) hown (mvT hZ (hw _ (List.mem_of_getElem? (i := 23) rfl))) (mvT hZ (hw _ (List.mem_of_getElem? (i := 24) rfl))) (notFace_of_selects (args := #[]) (mvT hZ (hw _ (List.mem_of_getElem? (i := 26) rfl)))) (mvT hZ (hw _ (List.mem_of_getElem? (i := 26) rfl))) (mvT hZ (hw _ (List.mem_of_getElem? (i := 25) rfl))) (by decide) (backOf (W := 0) (rmAddN l Z a0 hw [] b44 kb u4 u5 (3 : Int32) (1 : Int32) [ka, 0, 0] [u2, 0, 0] [.null, .null, .null] [u3, 0, 0] T52.heap n0 Zq52 B52 ge_b44 (by decide) (by decide) (by rw [e_kb]; exact own_nb _)) hZ (hw _ (List.mem_of_getElem? (i := 27) rfl)) (hw _ (List.mem_of_getElem? (i := 3) rfl)) (by decide) (by decide)) q54a q54c (g := (mkF m 153 #[iv u0, iv u1, iv u2, .val (.long u3), .second, iv u4, .val (.long u5), .second, iv (3 : Int32), iv ka, iv kb, .val .null, .val .null, rv b44, iv (0 : Int32), iv (1 : Int32), iv (1 : Int32), .unset] [(.long u5), .null, (.int u4), (.int kb), (.ref b44)])) rfl (by rw [hml]; rfl) (Steps.refl _) (argsL := [(.int kb), (.int u4), .null, (.long u5)]) (rest := []) (lenOf pd_1 rfl) rfl (by show 2 * 0 + _ ≤ _; exact Nat.le_of_eq rfl) (hb hby at_153) (fun _ _ => ⟨rfl, rfl, (by decide : 5 + 0 ≤ _), (by decide : 17 + 0 ≤ _)⟩)
        dsimp only [Pt.U, Pt.locs, Pt.cells, Pt.slots] at X54 l54 y54 z54 st54 hQ54
        subst y54 z54
        obtain ⟨rfl, Nq54, Zq54, Kx54, Bq54⟩ := hQ54
        have N54 : Fr n0 L54 := by rw [l54]; exact Fr.app N52 Nq54
        obtain ⟨wsq54, Kq54⟩ := Kx54
        have f55 := f53.keep Kq54
        have B54 : own_N Z T54.heap n0 b44 (3 : Int32) (2 : Int32) [ka, kb, 0] [u2, u4, 0] [.null, .null, .null] [u3, u5, 0] := Bq54
        obtain ⟨cq56, kq56, q56a, q56b, q56c⟩ := isOf hZ rfl f55
        obtain ⟨_, _, ⟨T56, L56, k56, n56⟩, -, X56, ⟨Lc56, hQ56, l56, y56, z56⟩, st56⟩ := X54.virtualBack hx (y := (⟨"com/example/agouti/agouti/store/IndexBuilder$Notes", "count", "()I"⟩ : MethodName)) (z := (⟨"com/example/agouti/agouti/store/IndexBuilder$Notes", "count", "()I"⟩ : MethodName)) hown (mvT hZ (hw _ (List.mem_of_getElem? (i := 30) rfl))) (mvT hZ (hw _ (List.mem_of_getElem? (i := 31) rfl))) (notFace_of_selects (args := #[]) (mvT hZ (hw _ (List.mem_of_getElem? (i := 33) rfl)))) (mvT hZ (hw _ (List.mem_of_getElem? (i := 33) rfl))) (mvT hZ (hw _ (List.mem_of_getElem? (i := 32) rfl))) (by decide) (backOf (W := 0) (rmCount l Z a0 hw [] b44 (3 : Int32) (2 : Int32) [ka, kb, 0] [u2, u4, 0] [.null, .null, .null] [u3, u5, 0] T54.heap n0 Zq54 B54) hZ (hw _ (List.mem_of_getElem? (i := 34) rfl)) (hw _ (List.mem_of_getElem? (i := 3) rfl)) (by decide) (by decide)) q56a q56c (g := (mkF m 196 #[iv u0, iv u1, iv u2, .val (.long u3), .second, iv u4, .val (.long u5), .second, iv (3 : Int32), iv ka, iv kb, .val .null, .val .null, rv b44, iv (0 : Int32), iv (1 : Int32), iv (2 : Int32), iv (0 : Int32)] [(.ref b44)])) rfl (by rw [hml]; rfl) (Steps.refl _) (argsL := []) (rest := []) (lenOf pd_2 rfl) rfl (by show 2 * 0 + _ ≤ _; exact Nat.le_of_eq rfl) (hb hby at_196) (fun _ _ => ⟨rfl, rfl, (by decide : 5 + 0 ≤ _), (by decide : 17 + 0 ≤ _)⟩)
        dsimp only [Pt.U, Pt.locs, Pt.cells, Pt.slots] at X56 l56 y56 z56 st56 hQ56
        subst y56 z56
        obtain ⟨rfl, Nq56, eq56⟩ := hQ56
        have N56 : Fr n0 L56 := by rw [l56]; exact Fr.app N54 Nq56
        obtain ⟨cq57, kq57, q57a, q57b, q57c⟩ := isOf hZ eq56 f55
        obtain ⟨_, _, ⟨T57, L57, k57, n57⟩, -, X57, ⟨Lc57, hQ57, l57, y57, z57⟩, st57⟩ := X56.virtualBack hx (y := (⟨"com/example/agouti/agouti/store/IndexBuilder$Notes", "kind", "(I)B"⟩ : MethodName)) (z := (⟨"com/example/agouti/agouti/store/IndexBuilder$Notes", "kind", "(I)B"⟩ : MethodName)) hown (mvT hZ (hw _ (List.mem_of_getElem? (i := 35) rfl))) (mvT hZ (hw _ (List.mem_of_getElem? (i := 36) rfl))) (notFace_of_selects (args := #[]) (mvT hZ (hw _ (List.mem_of_getElem? (i := 38) rfl)))) (mvT hZ (hw _ (List.mem_of_getElem? (i := 38) rfl))) (mvT hZ (hw _ (List.mem_of_getElem? (i := 37) rfl))) (by decide) (backOf (W := 0) (rmKind l Z a0 hw [] b44 (0 : Int32) (3 : Int32) (2 : Int32) [ka, kb, 0] [u2, u4, 0] [.null, .null, .null] [u3, u5, 0] ka T54.heap n0 Zq54 B54 (by decide) (by decide) rfl (by rw [e_ka]; exact own_nb _)) hZ (hw _ (List.mem_of_getElem? (i := 39) rfl)) (hw _ (List.mem_of_getElem? (i := 3) rfl)) (by decide) (by decide)) q57a q57c (g := (mkF m 219 #[iv u0, iv u1, iv u2, .val (.long u3), .second, iv u4, .val (.long u5), .second, iv (3 : Int32), iv ka, iv kb, .val .null, .val .null, rv b44, iv (0 : Int32), iv (1 : Int32), iv (2 : Int32), iv (0 : Int32)] [(.int (0 : Int32)), (.ref b44)])) rfl (by rw [hml]; rfl) (Steps.refl _) (argsL := [(.int (0 : Int32))]) (rest := []) (lenOf pd_3 rfl) rfl (by show 2 * 0 + _ ≤ _; exact Nat.le_of_eq rfl) (hb hby at_219) (fun _ _ => ⟨rfl, eq56, (by decide : 5 + 0 ≤ _), (by decide : 17 + 0 ≤ _)⟩)
        dsimp only [Pt.U, Pt.locs, Pt.cells, Pt.slots] at X57 l57 y57 z57 st57 hQ57
        subst y57 z57
        obtain ⟨rfl, Nq57, eq57⟩ := hQ57
        have N57 : Fr n0 L57 := by rw [l57]; exact Fr.app N56 Nq57
        obtain ⟨cq58, kq58, q58a, q58b, q58c⟩ := isOf hZ eq57 f55
        obtain ⟨_, _, ⟨T58, L58, k58, n58⟩, -, X58, ⟨Lc58, hQ58, l58, y58, z58⟩, st58⟩ := X57.virtualBack hx (y := (⟨"com/example/agouti/agouti/store/IndexBuilder$Notes", "node", "(I)I"⟩ : MethodName)) (z := (⟨"com/example/agouti/agouti/store/IndexBuilder$Notes", "node", "(I)I"⟩ : MethodName)) hown (mvT hZ (hw _ (List.mem_of_getElem? (i := 40) rfl))) (mvT hZ (hw _ (List.mem_of_getElem? (i := 41) rfl))) (notFace_of_selects (args := #[]) (mvT hZ (hw _ (List.mem_of_getElem? (i := 43) rfl)))) (mvT hZ (hw _ (List.mem_of_getElem? (i := 43) rfl))) (mvT hZ (hw _ (List.mem_of_getElem? (i := 42) rfl))) (by decide) (backOf (W := 0) (rmNode l Z a0 hw [] b44 (0 : Int32) (3 : Int32) (2 : Int32) [ka, kb, 0] [u2, u4, 0] [.null, .null, .null] [u3, u5, 0] u2 T54.heap n0 Zq54 B54 (by decide) (by decide) rfl) hZ (hw _ (List.mem_of_getElem? (i := 44) rfl)) (hw _ (List.mem_of_getElem? (i := 3) rfl)) (by decide) (by decide)) q58a q58c (g := (mkF m 230 #[iv u0, iv u1, iv u2, .val (.long u3), .second, iv u4, .val (.long u5), .second, iv (3 : Int32), iv ka, iv kb, .val .null, .val .null, rv b44, iv (0 : Int32), iv (1 : Int32), iv (2 : Int32), iv (0 : Int32)] [(.int (0 : Int32)), (.ref b44)])) rfl (by rw [hml]; rfl) (Steps.refl _) (argsL := [(.int (0 : Int32))]) (rest := []) (lenOf pd_4 rfl) rfl (by show 2 * 0 + _ ≤ _; exact Nat.le_of_eq rfl) (hb hby at_230) (fun _ _ => ⟨rfl, eq57, (by decide : 5 + 0 ≤ _), (by decide : 17 + 0 ≤ _)⟩)
        dsimp only [Pt.U, Pt.locs, Pt.cells, Pt.slots] at X58 l58 y58 z58 st58 hQ58
        subst y58 z58
        obtain ⟨rfl, Nq58, eq58⟩ := hQ58
        have N58 : Fr n0 L58 := by rw [l58]; exact Fr.app N57 Nq58
        obtain ⟨cq59, kq59, q59a, q59b, q59c⟩ := isOf hZ eq58 f55
        obtain ⟨_, _, ⟨T59, L59, k59, n59⟩, -, X59, ⟨Lc59, hQ59, l59, y59, z59⟩, st59⟩ := X58.virtualBack hx (y := (⟨"com/example/agouti/agouti/store/IndexBuilder$Notes", "value", "(I)[B"⟩ : MethodName)) (z := (⟨"com/example/agouti/agouti/store/IndexBuilder$Notes", "value", "(I)[B"⟩ : MethodName)) hown (mvT hZ (hw _ (List.mem_of_getElem? (i := 45) rfl))) (mvT hZ (hw _ (List.mem_of_getElem? (i := 46) rfl))) (notFace_of_selects (args := #[]) (mvT hZ (hw _ (List.mem_of_getElem? (i := 48) rfl)))) (mvT hZ (hw _ (List.mem_of_getElem? (i := 48) rfl))) (mvT hZ (hw _ (List.mem_of_getElem? (i := 47) rfl))) (by decide) (backOf (W := 0) (rmVal0 l Z a0 hw [] b44 (0 : Int32) (3 : Int32) (2 : Int32) [ka, kb, 0] [u2, u4, 0] [.null, .null, .null] [u3, u5, 0] T54.heap n0 Zq54 B54 (by decide) (by decide) rfl) hZ (hw _ (List.mem_of_getElem? (i := 49) rfl)) (hw _ (List.mem_of_getElem? (i := 3) rfl)) (by decide) (by decide)) q59a q59c (g := (mkF m 240 #[iv u0, iv u1, iv u2, .val (.long u3), .second, iv u4, .val (.long u5), .second, iv (3 : Int32), iv ka, iv kb, .val .null, .val .null, rv b44, iv (0 : Int32), iv (1 : Int32), iv (2 : Int32), iv (0 : Int32)] [(.int (0 : Int32)), (.ref b44)])) rfl (by rw [hml]; rfl) (Steps.refl _) (argsL := [(.int (0 : Int32))]) (rest := []) (lenOf pd_5 rfl) rfl (by show 2 * 0 + _ ≤ _; exact Nat.le_of_eq rfl) (hb hby at_240) (fun _ _ => ⟨rfl, eq58, (by decide : 5 + 0 ≤ _), (by decide : 17 + 0 ≤ _)⟩)
        dsimp only [Pt.U, Pt.locs, Pt.cells, Pt.slots] at X59 l59 y59 z59 st59 hQ59
        subst y59 z59
        obtain ⟨rfl, Nq59, eq59⟩ := hQ59
        have N59 : Fr n0 L59 := by rw [l59]; exact Fr.app N58 Nq59
        obtain ⟨cq60, kq60, q60a, q60b, q60c⟩ := isOf hZ eq59 f55
        obtain ⟨_, _, ⟨T60, L60, k60, n60⟩, -, X60, ⟨Lc60, hQ60, l60, y60, z60⟩, st60⟩ := X59.virtualBack hx (y := (⟨"com/example/agouti/agouti/store/IndexBuilder$Notes", "hash", "(I)J"⟩ : MethodName)) (z := (⟨"com/example/agouti/agouti/store/IndexBuilder$Notes", "hash", "(I)J"⟩ : MethodName)) hown (mvT hZ (hw _ (List.mem_of_getElem? (i := 50) rfl))) (mvT hZ (hw _ (List.mem_of_getElem? (i := 51) rfl))) (notFace_of_selects (args := #[]) (mvT hZ (hw _ (List.mem_of_getElem? (i := 53) rfl)))) (mvT hZ (hw _ (List.mem_of_getElem? (i := 53) rfl))) (mvT hZ (hw _ (List.mem_of_getElem? (i := 52) rfl))) (by decide) (backOf (W := 0) (rmHash l Z a0 hw [] b44 (0 : Int32) (3 : Int32) (2 : Int32) [ka, kb, 0] [u2, u4, 0] [.null, .null, .null] [u3, u5, 0] u3 T54.heap n0 Zq54 B54 (by decide) (by decide) rfl) hZ (hw _ (List.mem_of_getElem? (i := 54) rfl)) (hw _ (List.mem_of_getElem? (i := 3) rfl)) (by decide) (by decide)) q60a q60c (g := (mkF m 251 #[iv u0, iv u1, iv u2, .val (.long u3), .second, iv u4, .val (.long u5), .second, iv (3 : Int32), iv ka, iv kb, .val .null, .val .null, rv b44, iv (0 : Int32), iv (1 : Int32), iv (2 : Int32), iv (0 : Int32)] [(.int (0 : Int32)), (.ref b44)])) rfl (by rw [hml]; rfl) (Steps.refl _) (argsL := [(.int (0 : Int32))]) (rest := []) (lenOf pd_6 rfl) rfl (by show 2 * 0 + _ ≤ _; exact Nat.le_of_eq rfl) (hb hby at_251) (fun _ _ => ⟨rfl, eq59, (by decide : 5 + 0 ≤ _), (by decide : 17 + 0 ≤ _)⟩)
        dsimp only [Pt.U, Pt.locs, Pt.cells, Pt.slots] at X60 l60 y60 z60 st60 hQ60
        subst y60 z60
        obtain ⟨rfl, Nq60, eq60⟩ := hQ60
        have N60 : Fr n0 L60 := by rw [l60]; exact Fr.app N59 Nq60
        obtain ⟨cq61, kq61, q61a, q61b, q61c⟩ := isOf hZ eq60 f55
        obtain ⟨_, _, ⟨T61, L61, k61, n61⟩, -, X61, ⟨Lc61, hQ61, l61, y61, z61⟩, st61⟩ := X60.virtualBack hx (y := (⟨"com/example/agouti/agouti/store/IndexBuilder$Notes", "kind", "(I)B"⟩ : MethodName)) (z := (⟨"com/example/agouti/agouti/store/IndexBuilder$Notes", "kind", "(I)B"⟩ : MethodName)) hown (mvT hZ (hw _ (List.mem_of_getElem? (i := 35) rfl))) (mvT hZ (hw _ (List.mem_of_getElem? (i := 36) rfl))) (notFace_of_selects (args := #[]) (mvT hZ (hw _ (List.mem_of_getElem? (i := 38) rfl)))) (mvT hZ (hw _ (List.mem_of_getElem? (i := 38) rfl))) (mvT hZ (hw _ (List.mem_of_getElem? (i := 37) rfl))) (by decide) (backOf (W := 0) (rmKind l Z a0 hw [] b44 (1 : Int32) (3 : Int32) (2 : Int32) [ka, kb, 0] [u2, u4, 0] [.null, .null, .null] [u3, u5, 0] kb T54.heap n0 Zq54 B54 (by decide) (by decide) rfl (by rw [e_kb]; exact own_nb _)) hZ (hw _ (List.mem_of_getElem? (i := 39) rfl)) (hw _ (List.mem_of_getElem? (i := 3) rfl)) (by decide) (by decide)) q61a q61c (g := (mkF m 280 #[iv u0, iv u1, iv u2, .val (.long u3), .second, iv u4, .val (.long u5), .second, iv (3 : Int32), iv ka, iv kb, .val .null, .val .null, rv b44, iv (0 : Int32), iv (1 : Int32), iv (2 : Int32), iv (0 : Int32)] [(.int (1 : Int32)), (.ref b44)])) rfl (by rw [hml]; rfl) (Steps.refl _) (argsL := [(.int (1 : Int32))]) (rest := []) (lenOf pd_3 rfl) rfl (by show 2 * 0 + _ ≤ _; exact Nat.le_of_eq rfl) (hb hby at_280) (fun _ _ => ⟨rfl, eq60, (by decide : 5 + 0 ≤ _), (by decide : 17 + 0 ≤ _)⟩)
        dsimp only [Pt.U, Pt.locs, Pt.cells, Pt.slots] at X61 l61 y61 z61 st61 hQ61
        subst y61 z61
        obtain ⟨rfl, Nq61, eq61⟩ := hQ61
        have N61 : Fr n0 L61 := by rw [l61]; exact Fr.app N60 Nq61
        obtain ⟨cq62, kq62, q62a, q62b, q62c⟩ := isOf hZ eq61 f55
        obtain ⟨_, _, ⟨T62, L62, k62, n62⟩, -, X62, ⟨Lc62, hQ62, l62, y62, z62⟩, st62⟩ := X61.virtualBack hx (y := (⟨"com/example/agouti/agouti/store/IndexBuilder$Notes", "node", "(I)I"⟩ : MethodName)) (z := (⟨"com/example/agouti/agouti/store/IndexBuilder$Notes", "node", "(I)I"⟩ : MethodName)) hown (mvT hZ (hw _ (List.mem_of_getElem? (i := 40) rfl))) (mvT hZ (hw _ (List.mem_of_getElem? (i := 41) rfl))) (notFace_of_selects (args := #[]) (mvT hZ (hw _ (List.mem_of_getElem? (i := 43) rfl)))) (mvT hZ (hw _ (List.mem_of_getElem? (i := 43) rfl))) (mvT hZ (hw _ (List.mem_of_getElem? (i := 42) rfl))) (by decide) (backOf (W := 0) (rmNode l Z a0 hw [] b44 (1 : Int32) (3 : Int32) (2 : Int32) [ka, kb, 0] [u2, u4, 0] [.null, .null, .null] [u3, u5, 0] u4 T54.heap n0 Zq54 B54 (by decide) (by decide) rfl) hZ (hw _ (List.mem_of_getElem? (i := 44) rfl)) (hw _ (List.mem_of_getElem? (i := 3) rfl)) (by decide) (by decide)) q62a q62c (g := (mkF m 291 #[iv u0, iv u1, iv u2, .val (.long u3), .second, iv u4, .val (.long u5), .second, iv (3 : Int32), iv ka, iv kb, .val .null, .val .null, rv b44, iv (0 : Int32), iv (1 : Int32), iv (2 : Int32), iv (0 : Int32)] [(.int (1 : Int32)), (.ref b44)])) rfl (by rw [hml]; rfl) (Steps.refl _) (argsL := [(.int (1 : Int32))]) (rest := []) (lenOf pd_4 rfl) rfl (by show 2 * 0 + _ ≤ _; exact Nat.le_of_eq rfl) (hb hby at_291) (fun _ _ => ⟨rfl, eq61, (by decide : 5 + 0 ≤ _), (by decide : 17 + 0 ≤ _)⟩)
        dsimp only [Pt.U, Pt.locs, Pt.cells, Pt.slots] at X62 l62 y62 z62 st62 hQ62
        subst y62 z62
        obtain ⟨rfl, Nq62, eq62⟩ := hQ62
        have N62 : Fr n0 L62 := by rw [l62]; exact Fr.app N61 Nq62
        obtain ⟨cq63, kq63, q63a, q63b, q63c⟩ := isOf hZ eq62 f55
        obtain ⟨_, _, ⟨T63, L63, k63, n63⟩, -, X63, ⟨Lc63, hQ63, l63, y63, z63⟩, st63⟩ := X62.virtualBack hx (y := (⟨"com/example/agouti/agouti/store/IndexBuilder$Notes", "value", "(I)[B"⟩ : MethodName)) (z := (⟨"com/example/agouti/agouti/store/IndexBuilder$Notes", "value", "(I)[B"⟩ : MethodName)) hown (mvT hZ (hw _ (List.mem_of_getElem? (i := 45) rfl))) (mvT hZ (hw _ (List.mem_of_getElem? (i := 46) rfl))) (notFace_of_selects (args := #[]) (mvT hZ (hw _ (List.mem_of_getElem? (i := 48) rfl)))) (mvT hZ (hw _ (List.mem_of_getElem? (i := 48) rfl))) (mvT hZ (hw _ (List.mem_of_getElem? (i := 47) rfl))) (by decide) (backOf (W := 0) (rmVal0 l Z a0 hw [] b44 (1 : Int32) (3 : Int32) (2 : Int32) [ka, kb, 0] [u2, u4, 0] [.null, .null, .null] [u3, u5, 0] T54.heap n0 Zq54 B54 (by decide) (by decide) rfl) hZ (hw _ (List.mem_of_getElem? (i := 49) rfl)) (hw _ (List.mem_of_getElem? (i := 3) rfl)) (by decide) (by decide)) q63a q63c (g := (mkF m 302 #[iv u0, iv u1, iv u2, .val (.long u3), .second, iv u4, .val (.long u5), .second, iv (3 : Int32), iv ka, iv kb, .val .null, .val .null, rv b44, iv (0 : Int32), iv (1 : Int32), iv (2 : Int32), iv (0 : Int32)] [(.int (1 : Int32)), (.ref b44)])) rfl (by rw [hml]; rfl) (Steps.refl _) (argsL := [(.int (1 : Int32))]) (rest := []) (lenOf pd_5 rfl) rfl (by show 2 * 0 + _ ≤ _; exact Nat.le_of_eq rfl) (hb hby at_302) (fun _ _ => ⟨rfl, eq62, (by decide : 5 + 0 ≤ _), (by decide : 17 + 0 ≤ _)⟩)
        dsimp only [Pt.U, Pt.locs, Pt.cells, Pt.slots] at X63 l63 y63 z63 st63 hQ63
        subst y63 z63
        obtain ⟨rfl, Nq63, eq63⟩ := hQ63
        have N63 : Fr n0 L63 := by rw [l63]; exact Fr.app N62 Nq63
        obtain ⟨cq64, kq64, q64a, q64b, q64c⟩ := isOf hZ eq63 f55
        obtain ⟨_, _, ⟨T64, L64, k64, n64⟩, -, X64, ⟨Lc64, hQ64, l64, y64, z64⟩, st64⟩ := X63.virtualBack hx (y := (⟨"com/example/agouti/agouti/store/IndexBuilder$Notes", "hash", "(I)J"⟩ : MethodName)) (z := (⟨"com/example/agouti/agouti/store/IndexBuilder$Notes", "hash", "(I)J"⟩ : MethodName)) hown (mvT hZ (hw _ (List.mem_of_getElem? (i := 50) rfl))) (mvT hZ (hw _ (List.mem_of_getElem? (i := 51) rfl))) (notFace_of_selects (args := #[]) (mvT hZ (hw _ (List.mem_of_getElem? (i := 53) rfl)))) (mvT hZ (hw _ (List.mem_of_getElem? (i := 53) rfl))) (mvT hZ (hw _ (List.mem_of_getElem? (i := 52) rfl))) (by decide) (backOf (W := 0) (rmHash l Z a0 hw [] b44 (1 : Int32) (3 : Int32) (2 : Int32) [ka, kb, 0] [u2, u4, 0] [.null, .null, .null] [u3, u5, 0] u5 T54.heap n0 Zq54 B54 (by decide) (by decide) rfl) hZ (hw _ (List.mem_of_getElem? (i := 54) rfl)) (hw _ (List.mem_of_getElem? (i := 3) rfl)) (by decide) (by decide)) q64a q64c (g := (mkF m 313 #[iv u0, iv u1, iv u2, .val (.long u3), .second, iv u4, .val (.long u5), .second, iv (3 : Int32), iv ka, iv kb, .val .null, .val .null, rv b44, iv (0 : Int32), iv (1 : Int32), iv (2 : Int32), iv (0 : Int32)] [(.int (1 : Int32)), (.ref b44)])) rfl (by rw [hml]; rfl) (Steps.refl _) (argsL := [(.int (1 : Int32))]) (rest := []) (lenOf pd_6 rfl) rfl (by show 2 * 0 + _ ≤ _; exact Nat.le_of_eq rfl) (hb hby at_313) (fun _ _ => ⟨rfl, eq63, (by decide : 5 + 0 ≤ _), (by decide : 17 + 0 ≤ _)⟩)
        dsimp only [Pt.U, Pt.locs, Pt.cells, Pt.slots] at X64 l64 y64 z64 st64 hQ64
        subst y64 z64
        obtain ⟨rfl, Nq64, eq64⟩ := hQ64
        have N64 : Fr n0 L64 := by rw [l64]; exact Fr.app N63 Nq64
        obtain ⟨fs, hr, hrun, hended, hW, hsame⟩ := X64.leave (v := some (.int (1 : Int32))) (fun h => by rw [Bd.returns] at h; cases h)
        refine ⟨_, _, S7 _ ?_, hrun, hended, _, _, rfl, ?_, ⟨_, rfl⟩, hW, hsame.mono (by decide) (by decide)⟩
        · skip
          show Steps p.tables e below (s₁.setTop (mkF m 87 #[iv u0, iv u1, iv u2, .val (.long u3), .second, iv u4, .val (.long u5), .second, iv (3 : Int32), iv ka, iv kb, .val .null, .val .null, .unset, .unset, .unset, .unset, .unset] [])) _
          refine st44 _ ?_
          show Steps p.tables e below (T44.setTop (mkF m 90 #[iv u0, iv u1, iv u2, .val (.long u3), .second, iv u4, .val (.long u5), .second, iv (3 : Int32), iv ka, iv kb, .val .null, .val .null, .unset, .unset, .unset, .unset, .unset] [(.ref b44)])) _
          refine XS.dup X44.here hx rfl (hb hby at_90) rfl rfl ?_
          show Steps p.tables e below (T44.setTop (mkF m 91 #[iv u0, iv u1, iv u2, .val (.long u3), .second, iv u4, .val (.long u5), .second, iv (3 : Int32), iv ka, iv kb, .val .null, .val .null, .unset, .unset, .unset, .unset, .unset] [(.ref b44), (.ref b44)])) _
          refine XS.iload X44.here hx rfl (hb hby at_91) rfl ?_
          show Steps p.tables e below (T44.setTop (mkF m 93 #[iv u0, iv u1, iv u2, .val (.long u3), .second, iv u4, .val (.long u5), .second, iv (3 : Int32), iv ka, iv kb, .val .null, .val .null, .unset, .unset, .unset, .unset, .unset] [(.int (3 : Int32)), (.ref b44), (.ref b44)])) _
          refine st45.trans ?_
          show Steps p.tables e below (T45.setTop (mkF m 96 #[iv u0, iv u1, iv u2, .val (.long u3), .second, iv u4, .val (.long u5), .second, iv (3 : Int32), iv ka, iv kb, .val .null, .val .null, .unset, .unset, .unset, .unset, .unset] [(.ref b44)])) _
          refine XS.astore X45.here hx rfl (hb hby at_96) rfl rfl (l' := #[iv u0, iv u1, iv u2, .val (.long u3), .second, iv u4, .val (.long u5), .second, iv (3 : Int32), iv ka, iv kb, .val .null, .val .null, rv b44, .unset, .unset, .unset, .unset]) rfl ?_
          show Steps p.tables e below (T45.setTop (mkF m 98 #[iv u0, iv u1, iv u2, .val (.long u3), .second, iv u4, .val (.long u5), .second, iv (3 : Int32), iv ka, iv kb, .val .null, .val .null, rv b44, .unset, .unset, .unset, .unset] [])) _
          refine XS.aload X45.here hx rfl (hb hby at_98) rfl rfl ?_
          show Steps p.tables e below (T45.setTop (mkF m 100 #[iv u0, iv u1, iv u2, .val (.long u3), .second, iv u4, .val (.long u5), .second, iv (3 : Int32), iv ka, iv kb, .val .null, .val .null, rv b44, .unset, .unset, .unset, .unset] [(.ref b44)])) _
          refine XS.iload X45.here hx rfl (hb hby at_100) rfl ?_
          show Steps p.tables e below (T45.setTop (mkF m 102 #[iv u0, iv u1, iv u2, .val (.long u3), .second, iv u4, .val (.long u5), .second, iv (3 : Int32), iv ka, iv kb, .val .null, .val .null, rv b44, .unset, .unset, .unset, .unset] [(.int ka), (.ref b44)])) _
          refine XS.iloadN X45.here hx rfl (hb hby at_102) rfl ?_
          show Steps p.tables e below (T45.setTop (mkF m 103 #[iv u0, iv u1, iv u2, .val (.long u3), .second, iv u4, .val (.long u5), .second, iv (3 : Int32), iv ka, iv kb, .val .null, .val .null, rv b44, .unset, .unset, .unset, .unset] [(.int u2), (.int ka), (.ref b44)])) _
          refine XS.aload X45.here hx rfl (hb hby at_103) rfl rfl ?_
          show Steps p.tables e below (T45.setTop (mkF m 105 #[iv u0, iv u1, iv u2, .val (.long u3), .second, iv u4, .val (.long u5), .second, iv (3 : Int32), iv ka, iv kb, .val .null, .val .null, rv b44, .unset, .unset, .unset, .unset] [.null, (.int u2), (.int ka), (.ref b44)])) _
          refine XS.lloadN X45.here hx rfl (hb hby at_105) rfl ?_
          show Steps p.tables e below (T45.setTop (mkF m 106 #[iv u0, iv u1, iv u2, .val (.long u3), .second, iv u4, .val (.long u5), .second, iv (3 : Int32), iv ka, iv kb, .val .null, .val .null, rv b44, .unset, .unset, .unset, .unset] [(.long u3), .null, (.int u2), (.int ka), (.ref b44)])) _
          refine st52.trans ?_
          show Steps p.tables e below (T52.setTop (mkF m 109 #[iv u0, iv u1, iv u2, .val (.long u3), .second, iv u4, .val (.long u5), .second, iv (3 : Int32), iv ka, iv kb, .val .null, .val .null, rv b44, .unset, .unset, .unset, .unset] [(.int (0 : Int32))])) _
          refine XS.istore X52.here hx rfl (hb hby at_109) rfl (l' := #[iv u0, iv u1, iv u2, .val (.long u3), .second, iv u4, .val (.long u5), .second, iv (3 : Int32), iv ka, iv kb, .val .null, .val .null, rv b44, iv (0 : Int32), .unset, .unset, .unset]) rfl ?_
          show Steps p.tables e below (T52.setTop (mkF m 111 #[iv u0, iv u1, iv u2, .val (.long u3), .second, iv u4, .val (.long u5), .second, iv (3 : Int32), iv ka, iv kb, .val .null, .val .null, rv b44, iv (0 : Int32), .unset, .unset, .unset] [])) _
          refine XS.iload X52.here hx rfl (hb hby at_111) rfl ?_
          show Steps p.tables e below (T52.setTop (mkF m 113 #[iv u0, iv u1, iv u2, .val (.long u3), .second, iv u4, .val (.long u5), .second, iv (3 : Int32), iv ka, iv kb, .val .null, .val .null, rv b44, iv (0 : Int32), .unset, .unset, .unset] [(.int (0 : Int32))])) _
          refine XS.iload X52.here hx rfl (hb hby at_113) rfl ?_
          show Steps p.tables e below (T52.setTop (mkF m 115 #[iv u0, iv u1, iv u2, .val (.long u3), .second, iv u4, .val (.long u5), .second, iv (3 : Int32), iv ka, iv kb, .val .null, .val .null, rv b44, iv (0 : Int32), .unset, .unset, .unset] [(.int (3 : Int32)), (.int (0 : Int32))])) _
          refine XS.iconst X52.here hx rfl (hb hby at_115) ?_
          show Steps p.tables e below (T52.setTop (mkF m 116 #[iv u0, iv u1, iv u2, .val (.long u3), .second, iv u4, .val (.long u5), .second, iv (3 : Int32), iv ka, iv kb, .val .null, .val .null, rv b44, iv (0 : Int32), .unset, .unset, .unset] [(.int (1 : Int32)), (.int (3 : Int32)), (.int (0 : Int32))])) _
          refine XS.icmpYes X52.here hx rfl (pc0 := 116) (pc' := 123) rfl (hb hby at_116) rfl (feq (by decide : ¬ ((3 : Int32) = (1 : Int32)))).2 (by decide) (by decide) ?_
          show Steps p.tables e below (T52.setTop (mkF m 123 #[iv u0, iv u1, iv u2, .val (.long u3), .second, iv u4, .val (.long u5), .second, iv (3 : Int32), iv ka, iv kb, .val .null, .val .null, rv b44, iv (0 : Int32), .unset, .unset, .unset] [(.int (0 : Int32))])) _
          refine XS.iconst X52.here hx rfl (hb hby at_123) ?_
          show Steps p.tables e below (T52.setTop (mkF m 124 #[iv u0, iv u1, iv u2, .val (.long u3), .second, iv u4, .val (.long u5), .second, iv (3 : Int32), iv ka, iv kb, .val .null, .val .null, rv b44, iv (0 : Int32), .unset, .unset, .unset] [(.int (0 : Int32)), (.int (0 : Int32))])) _
          refine XS.icmpNo X52.here hx rfl (hb hby at_124) rfl (teq (by decide : (0 : Int32) = (0 : Int32))).2 ?_
          show Steps p.tables e below (T52.setTop (mkF m 127 #[iv u0, iv u1, iv u2, .val (.long u3), .second, iv u4, .val (.long u5), .second, iv (3 : Int32), iv ka, iv kb, .val .null, .val .null, rv b44, iv (0 : Int32), .unset, .unset, .unset] [])) _
          refine XS.iconst X52.here hx rfl (hb hby at_127) ?_
          show Steps p.tables e below (T52.setTop (mkF m 128 #[iv u0, iv u1, iv u2, .val (.long u3), .second, iv u4, .val (.long u5), .second, iv (3 : Int32), iv ka, iv kb, .val .null, .val .null, rv b44, iv (0 : Int32), .unset, .unset, .unset] [(.int (1 : Int32))])) _
          refine XS.goto X52.here hx rfl (pc0 := 128) (pc' := 132) rfl (hb hby at_128) (by decide) (by decide) ?_
          show Steps p.tables e below (T52.setTop (mkF m 132 #[iv u0, iv u1, iv u2, .val (.long u3), .second, iv u4, .val (.long u5), .second, iv (3 : Int32), iv ka, iv kb, .val .null, .val .null, rv b44, iv (0 : Int32), .unset, .unset, .unset] [(.int (1 : Int32))])) _
          refine XS.istore X52.here hx rfl (hb hby at_132) rfl (l' := #[iv u0, iv u1, iv u2, .val (.long u3), .second, iv u4, .val (.long u5), .second, iv (3 : Int32), iv ka, iv kb, .val .null, .val .null, rv b44, iv (0 : Int32), iv (1 : Int32), .unset, .unset]) rfl ?_
          show Steps p.tables e below (T52.setTop (mkF m 134 #[iv u0, iv u1, iv u2, .val (.long u3), .second, iv u4, .val (.long u5), .second, iv (3 : Int32), iv ka, iv kb, .val .null, .val .null, rv b44, iv (0 : Int32), iv (1 : Int32), .unset, .unset] [])) _
          refine XS.iconst X52.here hx rfl (hb hby at_134) ?_
          show Steps p.tables e below (T52.setTop (mkF m 135 #[iv u0, iv u1, iv u2, .val (.long u3), .second, iv u4, .val (.long u5), .second, iv (3 : Int32), iv ka, iv kb, .val .null, .val .null, rv b44, iv (0 : Int32), iv (1 : Int32), .unset, .unset] [(.int (1 : Int32))])) _
          refine XS.istore X52.here hx rfl (hb hby at_135) rfl (l' := #[iv u0, iv u1, iv u2, .val (.long u3), .second, iv u4, .val (.long u5), .second, iv (3 : Int32), iv ka, iv kb, .val .null, .val .null, rv b44, iv (0 : Int32), iv (1 : Int32), iv (1 : Int32), .unset]) rfl ?_
          show Steps p.tables e below (T52.setTop (mkF m 137 #[iv u0, iv u1, iv u2, .val (.long u3), .second, iv u4, .val (.long u5), .second, iv (3 : Int32), iv ka, iv kb, .val .null, .val .null, rv b44, iv (0 : Int32), iv (1 : Int32), iv (1 : Int32), .unset] [])) _
          refine XS.iload X52.here hx rfl (hb hby at_137) rfl ?_
          show Steps p.tables e below (T52.setTop (mkF m 139 #[iv u0, iv u1, iv u2, .val (.long u3), .second, iv u4, .val (.long u5), .second, iv (3 : Int32), iv ka, iv kb, .val .null, .val .null, rv b44, iv (0 : Int32), iv (1 : Int32), iv (1 : Int32), .unset] [(.int (3 : Int32))])) _
          refine XS.iconst X52.here hx rfl (hb hby at_139) ?_
          show Steps p.tables e below (T52.setTop (mkF m 140 #[iv u0, iv u1, iv u2, .val (.long u3), .second, iv u4, .val (.long u5), .second, iv (3 : Int32), iv ka, iv kb, .val .null, .val .null, rv b44, iv (0 : Int32), iv (1 : Int32), iv (1 : Int32), .unset] [(.int (2 : Int32)), (.int (3 : Int32))])) _
          refine XS.icmpNo X52.here hx rfl (hb hby at_140) rfl (flt (by decide : ¬ ((3 : Int32) < (2 : Int32)))).1 ?_
          show Steps p.tables e below (T52.setTop (mkF m 143 #[iv u0, iv u1, iv u2, .val (.long u3), .second, iv u4, .val (.long u5), .second, iv (3 : Int32), iv ka, iv kb, .val .null, .val .null, rv b44, iv (0 : Int32), iv (1 : Int32), iv (1 : Int32), .unset] [])) _
          refine XS.aload X52.here hx rfl (hb hby at_143) rfl rfl ?_
          show Steps p.tables e below (T52.setTop (mkF m 145 #[iv u0, iv u1, iv u2, .val (.long u3), .second, iv u4, .val (.long u5), .second, iv (3 : Int32), iv ka, iv kb, .val .null, .val .null, rv b44, iv (0 : Int32), iv (1 : Int32), iv (1 : Int32), .unset] [(.ref b44)])) _
          refine XS.iload X52.here hx rfl (hb hby at_145) rfl ?_
          show Steps p.tables e below (T52.setTop (mkF m 147 #[iv u0, iv u1, iv u2, .val (.long u3), .second, iv u4, .val (.long u5), .second, iv (3 : Int32), iv ka, iv kb, .val .null, .val .null, rv b44, iv (0 : Int32), iv (1 : Int32), iv (1 : Int32), .unset] [(.int kb), (.ref b44)])) _
          refine XS.iload X52.here hx rfl (hb hby at_147) rfl ?_
          show Steps p.tables e below (T52.setTop (mkF m 149 #[iv u0, iv u1, iv u2, .val (.long u3), .second, iv u4, .val (.long u5), .second, iv (3 : Int32), iv ka, iv kb, .val .null, .val .null, rv b44, iv (0 : Int32), iv (1 : Int32), iv (1 : Int32), .unset] [(.int u4), (.int kb), (.ref b44)])) _
          refine XS.aload X52.here hx rfl (hb hby at_149) rfl rfl ?_
          show Steps p.tables e below (T52.setTop (mkF m 151 #[iv u0, iv u1, iv u2, .val (.long u3), .second, iv u4, .val (.long u5), .second, iv (3 : Int32), iv ka, iv kb, .val .null, .val .null, rv b44, iv (0 : Int32), iv (1 : Int32), iv (1 : Int32), .unset] [.null, (.int u4), (.int kb), (.ref b44)])) _
          refine XS.lload X52.here hx rfl (hb hby at_151) rfl ?_
          show Steps p.tables e below (T52.setTop (mkF m 153 #[iv u0, iv u1, iv u2, .val (.long u3), .second, iv u4, .val (.long u5), .second, iv (3 : Int32), iv ka, iv kb, .val .null, .val .null, rv b44, iv (0 : Int32), iv (1 : Int32), iv (1 : Int32), .unset] [(.long u5), .null, (.int u4), (.int kb), (.ref b44)])) _
          refine st54.trans ?_
          show Steps p.tables e below (T54.setTop (mkF m 156 #[iv u0, iv u1, iv u2, .val (.long u3), .second, iv u4, .val (.long u5), .second, iv (3 : Int32), iv ka, iv kb, .val .null, .val .null, rv b44, iv (0 : Int32), iv (1 : Int32), iv (1 : Int32), .unset] [(.int (0 : Int32))])) _
          refine XS.istore X54.here hx rfl (hb hby at_156) rfl (l' := #[iv u0, iv u1, iv u2, .val (.long u3), .second, iv u4, .val (.long u5), .second, iv (3 : Int32), iv ka, iv kb, .val .null, .val .null, rv b44, iv (0 : Int32), iv (1 : Int32), iv (1 : Int32), iv (0 : Int32)]) rfl ?_
          show Steps p.tables e below (T54.setTop (mkF m 158 #[iv u0, iv u1, iv u2, .val (.long u3), .second, iv u4, .val (.long u5), .second, iv (3 : Int32), iv ka, iv kb, .val .null, .val .null, rv b44, iv (0 : Int32), iv (1 : Int32), iv (1 : Int32), iv (0 : Int32)] [])) _
          refine XS.iload X54.here hx rfl (hb hby at_158) rfl ?_
          show Steps p.tables e below (T54.setTop (mkF m 160 #[iv u0, iv u1, iv u2, .val (.long u3), .second, iv u4, .val (.long u5), .second, iv (3 : Int32), iv ka, iv kb, .val .null, .val .null, rv b44, iv (0 : Int32), iv (1 : Int32), iv (1 : Int32), iv (0 : Int32)] [(.int (1 : Int32))])) _
          refine XS.ifNo X54.here hx rfl (hb hby at_160) rfl ((if0 _ _).trans (feq (by decide : ¬ ((1 : Int32) = (0 : Int32)))).1) ?_
          show Steps p.tables e below (T54.setTop (mkF m 163 #[iv u0, iv u1, iv u2, .val (.long u3), .second, iv u4, .val (.long u5), .second, iv (3 : Int32), iv ka, iv kb, .val .null, .val .null, rv b44, iv (0 : Int32), iv (1 : Int32), iv (1 : Int32), iv (0 : Int32)] [])) _
          refine XS.iload X54.here hx rfl (hb hby at_163) rfl ?_
          show Steps p.tables e below (T54.setTop (mkF m 165 #[iv u0, iv u1, iv u2, .val (.long u3), .second, iv u4, .val (.long u5), .second, iv (3 : Int32), iv ka, iv kb, .val .null, .val .null, rv b44, iv (0 : Int32), iv (1 : Int32), iv (1 : Int32), iv (0 : Int32)] [(.int (0 : Int32))])) _
          refine XS.iload X54.here hx rfl (hb hby at_165) rfl ?_
          show Steps p.tables e below (T54.setTop (mkF m 167 #[iv u0, iv u1, iv u2, .val (.long u3), .second, iv u4, .val (.long u5), .second, iv (3 : Int32), iv ka, iv kb, .val .null, .val .null, rv b44, iv (0 : Int32), iv (1 : Int32), iv (1 : Int32), iv (0 : Int32)] [(.int (3 : Int32)), (.int (0 : Int32))])) _
          refine XS.iconst X54.here hx rfl (hb hby at_167) ?_
          show Steps p.tables e below (T54.setTop (mkF m 168 #[iv u0, iv u1, iv u2, .val (.long u3), .second, iv u4, .val (.long u5), .second, iv (3 : Int32), iv ka, iv kb, .val .null, .val .null, rv b44, iv (0 : Int32), iv (1 : Int32), iv (1 : Int32), iv (0 : Int32)] [(.int (2 : Int32)), (.int (3 : Int32)), (.int (0 : Int32))])) _
          refine XS.icmpYes X54.here hx rfl (pc0 := 168) (pc' := 175) rfl (hb hby at_168) rfl (feq (by decide : ¬ ((3 : Int32) = (2 : Int32)))).2 (by decide) (by decide) ?_
          show Steps p.tables e below (T54.setTop (mkF m 175 #[iv u0, iv u1, iv u2, .val (.long u3), .second, iv u4, .val (.long u5), .second, iv (3 : Int32), iv ka, iv kb, .val .null, .val .null, rv b44, iv (0 : Int32), iv (1 : Int32), iv (1 : Int32), iv (0 : Int32)] [(.int (0 : Int32))])) _
          refine XS.iconst X54.here hx rfl (hb hby at_175) ?_
          show Steps p.tables e below (T54.setTop (mkF m 176 #[iv u0, iv u1, iv u2, .val (.long u3), .second, iv u4, .val (.long u5), .second, iv (3 : Int32), iv ka, iv kb, .val .null, .val .null, rv b44, iv (0 : Int32), iv (1 : Int32), iv (1 : Int32), iv (0 : Int32)] [(.int (0 : Int32)), (.int (0 : Int32))])) _
          refine XS.icmpNo X54.here hx rfl (hb hby at_176) rfl (teq (by decide : (0 : Int32) = (0 : Int32))).2 ?_
          show Steps p.tables e below (T54.setTop (mkF m 179 #[iv u0, iv u1, iv u2, .val (.long u3), .second, iv u4, .val (.long u5), .second, iv (3 : Int32), iv ka, iv kb, .val .null, .val .null, rv b44, iv (0 : Int32), iv (1 : Int32), iv (1 : Int32), iv (0 : Int32)] [])) _
          refine XS.iconst X54.here hx rfl (hb hby at_179) ?_
          show Steps p.tables e below (T54.setTop (mkF m 180 #[iv u0, iv u1, iv u2, .val (.long u3), .second, iv u4, .val (.long u5), .second, iv (3 : Int32), iv ka, iv kb, .val .null, .val .null, rv b44, iv (0 : Int32), iv (1 : Int32), iv (1 : Int32), iv (0 : Int32)] [(.int (1 : Int32))])) _
          refine XS.goto X54.here hx rfl (pc0 := 180) (pc' := 184) rfl (hb hby at_180) (by decide) (by decide) ?_
          show Steps p.tables e below (T54.setTop (mkF m 184 #[iv u0, iv u1, iv u2, .val (.long u3), .second, iv u4, .val (.long u5), .second, iv (3 : Int32), iv ka, iv kb, .val .null, .val .null, rv b44, iv (0 : Int32), iv (1 : Int32), iv (1 : Int32), iv (0 : Int32)] [(.int (1 : Int32))])) _
          refine XS.istore X54.here hx rfl (hb hby at_184) rfl (l' := #[iv u0, iv u1, iv u2, .val (.long u3), .second, iv u4, .val (.long u5), .second, iv (3 : Int32), iv ka, iv kb, .val .null, .val .null, rv b44, iv (0 : Int32), iv (1 : Int32), iv (1 : Int32), iv (0 : Int32)]) rfl ?_
          show Steps p.tables e below (T54.setTop (mkF m 186 #[iv u0, iv u1, iv u2, .val (.long u3), .second, iv u4, .val (.long u5), .second, iv (3 : Int32), iv ka, iv kb, .val .null, .val .null, rv b44, iv (0 : Int32), iv (1 : Int32), iv (1 : Int32), iv (0 : Int32)] [])) _
          refine XS.iconst X54.here hx rfl (hb hby at_186) ?_
          show Steps p.tables e below (T54.setTop (mkF m 187 #[iv u0, iv u1, iv u2, .val (.long u3), .second, iv u4, .val (.long u5), .second, iv (3 : Int32), iv ka, iv kb, .val .null, .val .null, rv b44, iv (0 : Int32), iv (1 : Int32), iv (1 : Int32), iv (0 : Int32)] [(.int (2 : Int32))])) _
          refine XS.istore X54.here hx rfl (hb hby at_187) rfl (l' := #[iv u0, iv u1, iv u2, .val (.long u3), .second, iv u4, .val (.long u5), .second, iv (3 : Int32), iv ka, iv kb, .val .null, .val .null, rv b44, iv (0 : Int32), iv (1 : Int32), iv (2 : Int32), iv (0 : Int32)]) rfl ?_
          show Steps p.tables e below (T54.setTop (mkF m 189 #[iv u0, iv u1, iv u2, .val (.long u3), .second, iv u4, .val (.long u5), .second, iv (3 : Int32), iv ka, iv kb, .val .null, .val .null, rv b44, iv (0 : Int32), iv (1 : Int32), iv (2 : Int32), iv (0 : Int32)] [])) _
          refine XS.iload X54.here hx rfl (hb hby at_189) rfl ?_
          show Steps p.tables e below (T54.setTop (mkF m 191 #[iv u0, iv u1, iv u2, .val (.long u3), .second, iv u4, .val (.long u5), .second, iv (3 : Int32), iv ka, iv kb, .val .null, .val .null, rv b44, iv (0 : Int32), iv (1 : Int32), iv (2 : Int32), iv (0 : Int32)] [(.int (1 : Int32))])) _
          refine XS.ifNo X54.here hx rfl (hb hby at_191) rfl ((if0 _ _).trans (feq (by decide : ¬ ((1 : Int32) = (0 : Int32)))).1) ?_
          show Steps p.tables e below (T54.setTop (mkF m 194 #[iv u0, iv u1, iv u2, .val (.long u3), .second, iv u4, .val (.long u5), .second, iv (3 : Int32), iv ka, iv kb, .val .null, .val .null, rv b44, iv (0 : Int32), iv (1 : Int32), iv (2 : Int32), iv (0 : Int32)] [])) _
          refine XS.aload X54.here hx rfl (hb hby at_194) rfl rfl ?_
          show Steps p.tables e below (T54.setTop (mkF m 196 #[iv u0, iv u1, iv u2, .val (.long u3), .second, iv u4, .val (.long u5), .second, iv (3 : Int32), iv ka, iv kb, .val .null, .val .null, rv b44, iv (0 : Int32), iv (1 : Int32), iv (2 : Int32), iv (0 : Int32)] [(.ref b44)])) _
          refine st56.trans ?_
          show Steps p.tables e below (T56.setTop (mkF m 199 #[iv u0, iv u1, iv u2, .val (.long u3), .second, iv u4, .val (.long u5), .second, iv (3 : Int32), iv ka, iv kb, .val .null, .val .null, rv b44, iv (0 : Int32), iv (1 : Int32), iv (2 : Int32), iv (0 : Int32)] [(.int (2 : Int32))])) _
          refine XS.iload X56.here hx rfl (hb hby at_199) rfl ?_
          show Steps p.tables e below (T56.setTop (mkF m 201 #[iv u0, iv u1, iv u2, .val (.long u3), .second, iv u4, .val (.long u5), .second, iv (3 : Int32), iv ka, iv kb, .val .null, .val .null, rv b44, iv (0 : Int32), iv (1 : Int32), iv (2 : Int32), iv (0 : Int32)] [(.int (2 : Int32)), (.int (2 : Int32))])) _
          refine XS.icmpNo X56.here hx rfl (hb hby at_201) rfl (teq (by decide : (2 : Int32) = (2 : Int32))).2 ?_
          show Steps p.tables e below (T56.setTop (mkF m 204 #[iv u0, iv u1, iv u2, .val (.long u3), .second, iv u4, .val (.long u5), .second, iv (3 : Int32), iv ka, iv kb, .val .null, .val .null, rv b44, iv (0 : Int32), iv (1 : Int32), iv (2 : Int32), iv (0 : Int32)] [])) _
          refine XS.iconst X56.here hx rfl (hb hby at_204) ?_
          show Steps p.tables e below (T56.setTop (mkF m 205 #[iv u0, iv u1, iv u2, .val (.long u3), .second, iv u4, .val (.long u5), .second, iv (3 : Int32), iv ka, iv kb, .val .null, .val .null, rv b44, iv (0 : Int32), iv (1 : Int32), iv (2 : Int32), iv (0 : Int32)] [(.int (1 : Int32))])) _
          refine XS.goto X56.here hx rfl (pc0 := 205) (pc' := 209) rfl (hb hby at_205) (by decide) (by decide) ?_
          show Steps p.tables e below (T56.setTop (mkF m 209 #[iv u0, iv u1, iv u2, .val (.long u3), .second, iv u4, .val (.long u5), .second, iv (3 : Int32), iv ka, iv kb, .val .null, .val .null, rv b44, iv (0 : Int32), iv (1 : Int32), iv (2 : Int32), iv (0 : Int32)] [(.int (1 : Int32))])) _
          refine XS.istore X56.here hx rfl (hb hby at_209) rfl (l' := #[iv u0, iv u1, iv u2, .val (.long u3), .second, iv u4, .val (.long u5), .second, iv (3 : Int32), iv ka, iv kb, .val .null, .val .null, rv b44, iv (0 : Int32), iv (1 : Int32), iv (2 : Int32), iv (0 : Int32)]) rfl ?_
          show Steps p.tables e below (T56.setTop (mkF m 211 #[iv u0, iv u1, iv u2, .val (.long u3), .second, iv u4, .val (.long u5), .second, iv (3 : Int32), iv ka, iv kb, .val .null, .val .null, rv b44, iv (0 : Int32), iv (1 : Int32), iv (2 : Int32), iv (0 : Int32)] [])) _
          refine XS.iload X56.here hx rfl (hb hby at_211) rfl ?_
          show Steps p.tables e below (T56.setTop (mkF m 213 #[iv u0, iv u1, iv u2, .val (.long u3), .second, iv u4, .val (.long u5), .second, iv (3 : Int32), iv ka, iv kb, .val .null, .val .null, rv b44, iv (0 : Int32), iv (1 : Int32), iv (2 : Int32), iv (0 : Int32)] [(.int (1 : Int32))])) _
          refine XS.ifNo X56.here hx rfl (hb hby at_213) rfl ((if0 _ _).trans (feq (by decide : ¬ ((1 : Int32) = (0 : Int32)))).1) ?_
          show Steps p.tables e below (T56.setTop (mkF m 216 #[iv u0, iv u1, iv u2, .val (.long u3), .second, iv u4, .val (.long u5), .second, iv (3 : Int32), iv ka, iv kb, .val .null, .val .null, rv b44, iv (0 : Int32), iv (1 : Int32), iv (2 : Int32), iv (0 : Int32)] [])) _
          refine XS.aload X56.here hx rfl (hb hby at_216) rfl rfl ?_
          show Steps p.tables e below (T56.setTop (mkF m 218 #[iv u0, iv u1, iv u2, .val (.long u3), .second, iv u4, .val (.long u5), .second, iv (3 : Int32), iv ka, iv kb, .val .null, .val .null, rv b44, iv (0 : Int32), iv (1 : Int32), iv (2 : Int32), iv (0 : Int32)] [(.ref b44)])) _
          refine XS.iconst X56.here hx rfl (hb hby at_218) ?_
          show Steps p.tables e below (T56.setTop (mkF m 219 #[iv u0, iv u1, iv u2, .val (.long u3), .second, iv u4, .val (.long u5), .second, iv (3 : Int32), iv ka, iv kb, .val .null, .val .null, rv b44, iv (0 : Int32), iv (1 : Int32), iv (2 : Int32), iv (0 : Int32)] [(.int (0 : Int32)), (.ref b44)])) _
          refine st57.trans ?_
          show Steps p.tables e below (T57.setTop (mkF m 222 #[iv u0, iv u1, iv u2, .val (.long u3), .second, iv u4, .val (.long u5), .second, iv (3 : Int32), iv ka, iv kb, .val .null, .val .null, rv b44, iv (0 : Int32), iv (1 : Int32), iv (2 : Int32), iv (0 : Int32)] [(.int ka)])) _
          refine XS.iload X57.here hx rfl (hb hby at_222) rfl ?_
          show Steps p.tables e below (T57.setTop (mkF m 224 #[iv u0, iv u1, iv u2, .val (.long u3), .second, iv u4, .val (.long u5), .second, iv (3 : Int32), iv ka, iv kb, .val .null, .val .null, rv b44, iv (0 : Int32), iv (1 : Int32), iv (2 : Int32), iv (0 : Int32)] [(.int ka), (.int ka)])) _
          refine XS.icmpNo X57.here hx rfl (hb hby at_224) rfl (teq rfl).2 ?_
          show Steps p.tables e below (T57.setTop (mkF m 227 #[iv u0, iv u1, iv u2, .val (.long u3), .second, iv u4, .val (.long u5), .second, iv (3 : Int32), iv ka, iv kb, .val .null, .val .null, rv b44, iv (0 : Int32), iv (1 : Int32), iv (2 : Int32), iv (0 : Int32)] [])) _
          refine XS.aload X57.here hx rfl (hb hby at_227) rfl rfl ?_
          show Steps p.tables e below (T57.setTop (mkF m 229 #[iv u0, iv u1, iv u2, .val (.long u3), .second, iv u4, .val (.long u5), .second, iv (3 : Int32), iv ka, iv kb, .val .null, .val .null, rv b44, iv (0 : Int32), iv (1 : Int32), iv (2 : Int32), iv (0 : Int32)] [(.ref b44)])) _
          refine XS.iconst X57.here hx rfl (hb hby at_229) ?_
          show Steps p.tables e below (T57.setTop (mkF m 230 #[iv u0, iv u1, iv u2, .val (.long u3), .second, iv u4, .val (.long u5), .second, iv (3 : Int32), iv ka, iv kb, .val .null, .val .null, rv b44, iv (0 : Int32), iv (1 : Int32), iv (2 : Int32), iv (0 : Int32)] [(.int (0 : Int32)), (.ref b44)])) _
          refine st58.trans ?_
          show Steps p.tables e below (T58.setTop (mkF m 233 #[iv u0, iv u1, iv u2, .val (.long u3), .second, iv u4, .val (.long u5), .second, iv (3 : Int32), iv ka, iv kb, .val .null, .val .null, rv b44, iv (0 : Int32), iv (1 : Int32), iv (2 : Int32), iv (0 : Int32)] [(.int u2)])) _
          refine XS.iloadN X58.here hx rfl (hb hby at_233) rfl ?_
          show Steps p.tables e below (T58.setTop (mkF m 234 #[iv u0, iv u1, iv u2, .val (.long u3), .second, iv u4, .val (.long u5), .second, iv (3 : Int32), iv ka, iv kb, .val .null, .val .null, rv b44, iv (0 : Int32), iv (1 : Int32), iv (2 : Int32), iv (0 : Int32)] [(.int u2), (.int u2)])) _
          refine XS.icmpNo X58.here hx rfl (hb hby at_234) rfl (teq rfl).2 ?_
          show Steps p.tables e below (T58.setTop (mkF m 237 #[iv u0, iv u1, iv u2, .val (.long u3), .second, iv u4, .val (.long u5), .second, iv (3 : Int32), iv ka, iv kb, .val .null, .val .null, rv b44, iv (0 : Int32), iv (1 : Int32), iv (2 : Int32), iv (0 : Int32)] [])) _
          refine XS.aload X58.here hx rfl (hb hby at_237) rfl rfl ?_
          show Steps p.tables e below (T58.setTop (mkF m 239 #[iv u0, iv u1, iv u2, .val (.long u3), .second, iv u4, .val (.long u5), .second, iv (3 : Int32), iv ka, iv kb, .val .null, .val .null, rv b44, iv (0 : Int32), iv (1 : Int32), iv (2 : Int32), iv (0 : Int32)] [(.ref b44)])) _
          refine XS.iconst X58.here hx rfl (hb hby at_239) ?_
          show Steps p.tables e below (T58.setTop (mkF m 240 #[iv u0, iv u1, iv u2, .val (.long u3), .second, iv u4, .val (.long u5), .second, iv (3 : Int32), iv ka, iv kb, .val .null, .val .null, rv b44, iv (0 : Int32), iv (1 : Int32), iv (2 : Int32), iv (0 : Int32)] [(.int (0 : Int32)), (.ref b44)])) _
          refine st59.trans ?_
          show Steps p.tables e below (T59.setTop (mkF m 243 #[iv u0, iv u1, iv u2, .val (.long u3), .second, iv u4, .val (.long u5), .second, iv (3 : Int32), iv ka, iv kb, .val .null, .val .null, rv b44, iv (0 : Int32), iv (1 : Int32), iv (2 : Int32), iv (0 : Int32)] [.null])) _
          refine XS.aload X59.here hx rfl (hb hby at_243) rfl rfl ?_
          show Steps p.tables e below (T59.setTop (mkF m 245 #[iv u0, iv u1, iv u2, .val (.long u3), .second, iv u4, .val (.long u5), .second, iv (3 : Int32), iv ka, iv kb, .val .null, .val .null, rv b44, iv (0 : Int32), iv (1 : Int32), iv (2 : Int32), iv (0 : Int32)] [.null, .null])) _
          refine Jvm.RoadKit.acmp (g := (mkF m 245 #[iv u0, iv u1, iv u2, .val (.long u3), .second, iv u4, .val (.long u5), .second, iv (3 : Int32), iv ka, iv kb, .val .null, .val .null, rv b44, iv (0 : Int32), iv (1 : Int32), iv (2 : Int32), iv (0 : Int32)] [.null, .null])) X59 hx rfl rfl rfl (pc0 := 245) (pc' := 248) (same := true) rfl (hb hby at_245) rfl (decide_eq_true rfl) (by decide) (by decide) ?_
          show Steps p.tables e below (T59.setTop (mkF m 248 #[iv u0, iv u1, iv u2, .val (.long u3), .second, iv u4, .val (.long u5), .second, iv (3 : Int32), iv ka, iv kb, .val .null, .val .null, rv b44, iv (0 : Int32), iv (1 : Int32), iv (2 : Int32), iv (0 : Int32)] [])) _
          refine XS.aload X59.here hx rfl (hb hby at_248) rfl rfl ?_
          show Steps p.tables e below (T59.setTop (mkF m 250 #[iv u0, iv u1, iv u2, .val (.long u3), .second, iv u4, .val (.long u5), .second, iv (3 : Int32), iv ka, iv kb, .val .null, .val .null, rv b44, iv (0 : Int32), iv (1 : Int32), iv (2 : Int32), iv (0 : Int32)] [(.ref b44)])) _
          refine XS.iconst X59.here hx rfl (hb hby at_250) ?_
          show Steps p.tables e below (T59.setTop (mkF m 251 #[iv u0, iv u1, iv u2, .val (.long u3), .second, iv u4, .val (.long u5), .second, iv (3 : Int32), iv ka, iv kb, .val .null, .val .null, rv b44, iv (0 : Int32), iv (1 : Int32), iv (2 : Int32), iv (0 : Int32)] [(.int (0 : Int32)), (.ref b44)])) _
          refine st60.trans ?_
          show Steps p.tables e below (T60.setTop (mkF m 254 #[iv u0, iv u1, iv u2, .val (.long u3), .second, iv u4, .val (.long u5), .second, iv (3 : Int32), iv ka, iv kb, .val .null, .val .null, rv b44, iv (0 : Int32), iv (1 : Int32), iv (2 : Int32), iv (0 : Int32)] [(.long u3)])) _
          refine XS.lloadN X60.here hx rfl (hb hby at_254) rfl ?_
          show Steps p.tables e below (T60.setTop (mkF m 255 #[iv u0, iv u1, iv u2, .val (.long u3), .second, iv u4, .val (.long u5), .second, iv (3 : Int32), iv ka, iv kb, .val .null, .val .null, rv b44, iv (0 : Int32), iv (1 : Int32), iv (2 : Int32), iv (0 : Int32)] [(.long u3), (.long u3)])) _
          refine XS.lcmp X60.here hx rfl (hb hby at_255) rfl ?_
          show Steps p.tables e below (T60.setTop (mkF m 256 #[iv u0, iv u1, iv u2, .val (.long u3), .second, iv u4, .val (.long u5), .second, iv (3 : Int32), iv ka, iv kb, .val .null, .val .null, rv b44, iv (0 : Int32), iv (1 : Int32), iv (2 : Int32), iv (0 : Int32)] [(.int (lcmpW u3 u3))])) _
          refine XS.ifNo X60.here hx rfl (hb hby at_256) rfl ((if0 _ _).trans (teq ((lw_eq _ _).mpr rfl)).2) ?_
          show Steps p.tables e below (T60.setTop (mkF m 259 #[iv u0, iv u1, iv u2, .val (.long u3), .second, iv u4, .val (.long u5), .second, iv (3 : Int32), iv ka, iv kb, .val .null, .val .null, rv b44, iv (0 : Int32), iv (1 : Int32), iv (2 : Int32), iv (0 : Int32)] [])) _
          refine XS.iconst X60.here hx rfl (hb hby at_259) ?_
          show Steps p.tables e below (T60.setTop (mkF m 260 #[iv u0, iv u1, iv u2, .val (.long u3), .second, iv u4, .val (.long u5), .second, iv (3 : Int32), iv ka, iv kb, .val .null, .val .null, rv b44, iv (0 : Int32), iv (1 : Int32), iv (2 : Int32), iv (0 : Int32)] [(.int (1 : Int32))])) _
          refine XS.goto X60.here hx rfl (pc0 := 260) (pc' := 264) rfl (hb hby at_260) (by decide) (by decide) ?_
          show Steps p.tables e below (T60.setTop (mkF m 264 #[iv u0, iv u1, iv u2, .val (.long u3), .second, iv u4, .val (.long u5), .second, iv (3 : Int32), iv ka, iv kb, .val .null, .val .null, rv b44, iv (0 : Int32), iv (1 : Int32), iv (2 : Int32), iv (0 : Int32)] [(.int (1 : Int32))])) _
          refine XS.istore X60.here hx rfl (hb hby at_264) rfl (l' := #[iv u0, iv u1, iv u2, .val (.long u3), .second, iv u4, .val (.long u5), .second, iv (3 : Int32), iv ka, iv kb, .val .null, .val .null, rv b44, iv (0 : Int32), iv (1 : Int32), iv (2 : Int32), iv (0 : Int32)]) rfl ?_
          show Steps p.tables e below (T60.setTop (mkF m 266 #[iv u0, iv u1, iv u2, .val (.long u3), .second, iv u4, .val (.long u5), .second, iv (3 : Int32), iv ka, iv kb, .val .null, .val .null, rv b44, iv (0 : Int32), iv (1 : Int32), iv (2 : Int32), iv (0 : Int32)] [])) _
          refine XS.iload X60.here hx rfl (hb hby at_266) rfl ?_
          show Steps p.tables e below (T60.setTop (mkF m 268 #[iv u0, iv u1, iv u2, .val (.long u3), .second, iv u4, .val (.long u5), .second, iv (3 : Int32), iv ka, iv kb, .val .null, .val .null, rv b44, iv (0 : Int32), iv (1 : Int32), iv (2 : Int32), iv (0 : Int32)] [(.int (3 : Int32))])) _
          refine XS.iconst X60.here hx rfl (hb hby at_268) ?_
          show Steps p.tables e below (T60.setTop (mkF m 269 #[iv u0, iv u1, iv u2, .val (.long u3), .second, iv u4, .val (.long u5), .second, iv (3 : Int32), iv ka, iv kb, .val .null, .val .null, rv b44, iv (0 : Int32), iv (1 : Int32), iv (2 : Int32), iv (0 : Int32)] [(.int (2 : Int32)), (.int (3 : Int32))])) _
          refine XS.icmpNo X60.here hx rfl (hb hby at_269) rfl (flt (by decide : ¬ ((3 : Int32) < (2 : Int32)))).1 ?_
          show Steps p.tables e below (T60.setTop (mkF m 272 #[iv u0, iv u1, iv u2, .val (.long u3), .second, iv u4, .val (.long u5), .second, iv (3 : Int32), iv ka, iv kb, .val .null, .val .null, rv b44, iv (0 : Int32), iv (1 : Int32), iv (2 : Int32), iv (0 : Int32)] [])) _
          refine XS.iload X60.here hx rfl (hb hby at_272) rfl ?_
          show Steps p.tables e below (T60.setTop (mkF m 274 #[iv u0, iv u1, iv u2, .val (.long u3), .second, iv u4, .val (.long u5), .second, iv (3 : Int32), iv ka, iv kb, .val .null, .val .null, rv b44, iv (0 : Int32), iv (1 : Int32), iv (2 : Int32), iv (0 : Int32)] [(.int (1 : Int32))])) _
          refine XS.ifNo X60.here hx rfl (hb hby at_274) rfl ((if0 _ _).trans (feq (by decide : ¬ ((1 : Int32) = (0 : Int32)))).1) ?_
          show Steps p.tables e below (T60.setTop (mkF m 277 #[iv u0, iv u1, iv u2, .val (.long u3), .second, iv u4, .val (.long u5), .second, iv (3 : Int32), iv ka, iv kb, .val .null, .val .null, rv b44, iv (0 : Int32), iv (1 : Int32), iv (2 : Int32), iv (0 : Int32)] [])) _
          refine XS.aload X60.here hx rfl (hb hby at_277) rfl rfl ?_
          show Steps p.tables e below (T60.setTop (mkF m 279 #[iv u0, iv u1, iv u2, .val (.long u3), .second, iv u4, .val (.long u5), .second, iv (3 : Int32), iv ka, iv kb, .val .null, .val .null, rv b44, iv (0 : Int32), iv (1 : Int32), iv (2 : Int32), iv (0 : Int32)] [(.ref b44)])) _
          refine XS.iconst X60.here hx rfl (hb hby at_279) ?_
          show Steps p.tables e below (T60.setTop (mkF m 280 #[iv u0, iv u1, iv u2, .val (.long u3), .second, iv u4, .val (.long u5), .second, iv (3 : Int32), iv ka, iv kb, .val .null, .val .null, rv b44, iv (0 : Int32), iv (1 : Int32), iv (2 : Int32), iv (0 : Int32)] [(.int (1 : Int32)), (.ref b44)])) _
          refine st61.trans ?_
          show Steps p.tables e below (T61.setTop (mkF m 283 #[iv u0, iv u1, iv u2, .val (.long u3), .second, iv u4, .val (.long u5), .second, iv (3 : Int32), iv ka, iv kb, .val .null, .val .null, rv b44, iv (0 : Int32), iv (1 : Int32), iv (2 : Int32), iv (0 : Int32)] [(.int kb)])) _
          refine XS.iload X61.here hx rfl (hb hby at_283) rfl ?_
          show Steps p.tables e below (T61.setTop (mkF m 285 #[iv u0, iv u1, iv u2, .val (.long u3), .second, iv u4, .val (.long u5), .second, iv (3 : Int32), iv ka, iv kb, .val .null, .val .null, rv b44, iv (0 : Int32), iv (1 : Int32), iv (2 : Int32), iv (0 : Int32)] [(.int kb), (.int kb)])) _
          refine XS.icmpNo X61.here hx rfl (hb hby at_285) rfl (teq rfl).2 ?_
          show Steps p.tables e below (T61.setTop (mkF m 288 #[iv u0, iv u1, iv u2, .val (.long u3), .second, iv u4, .val (.long u5), .second, iv (3 : Int32), iv ka, iv kb, .val .null, .val .null, rv b44, iv (0 : Int32), iv (1 : Int32), iv (2 : Int32), iv (0 : Int32)] [])) _
          refine XS.aload X61.here hx rfl (hb hby at_288) rfl rfl ?_
          show Steps p.tables e below (T61.setTop (mkF m 290 #[iv u0, iv u1, iv u2, .val (.long u3), .second, iv u4, .val (.long u5), .second, iv (3 : Int32), iv ka, iv kb, .val .null, .val .null, rv b44, iv (0 : Int32), iv (1 : Int32), iv (2 : Int32), iv (0 : Int32)] [(.ref b44)])) _
          refine XS.iconst X61.here hx rfl (hb hby at_290) ?_
          show Steps p.tables e below (T61.setTop (mkF m 291 #[iv u0, iv u1, iv u2, .val (.long u3), .second, iv u4, .val (.long u5), .second, iv (3 : Int32), iv ka, iv kb, .val .null, .val .null, rv b44, iv (0 : Int32), iv (1 : Int32), iv (2 : Int32), iv (0 : Int32)] [(.int (1 : Int32)), (.ref b44)])) _
          refine st62.trans ?_
          show Steps p.tables e below (T62.setTop (mkF m 294 #[iv u0, iv u1, iv u2, .val (.long u3), .second, iv u4, .val (.long u5), .second, iv (3 : Int32), iv ka, iv kb, .val .null, .val .null, rv b44, iv (0 : Int32), iv (1 : Int32), iv (2 : Int32), iv (0 : Int32)] [(.int u4)])) _
          refine XS.iload X62.here hx rfl (hb hby at_294) rfl ?_
          show Steps p.tables e below (T62.setTop (mkF m 296 #[iv u0, iv u1, iv u2, .val (.long u3), .second, iv u4, .val (.long u5), .second, iv (3 : Int32), iv ka, iv kb, .val .null, .val .null, rv b44, iv (0 : Int32), iv (1 : Int32), iv (2 : Int32), iv (0 : Int32)] [(.int u4), (.int u4)])) _
          refine XS.icmpNo X62.here hx rfl (hb hby at_296) rfl (teq rfl).2 ?_
          show Steps p.tables e below (T62.setTop (mkF m 299 #[iv u0, iv u1, iv u2, .val (.long u3), .second, iv u4, .val (.long u5), .second, iv (3 : Int32), iv ka, iv kb, .val .null, .val .null, rv b44, iv (0 : Int32), iv (1 : Int32), iv (2 : Int32), iv (0 : Int32)] [])) _
          refine XS.aload X62.here hx rfl (hb hby at_299) rfl rfl ?_
          show Steps p.tables e below (T62.setTop (mkF m 301 #[iv u0, iv u1, iv u2, .val (.long u3), .second, iv u4, .val (.long u5), .second, iv (3 : Int32), iv ka, iv kb, .val .null, .val .null, rv b44, iv (0 : Int32), iv (1 : Int32), iv (2 : Int32), iv (0 : Int32)] [(.ref b44)])) _
          refine XS.iconst X62.here hx rfl (hb hby at_301) ?_
          show Steps p.tables e below (T62.setTop (mkF m 302 #[iv u0, iv u1, iv u2, .val (.long u3), .second, iv u4, .val (.long u5), .second, iv (3 : Int32), iv ka, iv kb, .val .null, .val .null, rv b44, iv (0 : Int32), iv (1 : Int32), iv (2 : Int32), iv (0 : Int32)] [(.int (1 : Int32)), (.ref b44)])) _
          refine st63.trans ?_
          show Steps p.tables e below (T63.setTop (mkF m 305 #[iv u0, iv u1, iv u2, .val (.long u3), .second, iv u4, .val (.long u5), .second, iv (3 : Int32), iv ka, iv kb, .val .null, .val .null, rv b44, iv (0 : Int32), iv (1 : Int32), iv (2 : Int32), iv (0 : Int32)] [.null])) _
          refine XS.aload X63.here hx rfl (hb hby at_305) rfl rfl ?_
          show Steps p.tables e below (T63.setTop (mkF m 307 #[iv u0, iv u1, iv u2, .val (.long u3), .second, iv u4, .val (.long u5), .second, iv (3 : Int32), iv ka, iv kb, .val .null, .val .null, rv b44, iv (0 : Int32), iv (1 : Int32), iv (2 : Int32), iv (0 : Int32)] [.null, .null])) _
          refine Jvm.RoadKit.acmp (g := (mkF m 307 #[iv u0, iv u1, iv u2, .val (.long u3), .second, iv u4, .val (.long u5), .second, iv (3 : Int32), iv ka, iv kb, .val .null, .val .null, rv b44, iv (0 : Int32), iv (1 : Int32), iv (2 : Int32), iv (0 : Int32)] [.null, .null])) X63 hx rfl rfl rfl (pc0 := 307) (pc' := 310) (same := true) rfl (hb hby at_307) rfl (decide_eq_true rfl) (by decide) (by decide) ?_
          show Steps p.tables e below (T63.setTop (mkF m 310 #[iv u0, iv u1, iv u2, .val (.long u3), .second, iv u4, .val (.long u5), .second, iv (3 : Int32), iv ka, iv kb, .val .null, .val .null, rv b44, iv (0 : Int32), iv (1 : Int32), iv (2 : Int32), iv (0 : Int32)] [])) _
          refine XS.aload X63.here hx rfl (hb hby at_310) rfl rfl ?_
          show Steps p.tables e below (T63.setTop (mkF m 312 #[iv u0, iv u1, iv u2, .val (.long u3), .second, iv u4, .val (.long u5), .second, iv (3 : Int32), iv ka, iv kb, .val .null, .val .null, rv b44, iv (0 : Int32), iv (1 : Int32), iv (2 : Int32), iv (0 : Int32)] [(.ref b44)])) _
          refine XS.iconst X63.here hx rfl (hb hby at_312) ?_
          show Steps p.tables e below (T63.setTop (mkF m 313 #[iv u0, iv u1, iv u2, .val (.long u3), .second, iv u4, .val (.long u5), .second, iv (3 : Int32), iv ka, iv kb, .val .null, .val .null, rv b44, iv (0 : Int32), iv (1 : Int32), iv (2 : Int32), iv (0 : Int32)] [(.int (1 : Int32)), (.ref b44)])) _
          refine st64.trans ?_
          show Steps p.tables e below (T64.setTop (mkF m 316 #[iv u0, iv u1, iv u2, .val (.long u3), .second, iv u4, .val (.long u5), .second, iv (3 : Int32), iv ka, iv kb, .val .null, .val .null, rv b44, iv (0 : Int32), iv (1 : Int32), iv (2 : Int32), iv (0 : Int32)] [(.long u5)])) _
          refine XS.lload X64.here hx rfl (hb hby at_316) rfl ?_
          show Steps p.tables e below (T64.setTop (mkF m 318 #[iv u0, iv u1, iv u2, .val (.long u3), .second, iv u4, .val (.long u5), .second, iv (3 : Int32), iv ka, iv kb, .val .null, .val .null, rv b44, iv (0 : Int32), iv (1 : Int32), iv (2 : Int32), iv (0 : Int32)] [(.long u5), (.long u5)])) _
          refine XS.lcmp X64.here hx rfl (hb hby at_318) rfl ?_
          show Steps p.tables e below (T64.setTop (mkF m 319 #[iv u0, iv u1, iv u2, .val (.long u3), .second, iv u4, .val (.long u5), .second, iv (3 : Int32), iv ka, iv kb, .val .null, .val .null, rv b44, iv (0 : Int32), iv (1 : Int32), iv (2 : Int32), iv (0 : Int32)] [(.int (lcmpW u5 u5))])) _
          refine XS.ifNo X64.here hx rfl (hb hby at_319) rfl ((if0 _ _).trans (teq ((lw_eq _ _).mpr rfl)).2) ?_
          show Steps p.tables e below (T64.setTop (mkF m 322 #[iv u0, iv u1, iv u2, .val (.long u3), .second, iv u4, .val (.long u5), .second, iv (3 : Int32), iv ka, iv kb, .val .null, .val .null, rv b44, iv (0 : Int32), iv (1 : Int32), iv (2 : Int32), iv (0 : Int32)] [])) _
          refine XS.iconst X64.here hx rfl (hb hby at_322) ?_
          show Steps p.tables e below (T64.setTop (mkF m 323 #[iv u0, iv u1, iv u2, .val (.long u3), .second, iv u4, .val (.long u5), .second, iv (3 : Int32), iv ka, iv kb, .val .null, .val .null, rv b44, iv (0 : Int32), iv (1 : Int32), iv (2 : Int32), iv (0 : Int32)] [(.int (1 : Int32))])) _
          refine XS.goto X64.here hx rfl (pc0 := 323) (pc' := 327) rfl (hb hby at_323) (by decide) (by decide) ?_
          show Steps p.tables e below (T64.setTop (mkF m 327 #[iv u0, iv u1, iv u2, .val (.long u3), .second, iv u4, .val (.long u5), .second, iv (3 : Int32), iv ka, iv kb, .val .null, .val .null, rv b44, iv (0 : Int32), iv (1 : Int32), iv (2 : Int32), iv (0 : Int32)] [(.int (1 : Int32))])) _
          refine XS.istore X64.here hx rfl (hb hby at_327) rfl (l' := #[iv u0, iv u1, iv u2, .val (.long u3), .second, iv u4, .val (.long u5), .second, iv (3 : Int32), iv ka, iv kb, .val .null, .val .null, rv b44, iv (0 : Int32), iv (1 : Int32), iv (2 : Int32), iv (0 : Int32)]) rfl ?_
          show Steps p.tables e below (T64.setTop (mkF m 329 #[iv u0, iv u1, iv u2, .val (.long u3), .second, iv u4, .val (.long u5), .second, iv (3 : Int32), iv ka, iv kb, .val .null, .val .null, rv b44, iv (0 : Int32), iv (1 : Int32), iv (2 : Int32), iv (0 : Int32)] [])) _
          refine XS.iload X64.here hx rfl (hb hby at_329) rfl ?_
          show Steps p.tables e below (T64.setTop (mkF m 331 #[iv u0, iv u1, iv u2, .val (.long u3), .second, iv u4, .val (.long u5), .second, iv (3 : Int32), iv ka, iv kb, .val .null, .val .null, rv b44, iv (0 : Int32), iv (1 : Int32), iv (2 : Int32), iv (0 : Int32)] [(.int (1 : Int32))])) _
          exact retN X64 hx (t := .boolean) Bd.returns (by simp) (hb hby at_331) hr
        · show Q0 Z u0 u1 u2 u3 u4 u5 h0 n0 _ T64.heap _
          rw [eq64]
          exact ⟨rfl, N64⟩
    · skip
      obtain ⟨T65, h65, k65, X65, e65, E65, A65, Ea65, st65⟩ := newPE X0 hx hZ (hw _ (List.mem_of_getElem? (i := 10) rfl)) e0 (g := (mkF m 66 #[iv u0, iv u1, iv u2, .val (.long u3), .second, iv u4, .val (.long u5), .second, iv ((1 : Int32) + ((u0 &&& (255 : Int32)) % (3 : Int32))), iv ka, iv kb, .val .null, .unset, .unset, .unset, .unset, .unset, .unset] [(.int (2 : Int32))])) rfl (hb hby at_66) rfl (by decide) (cap := 2) (by decide) (by decide) (by decide) (by decide) (ad := "[B") (by decide)
      obtain ⟨b65, g65⟩ : ∃ z, z = h0.size := ⟨_, rfl⟩
      rw [← g65] at A65 Ea65 st65
      have ge_b65 : n0 ≤ b65 := Nat.le_trans Z0 (Nat.le_of_eq g65.symm)
      have V65 : Arv Z h65 b65 k65 .byte (2 : Int32) [(.int (0 : Int32)), (.int (0 : Int32))] (.int (0 : Int32)) := (Arv.new A65 (by decide)).pad (pad_rep [] (.int (0 : Int32)) 2)
      have Z65 : n0 ≤ h65.size := Nat.le_trans Z0 E65.1
      obtain ⟨cl66, Ar66, qa66, Sa66, Na66, Ha66, Ga66⟩ := id V65
      have hin66 : ¬ ((0 : Int32) < 0 ∨ cl66.slots.size ≤ ((0 : Int32)).toNatClampNeg) := inb_of Sa66 ⟨by decide, by decide⟩
      obtain ⟨T67, h67, X67, e67, W67, st67⟩ := stB X65 hx hZ e65 Ar66 (j := (0 : Int32)) hin66 (g := (mkF m 75 #[iv u0, iv u1, iv u2, .val (.long u3), .second, iv u4, .val (.long u5), .second, iv ((1 : Int32) + ((u0 &&& (255 : Int32)) % (3 : Int32))), iv ka, iv kb, .val .null, .unset, .unset, .unset, .unset, .unset, .unset] [(.int (((u0.toUInt32 >>> ((24 : Int32) &&& 31).toUInt32).toInt32).toInt8.toInt32)), (.int (0 : Int32)), (.ref b65), (.ref b65)])) rfl rfl (hb hby at_75)
      rw [own_nb] at W67
      have V67 : Arv Z h67 b65 k65 .byte (2 : Int32) [(.int (((u0.toUInt32 >>> ((24 : Int32) &&& 31).toUInt32).toInt32).toInt8.toInt32)), (.int (0 : Int32))] (.int (0 : Int32)) := Arv.set Ar66 qa66 Sa66 Na66 Ha66 Ga66 (own_fb _) W67 0 rfl (Nat.le_of_ble_eq_true rfl)
      have N67 := Fr.snoc X67 N0 ge_b65
      have Z67 : n0 ≤ h67.size := Nat.le_trans Z65 (Keep.of_wr W67).1
      have f70 := Ea65.wr W67
      obtain ⟨cl71, Ar71, qa71, Sa71, Na71, Ha71, Ga71⟩ := id V67
      have hin71 : ¬ ((1 : Int32) < 0 ∨ cl71.slots.size ≤ ((1 : Int32)).toNatClampNeg) := inb_of Sa71 ⟨by decide, by decide⟩
      obtain ⟨T72, h72, X72, e72, W72, st72⟩ := stB X67 hx hZ e67 Ar71 (j := (1 : Int32)) hin71 (g := (mkF m 80 #[iv u0, iv u1, iv u2, .val (.long u3), .second, iv u4, .val (.long u5), .second, iv ((1 : Int32) + ((u0 &&& (255 : Int32)) % (3 : Int32))), iv ka, iv kb, .val .null, .unset, .unset, .unset, .unset, .unset, .unset] [(.int (u0.toInt8.toInt32)), (.int (1 : Int32)), (.ref b65), (.ref b65)])) rfl rfl (hb hby at_80)
      rw [own_nb] at W72
      have V72 : Arv Z h72 b65 k65 .byte (2 : Int32) [(.int (((u0.toUInt32 >>> ((24 : Int32) &&& 31).toUInt32).toInt32).toInt8.toInt32)), (.int (u0.toInt8.toInt32))] (.int (0 : Int32)) := Arv.set Ar71 qa71 Sa71 Na71 Ha71 Ga71 (own_fb _) W72 1 rfl (Nat.le_of_ble_eq_true rfl)
      have N72 := Fr.snoc X72 N67 ge_b65
      have Z72 : n0 ≤ h72.size := Nat.le_trans Z67 (Keep.of_wr W72).1
      have f75 := f70.wr W72
      have S76 : ∀ t, Steps p.tables e below (T72.setTop (mkF m 87 #[iv u0, iv u1, iv u2, .val (.long u3), .second, iv u4, .val (.long u5), .second, iv ((1 : Int32) + ((u0 &&& (255 : Int32)) % (3 : Int32))), iv ka, iv kb, .val .null, rv b65, .unset, .unset, .unset, .unset, .unset] [])) t → Steps p.tables e below (s₁.setTop (entryFrame m #[(.int u0), (.int u1), (.int u2), (.long u3), (.int u4), (.long u5)] maxLocals)) t := by
        intro t k
        refine S5 t ?_
        show Steps p.tables e below (s₁.setTop (mkF m 62 #[iv u0, iv u1, iv u2, .val (.long u3), .second, iv u4, .val (.long u5), .second, iv ((1 : Int32) + ((u0 &&& (255 : Int32)) % (3 : Int32))), iv ka, iv kb, .val .null, .unset, .unset, .unset, .unset, .unset, .unset] [(.int (u0 &&& (512 : Int32)))])) _
        refine XS.ifNo X0.here hx rfl (hb hby at_62) rfl ((if0 _ _).trans (feq hc6).1) ?_
        show Steps p.tables e below (s₁.setTop (mkF m 65 #[iv u0, iv u1, iv u2, .val (.long u3), .second, iv u4, .val (.long u5), .second, iv ((1 : Int32) + ((u0 &&& (255 : Int32)) % (3 : Int32))), iv ka, iv kb, .val .null, .unset, .unset, .unset, .unset, .unset, .unset] [])) _
        refine XS.iconst X0.here hx rfl (hb hby at_65) ?_
        show Steps p.tables e below (s₁.setTop (mkF m 66 #[iv u0, iv u1, iv u2, .val (.long u3), .second, iv u4, .val (.long u5), .second, iv ((1 : Int32) + ((u0 &&& (255 : Int32)) % (3 : Int32))), iv ka, iv kb, .val .null, .unset, .unset, .unset, .unset, .unset, .unset] [(.int (2 : Int32))])) _
        refine st65 _ ?_
        show Steps p.tables e below (T65.setTop (mkF m 68 #[iv u0, iv u1, iv u2, .val (.long u3), .second, iv u4, .val (.long u5), .second, iv ((1 : Int32) + ((u0 &&& (255 : Int32)) % (3 : Int32))), iv ka, iv kb, .val .null, .unset, .unset, .unset, .unset, .unset, .unset] [(.ref b65)])) _
        refine XS.dup X65.here hx rfl (hb hby at_68) rfl rfl ?_
        show Steps p.tables e below (T65.setTop (mkF m 69 #[iv u0, iv u1, iv u2, .val (.long u3), .second, iv u4, .val (.long u5), .second, iv ((1 : Int32) + ((u0 &&& (255 : Int32)) % (3 : Int32))), iv ka, iv kb, .val .null, .unset, .unset, .unset, .unset, .unset, .unset] [(.ref b65), (.ref b65)])) _
        refine XS.iconst X65.here hx rfl (hb hby at_69) ?_
        show Steps p.tables e below (T65.setTop (mkF m 70 #[iv u0, iv u1, iv u2, .val (.long u3), .second, iv u4, .val (.long u5), .second, iv ((1 : Int32) + ((u0 &&& (255 : Int32)) % (3 : Int32))), iv ka, iv kb, .val .null, .unset, .unset, .unset, .unset, .unset, .unset] [(.int (0 : Int32)), (.ref b65), (.ref b65)])) _
        refine XS.iloadN X65.here hx rfl (hb hby at_70) rfl ?_
        show Steps p.tables e below (T65.setTop (mkF m 71 #[iv u0, iv u1, iv u2, .val (.long u3), .second, iv u4, .val (.long u5), .second, iv ((1 : Int32) + ((u0 &&& (255 : Int32)) % (3 : Int32))), iv ka, iv kb, .val .null, .unset, .unset, .unset, .unset, .unset, .unset] [(.int u0), (.int (0 : Int32)), (.ref b65), (.ref b65)])) _
        refine XS.bipush X65.here hx rfl (hb hby at_71) ?_
        show Steps p.tables e below (T65.setTop (mkF m 73 #[iv u0, iv u1, iv u2, .val (.long u3), .second, iv u4, .val (.long u5), .second, iv ((1 : Int32) + ((u0 &&& (255 : Int32)) % (3 : Int32))), iv ka, iv kb, .val .null, .unset, .unset, .unset, .unset, .unset, .unset] [(.int (24 : Int32)), (.int u0), (.int (0 : Int32)), (.ref b65), (.ref b65)])) _
        refine XS.iushr X65.here hx rfl (hb hby at_73) rfl ?_
        show Steps p.tables e below (T65.setTop (mkF m 74 #[iv u0, iv u1, iv u2, .val (.long u3), .second, iv u4, .val (.long u5), .second, iv ((1 : Int32) + ((u0 &&& (255 : Int32)) % (3 : Int32))), iv ka, iv kb, .val .null, .unset, .unset, .unset, .unset, .unset, .unset] [(.int ((u0.toUInt32 >>> ((24 : Int32) &&& 31).toUInt32).toInt32)), (.int (0 : Int32)), (.ref b65), (.ref b65)])) _
        refine XS.i2b X65.here hx rfl (hb hby at_74) rfl ?_
        show Steps p.tables e below (T65.setTop (mkF m 75 #[iv u0, iv u1, iv u2, .val (.long u3), .second, iv u4, .val (.long u5), .second, iv ((1 : Int32) + ((u0 &&& (255 : Int32)) % (3 : Int32))), iv ka, iv kb, .val .null, .unset, .unset, .unset, .unset, .unset, .unset] [(.int (((u0.toUInt32 >>> ((24 : Int32) &&& 31).toUInt32).toInt32).toInt8.toInt32)), (.int (0 : Int32)), (.ref b65), (.ref b65)])) _
        refine st67 _ ?_
        show Steps p.tables e below (T67.setTop (mkF m 76 #[iv u0, iv u1, iv u2, .val (.long u3), .second, iv u4, .val (.long u5), .second, iv ((1 : Int32) + ((u0 &&& (255 : Int32)) % (3 : Int32))), iv ka, iv kb, .val .null, .unset, .unset, .unset, .unset, .unset, .unset] [(.ref b65)])) _
        refine XS.dup X67.here hx rfl (hb hby at_76) rfl rfl ?_
        show Steps p.tables e below (T67.setTop (mkF m 77 #[iv u0, iv u1, iv u2, .val (.long u3), .second, iv u4, .val (.long u5), .second, iv ((1 : Int32) + ((u0 &&& (255 : Int32)) % (3 : Int32))), iv ka, iv kb, .val .null, .unset, .unset, .unset, .unset, .unset, .unset] [(.ref b65), (.ref b65)])) _
        refine XS.iconst X67.here hx rfl (hb hby at_77) ?_
        show Steps p.tables e below (T67.setTop (mkF m 78 #[iv u0, iv u1, iv u2, .val (.long u3), .second, iv u4, .val (.long u5), .second, iv ((1 : Int32) + ((u0 &&& (255 : Int32)) % (3 : Int32))), iv ka, iv kb, .val .null, .unset, .unset, .unset, .unset, .unset, .unset] [(.int (1 : Int32)), (.ref b65), (.ref b65)])) _
        refine XS.iloadN X67.here hx rfl (hb hby at_78) rfl ?_
        show Steps p.tables e below (T67.setTop (mkF m 79 #[iv u0, iv u1, iv u2, .val (.long u3), .second, iv u4, .val (.long u5), .second, iv ((1 : Int32) + ((u0 &&& (255 : Int32)) % (3 : Int32))), iv ka, iv kb, .val .null, .unset, .unset, .unset, .unset, .unset, .unset] [(.int u0), (.int (1 : Int32)), (.ref b65), (.ref b65)])) _
        refine XS.i2b X67.here hx rfl (hb hby at_79) rfl ?_
        show Steps p.tables e below (T67.setTop (mkF m 80 #[iv u0, iv u1, iv u2, .val (.long u3), .second, iv u4, .val (.long u5), .second, iv ((1 : Int32) + ((u0 &&& (255 : Int32)) % (3 : Int32))), iv ka, iv kb, .val .null, .unset, .unset, .unset, .unset, .unset, .unset] [(.int (u0.toInt8.toInt32)), (.int (1 : Int32)), (.ref b65), (.ref b65)])) _
        refine st72 _ ?_
        show Steps p.tables e below (T72.setTop (mkF m 81 #[iv u0, iv u1, iv u2, .val (.long u3), .second, iv u4, .val (.long u5), .second, iv ((1 : Int32) + ((u0 &&& (255 : Int32)) % (3 : Int32))), iv ka, iv kb, .val .null, .unset, .unset, .unset, .unset, .unset, .unset] [(.ref b65)])) _
        refine XS.goto X72.here hx rfl (pc0 := 81) (pc' := 85) rfl (hb hby at_81) (by decide) (by decide) ?_
        show Steps p.tables e below (T72.setTop (mkF m 85 #[iv u0, iv u1, iv u2, .val (.long u3), .second, iv u4, .val (.long u5), .second, iv ((1 : Int32) + ((u0 &&& (255 : Int32)) % (3 : Int32))), iv ka, iv kb, .val .null, .unset, .unset, .unset, .unset, .unset, .unset] [(.ref b65)])) _
        refine XS.astore X72.here hx rfl (hb hby at_85) rfl rfl (l' := #[iv u0, iv u1, iv u2, .val (.long u3), .second, iv u4, .val (.long u5), .second, iv ((1 : Int32) + ((u0 &&& (255 : Int32)) % (3 : Int32))), iv ka, iv kb, .val .null, rv b65, .unset, .unset, .unset, .unset, .unset]) rfl ?_
        exact k
      rcases own_cap u0 with hcp | hcp | hcp
      · skip
        rw [hcp] at S76
        obtain ⟨T77, h77, X77, e77, E77, A77, D77, -, st77⟩ := newO X72 hx hZ hown (hw _ (List.mem_of_getElem? (i := 1) rfl)) (hw _ (List.mem_of_getElem? (i := 2) rfl)) (hw _ (List.mem_of_getElem? (i := 3) rfl)) e72 (g := (mkF m 87 #[iv u0, iv u1, iv u2, .val (.long u3), .second, iv u4, .val (.long u5), .second, iv (1 : Int32), iv ka, iv kb, .val .null, rv b65, .unset, .unset, .unset, .unset, .unset] [])) rfl (hb hby at_87) (by decide) (by decide)
        obtain ⟨b77, g77⟩ : ∃ z, z = h72.size := ⟨_, rfl⟩
        rw [← g77] at A77 D77 st77
        have ge_b77 : n0 ≤ b77 := Nat.le_trans Z72 (Nat.le_of_eq g77.symm)
        have ne_b65_b77 : b65 ≠ b77 := Nat.ne_of_lt (Nat.lt_of_lt_of_le (f75).lt (Nat.le_of_eq g77.symm))
        have f78 := f75.ext E77
        have F77_kinds : Fld Z h77 b77 "com/example/agouti/agouti/store/IndexBuilder$Notes" "kinds" "[B" .null := D77 (Or.inr (hw _ (List.mem_of_getElem? (i := 12) rfl))) (ty := (.array .byte)) (by decide)
        have F77_nodes : Fld Z h77 b77 "com/example/agouti/agouti/store/IndexBuilder$Notes" "nodes" "[I" .null := D77 (Or.inr (hw _ (List.mem_of_getElem? (i := 15) rfl))) (ty := (.array .int)) (by decide)
        have F77_values : Fld Z h77 b77 "com/example/agouti/agouti/store/IndexBuilder$Notes" "values" "[[B" .null := D77 (Or.inl (hw _ (List.mem_of_getElem? (i := 19) rfl))) (ty := (.array (.array .byte))) (by decide)
        have F77_hashes : Fld Z h77 b77 "com/example/agouti/agouti/store/IndexBuilder$Notes" "hashes" "[J" .null := D77 (Or.inr (hw _ (List.mem_of_getElem? (i := 22) rfl))) (ty := (.array .long)) (by decide)
        have F77_count : Fld Z h77 b77 "com/example/agouti/agouti/store/IndexBuilder$Notes" "count" "I" (.int (0 : Int32)) := D77 (Or.inl (hw _ (List.mem_of_getElem? (i := 29) rfl))) (ty := .int) (by decide)
        have Z77 : n0 ≤ h77.size := Nat.le_trans Z72 E77.1
        obtain ⟨_, _, ⟨T79, L79, k79, n79⟩, -, X79, ⟨Lc79, hQ79, l79, y79, z79⟩, st79⟩ := X77.specialBack hx (y := (⟨"com/example/agouti/agouti/store/IndexBuilder$Notes", "<init>", "(I)V"⟩ : MethodName)) rfl hown (mvT hZ (hw _ (List.mem_of_getElem? (i := 4) rfl))) (mvT hZ (hw _ (List.mem_of_getElem? (i := 5) rfl))) (mvT hZ (hw _ (List.mem_of_getElem? (i := 6) rfl))) (by decide) (backOf (W := 1) (rmI1 l Z a0 hw [] b77 h77 n0 Z77 A77 F77_count F77_kinds F77_nodes F77_values F77_hashes ge_b77) hZ (hw _ (List.mem_of_getElem? (i := 6) rfl)) (hw _ (List.mem_of_getElem? (i := 3) rfl)) (by decide) (by decide)) (g := (mkF m 93 #[iv u0, iv u1, iv u2, .val (.long u3), .second, iv u4, .val (.long u5), .second, iv (1 : Int32), iv ka, iv kb, .val .null, rv b65, .unset, .unset, .unset, .unset, .unset] [(.int (1 : Int32)), (.ref b77), (.ref b77)])) rfl (by rw [hml]; rfl) (Steps.refl _) (a := b77) (argsL := [(.int (1 : Int32))]) (rest := [(.ref b77)]) (lenOf pd_0 rfl) rfl (by show 2 * 0 + _ ≤ _; exact Nat.le_of_eq rfl) (hb hby at_93) (fun _ _ => ⟨rfl, e77, (by decide : 2 + 4 ≤ _), (by decide : 7 + 4 ≤ _)⟩)
        dsimp only [Pt.U, Pt.locs, Pt.cells, Pt.slots] at X79 l79 y79 z79 st79 hQ79
        subst y79 z79
        obtain ⟨rfl, Nq79, Zq79, Kq79, Bq79⟩ := hQ79
        have N79 : Fr n0 L79 := by rw [l79]; exact Fr.app N72 Nq79
        have f80 := f78.keep Kq79
        have f81 := A77.keep Kq79
        have oe79 := Bq79.1
        obtain ⟨cq87, kq87, q87a, q87b, q87c⟩ := isOf hZ rfl oe79
        obtain ⟨_, _, ⟨T87, L87, k87, n87⟩, -, X87, ⟨Lc87, hQ87, l87, y87, z87⟩, st87⟩ := X79.virtualBack hx (y := (⟨"com/example/agouti/agouti/store/IndexBuilder$Notes", "add", "(BI[BJ)Z"⟩ : MethodName)) (z := (⟨"com/example/agouti/agouti/store/IndexBuilder$Notes", "add", "(BI[BJ)Z"⟩ : MethodName)) hown (mvT hZ (hw _ (List.mem_of_getElem? (i := 23) rfl))) (mvT hZ (hw _ (List.mem_of_getElem? (i := 24) rfl))) (notFace_of_selects (args := #[]) (mvT hZ (hw _ (List.mem_of_getElem? (i := 26) rfl)))) (mvT hZ (hw _ (List.mem_of_getElem? (i := 26) rfl))) (mvT hZ (hw _ (List.mem_of_getElem? (i := 25) rfl))) (by decide) (backOf (W := 0) (rmAddN l Z a0 hw [] b77 ka u2 u3 (1 : Int32) (0 : Int32) [0] [0] [.null] [0] T79.heap n0 Zq79 Bq79 ge_b77 (by decide) (by decide) (by rw [e_ka]; exact own_nb _)) hZ (hw _ (List.mem_of_getElem? (i := 27) rfl)) (hw _ (List.mem_of_getElem? (i := 3) rfl)) (by decide) (by decide)) q87a q87c (g := (mkF m 106 #[iv u0, iv u1, iv u2, .val (.long u3), .second, iv u4, .val (.long u5), .second, iv (1 : Int32), iv ka, iv kb, .val .null, rv b65, rv b77, .unset, .unset, .unset, .unset] [(.long u3), .null, (.int u2), (.int ka), (.ref b77)])) rfl (by rw [hml]; rfl) (Steps.refl _) (argsL := [(.int ka), (.int u2), .null, (.long u3)]) (rest := []) (lenOf pd_1 rfl) rfl (by show 2 * 0 + _ ≤ _; exact Nat.le_of_eq rfl) (hb hby at_106) (fun _ _ => ⟨rfl, rfl, (by decide : 6 + 0 ≤ _), (by decide : 11 + 0 ≤ _)⟩)
        dsimp only [Pt.U, Pt.locs, Pt.cells, Pt.slots] at X87 l87 y87 z87 st87 hQ87
        subst y87 z87
        obtain ⟨rfl, Nq87, Zq87, Kx87, Bq87⟩ := hQ87
        have N87 : Fr n0 L87 := by rw [l87]; exact Fr.app N79 Nq87
        obtain ⟨wsq87, Kq87⟩ := Kx87
        have f88 := f80.keep Kq87
        have f89 := oe79.keep Kq87
        have B87 : own_N Z T87.heap n0 b77 (1 : Int32) (1 : Int32) [ka] [u2] [.null] [u3] := Bq87
        obtain ⟨cq90, kq90, q90a, q90b, q90c⟩ := isOf hZ rfl f89
        obtain ⟨_, _, ⟨T90, L90, k90, n90⟩, -, X90, ⟨Lc90, hQ90, l90, y90, z90⟩, st90⟩ := X87.virtualBack hx (y := (⟨"com/example/agouti/agouti/store/IndexBuilder$Notes", "count", "()I"⟩ : MethodName)) (z := (⟨"com/example/agouti/agouti/store/IndexBuilder$Notes", "count", "()I"⟩ : MethodName)) hown (mvT hZ (hw _ (List.mem_of_getElem? (i := 30) rfl))) (mvT hZ (hw _ (List.mem_of_getElem? (i := 31) rfl))) (notFace_of_selects (args := #[]) (mvT hZ (hw _ (List.mem_of_getElem? (i := 33) rfl)))) (mvT hZ (hw _ (List.mem_of_getElem? (i := 33) rfl))) (mvT hZ (hw _ (List.mem_of_getElem? (i := 32) rfl))) (by decide) (backOf (W := 0) (rmCount l Z a0 hw [] b77 (1 : Int32) (1 : Int32) [ka] [u2] [.null] [u3] T87.heap n0 Zq87 B87) hZ (hw _ (List.mem_of_getElem? (i := 34) rfl)) (hw _ (List.mem_of_getElem? (i := 3) rfl)) (by decide) (by decide)) q90a q90c (g := (mkF m 196 #[iv u0, iv u1, iv u2, .val (.long u3), .second, iv u4, .val (.long u5), .second, iv (1 : Int32), iv ka, iv kb, .val .null, rv b65, rv b77, iv (1 : Int32), iv (1 : Int32), iv (1 : Int32), .unset] [(.ref b77)])) rfl (by rw [hml]; rfl) (Steps.refl _) (argsL := []) (rest := []) (lenOf pd_2 rfl) rfl (by show 2 * 0 + _ ≤ _; exact Nat.le_of_eq rfl) (hb hby at_196) (fun _ _ => ⟨rfl, rfl, (by decide : 6 + 0 ≤ _), (by decide : 11 + 0 ≤ _)⟩)
        dsimp only [Pt.U, Pt.locs, Pt.cells, Pt.slots] at X90 l90 y90 z90 st90 hQ90
        subst y90 z90
        obtain ⟨rfl, Nq90, eq90⟩ := hQ90
        have N90 : Fr n0 L90 := by rw [l90]; exact Fr.app N87 Nq90
        obtain ⟨cq91, kq91, q91a, q91b, q91c⟩ := isOf hZ eq90 f89
        obtain ⟨_, _, ⟨T91, L91, k91, n91⟩, -, X91, ⟨Lc91, hQ91, l91, y91, z91⟩, st91⟩ := X90.virtualBack hx (y := (⟨"com/example/agouti/agouti/store/IndexBuilder$Notes", "kind", "(I)B"⟩ : MethodName)) (z := (⟨"com/example/agouti/agouti/store/IndexBuilder$Notes", "kind", "(I)B"⟩ : MethodName)) hown (mvT hZ (hw _ (List.mem_of_getElem? (i := 35) rfl))) (mvT hZ (hw _ (List.mem_of_getElem? (i := 36) rfl))) (notFace_of_selects (args := #[]) (mvT hZ (hw _ (List.mem_of_getElem? (i := 38) rfl)))) (mvT hZ (hw _ (List.mem_of_getElem? (i := 38) rfl))) (mvT hZ (hw _ (List.mem_of_getElem? (i := 37) rfl))) (by decide) (backOf (W := 0) (rmKind l Z a0 hw [] b77 (0 : Int32) (1 : Int32) (1 : Int32) [ka] [u2] [.null] [u3] ka T87.heap n0 Zq87 B87 (by decide) (by decide) rfl (by rw [e_ka]; exact own_nb _)) hZ (hw _ (List.mem_of_getElem? (i := 39) rfl)) (hw _ (List.mem_of_getElem? (i := 3) rfl)) (by decide) (by decide)) q91a q91c (g := (mkF m 219 #[iv u0, iv u1, iv u2, .val (.long u3), .second, iv u4, .val (.long u5), .second, iv (1 : Int32), iv ka, iv kb, .val .null, rv b65, rv b77, iv (1 : Int32), iv (1 : Int32), iv (1 : Int32), .unset] [(.int (0 : Int32)), (.ref b77)])) rfl (by rw [hml]; rfl) (Steps.refl _) (argsL := [(.int (0 : Int32))]) (rest := []) (lenOf pd_3 rfl) rfl (by show 2 * 0 + _ ≤ _; exact Nat.le_of_eq rfl) (hb hby at_219) (fun _ _ => ⟨rfl, eq90, (by decide : 6 + 0 ≤ _), (by decide : 11 + 0 ≤ _)⟩)
        dsimp only [Pt.U, Pt.locs, Pt.cells, Pt.slots] at X91 l91 y91 z91 st91 hQ91
        subst y91 z91
        obtain ⟨rfl, Nq91, eq91⟩ := hQ91
        have N91 : Fr n0 L91 := by rw [l91]; exact Fr.app N90 Nq91
        obtain ⟨cq92, kq92, q92a, q92b, q92c⟩ := isOf hZ eq91 f89
        obtain ⟨_, _, ⟨T92, L92, k92, n92⟩, -, X92, ⟨Lc92, hQ92, l92, y92, z92⟩, st92⟩ := X91.virtualBack hx (y := (⟨"com/example/agouti/agouti/store/IndexBuilder$Notes", "node", "(I)I"⟩ : MethodName)) (z := (⟨"com/example/agouti/agouti/store/IndexBuilder$Notes", "node", "(I)I"⟩ : MethodName)) hown (mvT hZ (hw _ (List.mem_of_getElem? (i := 40) rfl))) (mvT hZ (hw _ (List.mem_of_getElem? (i := 41) rfl))) (notFace_of_selects (args := #[]) (mvT hZ (hw _ (List.mem_of_getElem? (i := 43) rfl)))) (mvT hZ (hw _ (List.mem_of_getElem? (i := 43) rfl))) (mvT hZ (hw _ (List.mem_of_getElem? (i := 42) rfl))) (by decide) (backOf (W := 0) (rmNode l Z a0 hw [] b77 (0 : Int32) (1 : Int32) (1 : Int32) [ka] [u2] [.null] [u3] u2 T87.heap n0 Zq87 B87 (by decide) (by decide) rfl) hZ (hw _ (List.mem_of_getElem? (i := 44) rfl)) (hw _ (List.mem_of_getElem? (i := 3) rfl)) (by decide) (by decide)) q92a q92c (g := (mkF m 230 #[iv u0, iv u1, iv u2, .val (.long u3), .second, iv u4, .val (.long u5), .second, iv (1 : Int32), iv ka, iv kb, .val .null, rv b65, rv b77, iv (1 : Int32), iv (1 : Int32), iv (1 : Int32), .unset] [(.int (0 : Int32)), (.ref b77)])) rfl (by rw [hml]; rfl) (Steps.refl _) (argsL := [(.int (0 : Int32))]) (rest := []) (lenOf pd_4 rfl) rfl (by show 2 * 0 + _ ≤ _; exact Nat.le_of_eq rfl) (hb hby at_230) (fun _ _ => ⟨rfl, eq91, (by decide : 6 + 0 ≤ _), (by decide : 11 + 0 ≤ _)⟩)
        dsimp only [Pt.U, Pt.locs, Pt.cells, Pt.slots] at X92 l92 y92 z92 st92 hQ92
        subst y92 z92
        obtain ⟨rfl, Nq92, eq92⟩ := hQ92
        have N92 : Fr n0 L92 := by rw [l92]; exact Fr.app N91 Nq92
        obtain ⟨cq93, kq93, q93a, q93b, q93c⟩ := isOf hZ eq92 f89
        obtain ⟨_, _, ⟨T93, L93, k93, n93⟩, -, X93, ⟨Lc93, hQ93, l93, y93, z93⟩, st93⟩ := X92.virtualBack hx (y := (⟨"com/example/agouti/agouti/store/IndexBuilder$Notes", "value", "(I)[B"⟩ : MethodName)) (z := (⟨"com/example/agouti/agouti/store/IndexBuilder$Notes", "value", "(I)[B"⟩ : MethodName)) hown (mvT hZ (hw _ (List.mem_of_getElem? (i := 45) rfl))) (mvT hZ (hw _ (List.mem_of_getElem? (i := 46) rfl))) (notFace_of_selects (args := #[]) (mvT hZ (hw _ (List.mem_of_getElem? (i := 48) rfl)))) (mvT hZ (hw _ (List.mem_of_getElem? (i := 48) rfl))) (mvT hZ (hw _ (List.mem_of_getElem? (i := 47) rfl))) (by decide) (backOf (W := 0) (rmVal0 l Z a0 hw [] b77 (0 : Int32) (1 : Int32) (1 : Int32) [ka] [u2] [.null] [u3] T87.heap n0 Zq87 B87 (by decide) (by decide) rfl) hZ (hw _ (List.mem_of_getElem? (i := 49) rfl)) (hw _ (List.mem_of_getElem? (i := 3) rfl)) (by decide) (by decide)) q93a q93c (g := (mkF m 240 #[iv u0, iv u1, iv u2, .val (.long u3), .second, iv u4, .val (.long u5), .second, iv (1 : Int32), iv ka, iv kb, .val .null, rv b65, rv b77, iv (1 : Int32), iv (1 : Int32), iv (1 : Int32), .unset] [(.int (0 : Int32)), (.ref b77)])) rfl (by rw [hml]; rfl) (Steps.refl _) (argsL := [(.int (0 : Int32))]) (rest := []) (lenOf pd_5 rfl) rfl (by show 2 * 0 + _ ≤ _; exact Nat.le_of_eq rfl) (hb hby at_240) (fun _ _ => ⟨rfl, eq92, (by decide : 6 + 0 ≤ _), (by decide : 11 + 0 ≤ _)⟩)
        dsimp only [Pt.U, Pt.locs, Pt.cells, Pt.slots] at X93 l93 y93 z93 st93 hQ93
        subst y93 z93
        obtain ⟨rfl, Nq93, eq93⟩ := hQ93
        have N93 : Fr n0 L93 := by rw [l93]; exact Fr.app N92 Nq93
        obtain ⟨cq94, kq94, q94a, q94b, q94c⟩ := isOf hZ eq93 f89
        obtain ⟨_, _, ⟨T94, L94, k94, n94⟩, -, X94, ⟨Lc94, hQ94, l94, y94, z94⟩, st94⟩ := X93.virtualBack hx (y := (⟨"com/example/agouti/agouti/store/IndexBuilder$Notes", "hash", "(I)J"⟩ : MethodName)) (z := (⟨"com/example/agouti/agouti/store/IndexBuilder$Notes", "hash", "(I)J"⟩ : MethodName)) hown (mvT hZ (hw _ (List.mem_of_getElem? (i := 50) rfl))) (mvT hZ (hw _ (List.mem_of_getElem? (i := 51) rfl))) (notFace_of_selects (args := #[]) (mvT hZ (hw _ (List.mem_of_getElem? (i := 53) rfl)))) (mvT hZ (hw _ (List.mem_of_getElem? (i := 53) rfl))) (mvT hZ (hw _ (List.mem_of_getElem? (i := 52) rfl))) (by decide) (backOf (W := 0) (rmHash l Z a0 hw [] b77 (0 : Int32) (1 : Int32) (1 : Int32) [ka] [u2] [.null] [u3] u3 T87.heap n0 Zq87 B87 (by decide) (by decide) rfl) hZ (hw _ (List.mem_of_getElem? (i := 54) rfl)) (hw _ (List.mem_of_getElem? (i := 3) rfl)) (by decide) (by decide)) q94a q94c (g := (mkF m 251 #[iv u0, iv u1, iv u2, .val (.long u3), .second, iv u4, .val (.long u5), .second, iv (1 : Int32), iv ka, iv kb, .val .null, rv b65, rv b77, iv (1 : Int32), iv (1 : Int32), iv (1 : Int32), .unset] [(.int (0 : Int32)), (.ref b77)])) rfl (by rw [hml]; rfl) (Steps.refl _) (argsL := [(.int (0 : Int32))]) (rest := []) (lenOf pd_6 rfl) rfl (by show 2 * 0 + _ ≤ _; exact Nat.le_of_eq rfl) (hb hby at_251) (fun _ _ => ⟨rfl, eq93, (by decide : 6 + 0 ≤ _), (by decide : 11 + 0 ≤ _)⟩)
        dsimp only [Pt.U, Pt.locs, Pt.cells, Pt.slots] at X94 l94 y94 z94 st94 hQ94
        subst y94 z94
        obtain ⟨rfl, Nq94, eq94⟩ := hQ94
        have N94 : Fr n0 L94 := by rw [l94]; exact Fr.app N93 Nq94
        obtain ⟨fs, hr, hrun, hended, hW, hsame⟩ := X94.leave (v := some (.int (1 : Int32))) (fun h => by rw [Bd.returns] at h; cases h)
        refine ⟨_, _, S76 _ ?_, hrun, hended, _, _, rfl, ?_, ⟨_, rfl⟩, hW, hsame.mono (by decide) (by decide)⟩
        · skip
          show Steps p.tables e below (T72.setTop (mkF m 87 #[iv u0, iv u1, iv u2, .val (.long u3), .second, iv u4, .val (.long u5), .second, iv (1 : Int32), iv ka, iv kb, .val .null, rv b65, .unset, .unset, .unset, .unset, .unset] [])) _
          refine st77 _ ?_
          show Steps p.tables e below (T77.setTop (mkF m 90 #[iv u0, iv u1, iv u2, .val (.long u3), .second, iv u4, .val (.long u5), .second, iv (1 : Int32), iv ka, iv kb, .val .null, rv b65, .unset, .unset, .unset, .unset, .unset] [(.ref b77)])) _
          refine XS.dup X77.here hx rfl (hb hby at_90) rfl rfl ?_
          show Steps p.tables e below (T77.setTop (mkF m 91 #[iv u0, iv u1, iv u2, .val (.long u3), .second, iv u4, .val (.long u5), .second, iv (1 : Int32), iv ka, iv kb, .val .null, rv b65, .unset, .unset, .unset, .unset, .unset] [(.ref b77), (.ref b77)])) _
          refine XS.iload X77.here hx rfl (hb hby at_91) rfl ?_
          show Steps p.tables e below (T77.setTop (mkF m 93 #[iv u0, iv u1, iv u2, .val (.long u3), .second, iv u4, .val (.long u5), .second, iv (1 : Int32), iv ka, iv kb, .val .null, rv b65, .unset, .unset, .unset, .unset, .unset] [(.int (1 : Int32)), (.ref b77), (.ref b77)])) _
          refine st79.trans ?_
          show Steps p.tables e below (T79.setTop (mkF m 96 #[iv u0, iv u1, iv u2, .val (.long u3), .second, iv u4, .val (.long u5), .second, iv (1 : Int32), iv ka, iv kb, .val .null, rv b65, .unset, .unset, .unset, .unset, .unset] [(.ref b77)])) _
          refine XS.astore X79.here hx rfl (hb hby at_96) rfl rfl (l' := #[iv u0, iv u1, iv u2, .val (.long u3), .second, iv u4, .val (.long u5), .second, iv (1 : Int32), iv ka, iv kb, .val .null, rv b65, rv b77, .unset, .unset, .unset, .unset]) rfl ?_
          show Steps p.tables e below (T79.setTop (mkF m 98 #[iv u0, iv u1, iv u2, .val (.long u3), .second, iv u4, .val (.long u5), .second, iv (1 : Int32), iv ka, iv kb, .val .null, rv b65, rv b77, .unset, .unset, .unset, .unset] [])) _
          refine XS.aload X79.here hx rfl (hb hby at_98) rfl rfl ?_
          show Steps p.tables e below (T79.setTop (mkF m 100 #[iv u0, iv u1, iv u2, .val (.long u3), .second, iv u4, .val (.long u5), .second, iv (1 : Int32), iv ka, iv kb, .val .null, rv b65, rv b77, .unset, .unset, .unset, .unset] [(.ref b77)])) _
          refine XS.iload X79.here hx rfl (hb hby at_100) rfl ?_
          show Steps p.tables e below (T79.setTop (mkF m 102 #[iv u0, iv u1, iv u2, .val (.long u3), .second, iv u4, .val (.long u5), .second, iv (1 : Int32), iv ka, iv kb, .val .null, rv b65, rv b77, .unset, .unset, .unset, .unset] [(.int ka), (.ref b77)])) _
          refine XS.iloadN X79.here hx rfl (hb hby at_102) rfl ?_
          show Steps p.tables e below (T79.setTop (mkF m 103 #[iv u0, iv u1, iv u2, .val (.long u3), .second, iv u4, .val (.long u5), .second, iv (1 : Int32), iv ka, iv kb, .val .null, rv b65, rv b77, .unset, .unset, .unset, .unset] [(.int u2), (.int ka), (.ref b77)])) _
          refine XS.aload X79.here hx rfl (hb hby at_103) rfl rfl ?_
          show Steps p.tables e below (T79.setTop (mkF m 105 #[iv u0, iv u1, iv u2, .val (.long u3), .second, iv u4, .val (.long u5), .second, iv (1 : Int32), iv ka, iv kb, .val .null, rv b65, rv b77, .unset, .unset, .unset, .unset] [.null, (.int u2), (.int ka), (.ref b77)])) _
          refine XS.lloadN X79.here hx rfl (hb hby at_105) rfl ?_
          show Steps p.tables e below (T79.setTop (mkF m 106 #[iv u0, iv u1, iv u2, .val (.long u3), .second, iv u4, .val (.long u5), .second, iv (1 : Int32), iv ka, iv kb, .val .null, rv b65, rv b77, .unset, .unset, .unset, .unset] [(.long u3), .null, (.int u2), (.int ka), (.ref b77)])) _
          refine st87.trans ?_
          show Steps p.tables e below (T87.setTop (mkF m 109 #[iv u0, iv u1, iv u2, .val (.long u3), .second, iv u4, .val (.long u5), .second, iv (1 : Int32), iv ka, iv kb, .val .null, rv b65, rv b77, .unset, .unset, .unset, .unset] [(.int (1 : Int32))])) _
          refine XS.istore X87.here hx rfl (hb hby at_109) rfl (l' := #[iv u0, iv u1, iv u2, .val (.long u3), .second, iv u4, .val (.long u5), .second, iv (1 : Int32), iv ka, iv kb, .val .null, rv b65, rv b77, iv (1 : Int32), .unset, .unset, .unset]) rfl ?_
          show Steps p.tables e below (T87.setTop (mkF m 111 #[iv u0, iv u1, iv u2, .val (.long u3), .second, iv u4, .val (.long u5), .second, iv (1 : Int32), iv ka, iv kb, .val .null, rv b65, rv b77, iv (1 : Int32), .unset, .unset, .unset] [])) _
          refine XS.iload X87.here hx rfl (hb hby at_111) rfl ?_
          show Steps p.tables e below (T87.setTop (mkF m 113 #[iv u0, iv u1, iv u2, .val (.long u3), .second, iv u4, .val (.long u5), .second, iv (1 : Int32), iv ka, iv kb, .val .null, rv b65, rv b77, iv (1 : Int32), .unset, .unset, .unset] [(.int (1 : Int32))])) _
          refine XS.iload X87.here hx rfl (hb hby at_113) rfl ?_
          show Steps p.tables e below (T87.setTop (mkF m 115 #[iv u0, iv u1, iv u2, .val (.long u3), .second, iv u4, .val (.long u5), .second, iv (1 : Int32), iv ka, iv kb, .val .null, rv b65, rv b77, iv (1 : Int32), .unset, .unset, .unset] [(.int (1 : Int32)), (.int (1 : Int32))])) _
          refine XS.iconst X87.here hx rfl (hb hby at_115) ?_
          show Steps p.tables e below (T87.setTop (mkF m 116 #[iv u0, iv u1, iv u2, .val (.long u3), .second, iv u4, .val (.long u5), .second, iv (1 : Int32), iv ka, iv kb, .val .null, rv b65, rv b77, iv (1 : Int32), .unset, .unset, .unset] [(.int (1 : Int32)), (.int (1 : Int32)), (.int (1 : Int32))])) _
          refine XS.icmpNo X87.here hx rfl (hb hby at_116) rfl (teq (by decide : (1 : Int32) = (1 : Int32))).2 ?_
          show Steps p.tables e below (T87.setTop (mkF m 119 #[iv u0, iv u1, iv u2, .val (.long u3), .second, iv u4, .val (.long u5), .second, iv (1 : Int32), iv ka, iv kb, .val .null, rv b65, rv b77, iv (1 : Int32), .unset, .unset, .unset] [(.int (1 : Int32))])) _
          refine XS.iconst X87.here hx rfl (hb hby at_119) ?_
          show Steps p.tables e below (T87.setTop (mkF m 120 #[iv u0, iv u1, iv u2, .val (.long u3), .second, iv u4, .val (.long u5), .second, iv (1 : Int32), iv ka, iv kb, .val .null, rv b65, rv b77, iv (1 : Int32), .unset, .unset, .unset] [(.int (1 : Int32)), (.int (1 : Int32))])) _
          refine XS.goto X87.here hx rfl (pc0 := 120) (pc' := 124) rfl (hb hby at_120) (by decide) (by decide) ?_
          show Steps p.tables e below (T87.setTop (mkF m 124 #[iv u0, iv u1, iv u2, .val (.long u3), .second, iv u4, .val (.long u5), .second, iv (1 : Int32), iv ka, iv kb, .val .null, rv b65, rv b77, iv (1 : Int32), .unset, .unset, .unset] [(.int (1 : Int32)), (.int (1 : Int32))])) _
          refine XS.icmpNo X87.here hx rfl (hb hby at_124) rfl (teq (by decide : (1 : Int32) = (1 : Int32))).2 ?_
          show Steps p.tables e below (T87.setTop (mkF m 127 #[iv u0, iv u1, iv u2, .val (.long u3), .second, iv u4, .val (.long u5), .second, iv (1 : Int32), iv ka, iv kb, .val .null, rv b65, rv b77, iv (1 : Int32), .unset, .unset, .unset] [])) _
          refine XS.iconst X87.here hx rfl (hb hby at_127) ?_
          show Steps p.tables e below (T87.setTop (mkF m 128 #[iv u0, iv u1, iv u2, .val (.long u3), .second, iv u4, .val (.long u5), .second, iv (1 : Int32), iv ka, iv kb, .val .null, rv b65, rv b77, iv (1 : Int32), .unset, .unset, .unset] [(.int (1 : Int32))])) _
          refine XS.goto X87.here hx rfl (pc0 := 128) (pc' := 132) rfl (hb hby at_128) (by decide) (by decide) ?_
          show Steps p.tables e below (T87.setTop (mkF m 132 #[iv u0, iv u1, iv u2, .val (.long u3), .second, iv u4, .val (.long u5), .second, iv (1 : Int32), iv ka, iv kb, .val .null, rv b65, rv b77, iv (1 : Int32), .unset, .unset, .unset] [(.int (1 : Int32))])) _
          refine XS.istore X87.here hx rfl (hb hby at_132) rfl (l' := #[iv u0, iv u1, iv u2, .val (.long u3), .second, iv u4, .val (.long u5), .second, iv (1 : Int32), iv ka, iv kb, .val .null, rv b65, rv b77, iv (1 : Int32), iv (1 : Int32), .unset, .unset]) rfl ?_
          show Steps p.tables e below (T87.setTop (mkF m 134 #[iv u0, iv u1, iv u2, .val (.long u3), .second, iv u4, .val (.long u5), .second, iv (1 : Int32), iv ka, iv kb, .val .null, rv b65, rv b77, iv (1 : Int32), iv (1 : Int32), .unset, .unset] [])) _
          refine XS.iconst X87.here hx rfl (hb hby at_134) ?_
          show Steps p.tables e below (T87.setTop (mkF m 135 #[iv u0, iv u1, iv u2, .val (.long u3), .second, iv u4, .val (.long u5), .second, iv (1 : Int32), iv ka, iv kb, .val .null, rv b65, rv b77, iv (1 : Int32), iv (1 : Int32), .unset, .unset] [(.int (1 : Int32))])) _
          refine XS.istore X87.here hx rfl (hb hby at_135) rfl (l' := #[iv u0, iv u1, iv u2, .val (.long u3), .second, iv u4, .val (.long u5), .second, iv (1 : Int32), iv ka, iv kb, .val .null, rv b65, rv b77, iv (1 : Int32), iv (1 : Int32), iv (1 : Int32), .unset]) rfl ?_
          show Steps p.tables e below (T87.setTop (mkF m 137 #[iv u0, iv u1, iv u2, .val (.long u3), .second, iv u4, .val (.long u5), .second, iv (1 : Int32), iv ka, iv kb, .val .null, rv b65, rv b77, iv (1 : Int32), iv (1 : Int32), iv (1 : Int32), .unset] [])) _
          refine XS.iload X87.here hx rfl (hb hby at_137) rfl ?_
          show Steps p.tables e below (T87.setTop (mkF m 139 #[iv u0, iv u1, iv u2, .val (.long u3), .second, iv u4, .val (.long u5), .second, iv (1 : Int32), iv ka, iv kb, .val .null, rv b65, rv b77, iv (1 : Int32), iv (1 : Int32), iv (1 : Int32), .unset] [(.int (1 : Int32))])) _
          refine XS.iconst X87.here hx rfl (hb hby at_139) ?_
          show Steps p.tables e below (T87.setTop (mkF m 140 #[iv u0, iv u1, iv u2, .val (.long u3), .second, iv u4, .val (.long u5), .second, iv (1 : Int32), iv ka, iv kb, .val .null, rv b65, rv b77, iv (1 : Int32), iv (1 : Int32), iv (1 : Int32), .unset] [(.int (2 : Int32)), (.int (1 : Int32))])) _
          refine XS.icmpYes X87.here hx rfl (pc0 := 140) (pc' := 189) rfl (hb hby at_140) rfl (tlt (by decide : (1 : Int32) < (2 : Int32))).1 (by decide) (by decide) ?_
          show Steps p.tables e below (T87.setTop (mkF m 189 #[iv u0, iv u1, iv u2, .val (.long u3), .second, iv u4, .val (.long u5), .second, iv (1 : Int32), iv ka, iv kb, .val .null, rv b65, rv b77, iv (1 : Int32), iv (1 : Int32), iv (1 : Int32), .unset] [])) _
          refine XS.iload X87.here hx rfl (hb hby at_189) rfl ?_
          show Steps p.tables e below (T87.setTop (mkF m 191 #[iv u0, iv u1, iv u2, .val (.long u3), .second, iv u4, .val (.long u5), .second, iv (1 : Int32), iv ka, iv kb, .val .null, rv b65, rv b77, iv (1 : Int32), iv (1 : Int32), iv (1 : Int32), .unset] [(.int (1 : Int32))])) _
          refine XS.ifNo X87.here hx rfl (hb hby at_191) rfl ((if0 _ _).trans (feq (by decide : ¬ ((1 : Int32) = (0 : Int32)))).1) ?_
          show Steps p.tables e below (T87.setTop (mkF m 194 #[iv u0, iv u1, iv u2, .val (.long u3), .second, iv u4, .val (.long u5), .second, iv (1 : Int32), iv ka, iv kb, .val .null, rv b65, rv b77, iv (1 : Int32), iv (1 : Int32), iv (1 : Int32), .unset] [])) _
          refine XS.aload X87.here hx rfl (hb hby at_194) rfl rfl ?_
          show Steps p.tables e below (T87.setTop (mkF m 196 #[iv u0, iv u1, iv u2, .val (.long u3), .second, iv u4, .val (.long u5), .second, iv (1 : Int32), iv ka, iv kb, .val .null, rv b65, rv b77, iv (1 : Int32), iv (1 : Int32), iv (1 : Int32), .unset] [(.ref b77)])) _
          refine st90.trans ?_
          show Steps p.tables e below (T90.setTop (mkF m 199 #[iv u0, iv u1, iv u2, .val (.long u3), .second, iv u4, .val (.long u5), .second, iv (1 : Int32), iv ka, iv kb, .val .null, rv b65, rv b77, iv (1 : Int32), iv (1 : Int32), iv (1 : Int32), .unset] [(.int (1 : Int32))])) _
          refine XS.iload X90.here hx rfl (hb hby at_199) rfl ?_
          show Steps p.tables e below (T90.setTop (mkF m 201 #[iv u0, iv u1, iv u2, .val (.long u3), .second, iv u4, .val (.long u5), .second, iv (1 : Int32), iv ka, iv kb, .val .null, rv b65, rv b77, iv (1 : Int32), iv (1 : Int32), iv (1 : Int32), .unset] [(.int (1 : Int32)), (.int (1 : Int32))])) _
          refine XS.icmpNo X90.here hx rfl (hb hby at_201) rfl (teq (by decide : (1 : Int32) = (1 : Int32))).2 ?_
          show Steps p.tables e below (T90.setTop (mkF m 204 #[iv u0, iv u1, iv u2, .val (.long u3), .second, iv u4, .val (.long u5), .second, iv (1 : Int32), iv ka, iv kb, .val .null, rv b65, rv b77, iv (1 : Int32), iv (1 : Int32), iv (1 : Int32), .unset] [])) _
          refine XS.iconst X90.here hx rfl (hb hby at_204) ?_
          show Steps p.tables e below (T90.setTop (mkF m 205 #[iv u0, iv u1, iv u2, .val (.long u3), .second, iv u4, .val (.long u5), .second, iv (1 : Int32), iv ka, iv kb, .val .null, rv b65, rv b77, iv (1 : Int32), iv (1 : Int32), iv (1 : Int32), .unset] [(.int (1 : Int32))])) _
          refine XS.goto X90.here hx rfl (pc0 := 205) (pc' := 209) rfl (hb hby at_205) (by decide) (by decide) ?_
          show Steps p.tables e below (T90.setTop (mkF m 209 #[iv u0, iv u1, iv u2, .val (.long u3), .second, iv u4, .val (.long u5), .second, iv (1 : Int32), iv ka, iv kb, .val .null, rv b65, rv b77, iv (1 : Int32), iv (1 : Int32), iv (1 : Int32), .unset] [(.int (1 : Int32))])) _
          refine XS.istore X90.here hx rfl (hb hby at_209) rfl (l' := #[iv u0, iv u1, iv u2, .val (.long u3), .second, iv u4, .val (.long u5), .second, iv (1 : Int32), iv ka, iv kb, .val .null, rv b65, rv b77, iv (1 : Int32), iv (1 : Int32), iv (1 : Int32), .unset]) rfl ?_
          show Steps p.tables e below (T90.setTop (mkF m 211 #[iv u0, iv u1, iv u2, .val (.long u3), .second, iv u4, .val (.long u5), .second, iv (1 : Int32), iv ka, iv kb, .val .null, rv b65, rv b77, iv (1 : Int32), iv (1 : Int32), iv (1 : Int32), .unset] [])) _
          refine XS.iload X90.here hx rfl (hb hby at_211) rfl ?_
          show Steps p.tables e below (T90.setTop (mkF m 213 #[iv u0, iv u1, iv u2, .val (.long u3), .second, iv u4, .val (.long u5), .second, iv (1 : Int32), iv ka, iv kb, .val .null, rv b65, rv b77, iv (1 : Int32), iv (1 : Int32), iv (1 : Int32), .unset] [(.int (1 : Int32))])) _
          refine XS.ifNo X90.here hx rfl (hb hby at_213) rfl ((if0 _ _).trans (feq (by decide : ¬ ((1 : Int32) = (0 : Int32)))).1) ?_
          show Steps p.tables e below (T90.setTop (mkF m 216 #[iv u0, iv u1, iv u2, .val (.long u3), .second, iv u4, .val (.long u5), .second, iv (1 : Int32), iv ka, iv kb, .val .null, rv b65, rv b77, iv (1 : Int32), iv (1 : Int32), iv (1 : Int32), .unset] [])) _
          refine XS.aload X90.here hx rfl (hb hby at_216) rfl rfl ?_
          show Steps p.tables e below (T90.setTop (mkF m 218 #[iv u0, iv u1, iv u2, .val (.long u3), .second, iv u4, .val (.long u5), .second, iv (1 : Int32), iv ka, iv kb, .val .null, rv b65, rv b77, iv (1 : Int32), iv (1 : Int32), iv (1 : Int32), .unset] [(.ref b77)])) _
          refine XS.iconst X90.here hx rfl (hb hby at_218) ?_
          show Steps p.tables e below (T90.setTop (mkF m 219 #[iv u0, iv u1, iv u2, .val (.long u3), .second, iv u4, .val (.long u5), .second, iv (1 : Int32), iv ka, iv kb, .val .null, rv b65, rv b77, iv (1 : Int32), iv (1 : Int32), iv (1 : Int32), .unset] [(.int (0 : Int32)), (.ref b77)])) _
          refine st91.trans ?_
          show Steps p.tables e below (T91.setTop (mkF m 222 #[iv u0, iv u1, iv u2, .val (.long u3), .second, iv u4, .val (.long u5), .second, iv (1 : Int32), iv ka, iv kb, .val .null, rv b65, rv b77, iv (1 : Int32), iv (1 : Int32), iv (1 : Int32), .unset] [(.int ka)])) _
          refine XS.iload X91.here hx rfl (hb hby at_222) rfl ?_
          show Steps p.tables e below (T91.setTop (mkF m 224 #[iv u0, iv u1, iv u2, .val (.long u3), .second, iv u4, .val (.long u5), .second, iv (1 : Int32), iv ka, iv kb, .val .null, rv b65, rv b77, iv (1 : Int32), iv (1 : Int32), iv (1 : Int32), .unset] [(.int ka), (.int ka)])) _
          refine XS.icmpNo X91.here hx rfl (hb hby at_224) rfl (teq rfl).2 ?_
          show Steps p.tables e below (T91.setTop (mkF m 227 #[iv u0, iv u1, iv u2, .val (.long u3), .second, iv u4, .val (.long u5), .second, iv (1 : Int32), iv ka, iv kb, .val .null, rv b65, rv b77, iv (1 : Int32), iv (1 : Int32), iv (1 : Int32), .unset] [])) _
          refine XS.aload X91.here hx rfl (hb hby at_227) rfl rfl ?_
          show Steps p.tables e below (T91.setTop (mkF m 229 #[iv u0, iv u1, iv u2, .val (.long u3), .second, iv u4, .val (.long u5), .second, iv (1 : Int32), iv ka, iv kb, .val .null, rv b65, rv b77, iv (1 : Int32), iv (1 : Int32), iv (1 : Int32), .unset] [(.ref b77)])) _
          refine XS.iconst X91.here hx rfl (hb hby at_229) ?_
          show Steps p.tables e below (T91.setTop (mkF m 230 #[iv u0, iv u1, iv u2, .val (.long u3), .second, iv u4, .val (.long u5), .second, iv (1 : Int32), iv ka, iv kb, .val .null, rv b65, rv b77, iv (1 : Int32), iv (1 : Int32), iv (1 : Int32), .unset] [(.int (0 : Int32)), (.ref b77)])) _
          refine st92.trans ?_
          show Steps p.tables e below (T92.setTop (mkF m 233 #[iv u0, iv u1, iv u2, .val (.long u3), .second, iv u4, .val (.long u5), .second, iv (1 : Int32), iv ka, iv kb, .val .null, rv b65, rv b77, iv (1 : Int32), iv (1 : Int32), iv (1 : Int32), .unset] [(.int u2)])) _
          refine XS.iloadN X92.here hx rfl (hb hby at_233) rfl ?_
          show Steps p.tables e below (T92.setTop (mkF m 234 #[iv u0, iv u1, iv u2, .val (.long u3), .second, iv u4, .val (.long u5), .second, iv (1 : Int32), iv ka, iv kb, .val .null, rv b65, rv b77, iv (1 : Int32), iv (1 : Int32), iv (1 : Int32), .unset] [(.int u2), (.int u2)])) _
          refine XS.icmpNo X92.here hx rfl (hb hby at_234) rfl (teq rfl).2 ?_
          show Steps p.tables e below (T92.setTop (mkF m 237 #[iv u0, iv u1, iv u2, .val (.long u3), .second, iv u4, .val (.long u5), .second, iv (1 : Int32), iv ka, iv kb, .val .null, rv b65, rv b77, iv (1 : Int32), iv (1 : Int32), iv (1 : Int32), .unset] [])) _
          refine XS.aload X92.here hx rfl (hb hby at_237) rfl rfl ?_
          show Steps p.tables e below (T92.setTop (mkF m 239 #[iv u0, iv u1, iv u2, .val (.long u3), .second, iv u4, .val (.long u5), .second, iv (1 : Int32), iv ka, iv kb, .val .null, rv b65, rv b77, iv (1 : Int32), iv (1 : Int32), iv (1 : Int32), .unset] [(.ref b77)])) _
          refine XS.iconst X92.here hx rfl (hb hby at_239) ?_
          show Steps p.tables e below (T92.setTop (mkF m 240 #[iv u0, iv u1, iv u2, .val (.long u3), .second, iv u4, .val (.long u5), .second, iv (1 : Int32), iv ka, iv kb, .val .null, rv b65, rv b77, iv (1 : Int32), iv (1 : Int32), iv (1 : Int32), .unset] [(.int (0 : Int32)), (.ref b77)])) _
          refine st93.trans ?_
          show Steps p.tables e below (T93.setTop (mkF m 243 #[iv u0, iv u1, iv u2, .val (.long u3), .second, iv u4, .val (.long u5), .second, iv (1 : Int32), iv ka, iv kb, .val .null, rv b65, rv b77, iv (1 : Int32), iv (1 : Int32), iv (1 : Int32), .unset] [.null])) _
          refine XS.aload X93.here hx rfl (hb hby at_243) rfl rfl ?_
          show Steps p.tables e below (T93.setTop (mkF m 245 #[iv u0, iv u1, iv u2, .val (.long u3), .second, iv u4, .val (.long u5), .second, iv (1 : Int32), iv ka, iv kb, .val .null, rv b65, rv b77, iv (1 : Int32), iv (1 : Int32), iv (1 : Int32), .unset] [.null, .null])) _
          refine Jvm.RoadKit.acmp (g := (mkF m 245 #[iv u0, iv u1, iv u2, .val (.long u3), .second, iv u4, .val (.long u5), .second, iv (1 : Int32), iv ka, iv kb, .val .null, rv b65, rv b77, iv (1 : Int32), iv (1 : Int32), iv (1 : Int32), .unset] [.null, .null])) X93 hx rfl rfl rfl (pc0 := 245) (pc' := 248) (same := true) rfl (hb hby at_245) rfl (decide_eq_true rfl) (by decide) (by decide) ?_
          show Steps p.tables e below (T93.setTop (mkF m 248 #[iv u0, iv u1, iv u2, .val (.long u3), .second, iv u4, .val (.long u5), .second, iv (1 : Int32), iv ka, iv kb, .val .null, rv b65, rv b77, iv (1 : Int32), iv (1 : Int32), iv (1 : Int32), .unset] [])) _
          refine XS.aload X93.here hx rfl (hb hby at_248) rfl rfl ?_
          show Steps p.tables e below (T93.setTop (mkF m 250 #[iv u0, iv u1, iv u2, .val (.long u3), .second, iv u4, .val (.long u5), .second, iv (1 : Int32), iv ka, iv kb, .val .null, rv b65, rv b77, iv (1 : Int32), iv (1 : Int32), iv (1 : Int32), .unset] [(.ref b77)])) _
          refine XS.iconst X93.here hx rfl (hb hby at_250) ?_
          show Steps p.tables e below (T93.setTop (mkF m 251 #[iv u0, iv u1, iv u2, .val (.long u3), .second, iv u4, .val (.long u5), .second, iv (1 : Int32), iv ka, iv kb, .val .null, rv b65, rv b77, iv (1 : Int32), iv (1 : Int32), iv (1 : Int32), .unset] [(.int (0 : Int32)), (.ref b77)])) _
          refine st94.trans ?_
          show Steps p.tables e below (T94.setTop (mkF m 254 #[iv u0, iv u1, iv u2, .val (.long u3), .second, iv u4, .val (.long u5), .second, iv (1 : Int32), iv ka, iv kb, .val .null, rv b65, rv b77, iv (1 : Int32), iv (1 : Int32), iv (1 : Int32), .unset] [(.long u3)])) _
          refine XS.lloadN X94.here hx rfl (hb hby at_254) rfl ?_
          show Steps p.tables e below (T94.setTop (mkF m 255 #[iv u0, iv u1, iv u2, .val (.long u3), .second, iv u4, .val (.long u5), .second, iv (1 : Int32), iv ka, iv kb, .val .null, rv b65, rv b77, iv (1 : Int32), iv (1 : Int32), iv (1 : Int32), .unset] [(.long u3), (.long u3)])) _
          refine XS.lcmp X94.here hx rfl (hb hby at_255) rfl ?_
          show Steps p.tables e below (T94.setTop (mkF m 256 #[iv u0, iv u1, iv u2, .val (.long u3), .second, iv u4, .val (.long u5), .second, iv (1 : Int32), iv ka, iv kb, .val .null, rv b65, rv b77, iv (1 : Int32), iv (1 : Int32), iv (1 : Int32), .unset] [(.int (lcmpW u3 u3))])) _
          refine XS.ifNo X94.here hx rfl (hb hby at_256) rfl ((if0 _ _).trans (teq ((lw_eq _ _).mpr rfl)).2) ?_
          show Steps p.tables e below (T94.setTop (mkF m 259 #[iv u0, iv u1, iv u2, .val (.long u3), .second, iv u4, .val (.long u5), .second, iv (1 : Int32), iv ka, iv kb, .val .null, rv b65, rv b77, iv (1 : Int32), iv (1 : Int32), iv (1 : Int32), .unset] [])) _
          refine XS.iconst X94.here hx rfl (hb hby at_259) ?_
          show Steps p.tables e below (T94.setTop (mkF m 260 #[iv u0, iv u1, iv u2, .val (.long u3), .second, iv u4, .val (.long u5), .second, iv (1 : Int32), iv ka, iv kb, .val .null, rv b65, rv b77, iv (1 : Int32), iv (1 : Int32), iv (1 : Int32), .unset] [(.int (1 : Int32))])) _
          refine XS.goto X94.here hx rfl (pc0 := 260) (pc' := 264) rfl (hb hby at_260) (by decide) (by decide) ?_
          show Steps p.tables e below (T94.setTop (mkF m 264 #[iv u0, iv u1, iv u2, .val (.long u3), .second, iv u4, .val (.long u5), .second, iv (1 : Int32), iv ka, iv kb, .val .null, rv b65, rv b77, iv (1 : Int32), iv (1 : Int32), iv (1 : Int32), .unset] [(.int (1 : Int32))])) _
          refine XS.istore X94.here hx rfl (hb hby at_264) rfl (l' := #[iv u0, iv u1, iv u2, .val (.long u3), .second, iv u4, .val (.long u5), .second, iv (1 : Int32), iv ka, iv kb, .val .null, rv b65, rv b77, iv (1 : Int32), iv (1 : Int32), iv (1 : Int32), .unset]) rfl ?_
          show Steps p.tables e below (T94.setTop (mkF m 266 #[iv u0, iv u1, iv u2, .val (.long u3), .second, iv u4, .val (.long u5), .second, iv (1 : Int32), iv ka, iv kb, .val .null, rv b65, rv b77, iv (1 : Int32), iv (1 : Int32), iv (1 : Int32), .unset] [])) _
          refine XS.iload X94.here hx rfl (hb hby at_266) rfl ?_
          show Steps p.tables e below (T94.setTop (mkF m 268 #[iv u0, iv u1, iv u2, .val (.long u3), .second, iv u4, .val (.long u5), .second, iv (1 : Int32), iv ka, iv kb, .val .null, rv b65, rv b77, iv (1 : Int32), iv (1 : Int32), iv (1 : Int32), .unset] [(.int (1 : Int32))])) _
          refine XS.iconst X94.here hx rfl (hb hby at_268) ?_
          show Steps p.tables e below (T94.setTop (mkF m 269 #[iv u0, iv u1, iv u2, .val (.long u3), .second, iv u4, .val (.long u5), .second, iv (1 : Int32), iv ka, iv kb, .val .null, rv b65, rv b77, iv (1 : Int32), iv (1 : Int32), iv (1 : Int32), .unset] [(.int (2 : Int32)), (.int (1 : Int32))])) _
          refine XS.icmpYes X94.here hx rfl (pc0 := 269) (pc' := 329) rfl (hb hby at_269) rfl (tlt (by decide : (1 : Int32) < (2 : Int32))).1 (by decide) (by decide) ?_
          show Steps p.tables e below (T94.setTop (mkF m 329 #[iv u0, iv u1, iv u2, .val (.long u3), .second, iv u4, .val (.long u5), .second, iv (1 : Int32), iv ka, iv kb, .val .null, rv b65, rv b77, iv (1 : Int32), iv (1 : Int32), iv (1 : Int32), .unset] [])) _
          refine XS.iload X94.here hx rfl (hb hby at_329) rfl ?_
          show Steps p.tables e below (T94.setTop (mkF m 331 #[iv u0, iv u1, iv u2, .val (.long u3), .second, iv u4, .val (.long u5), .second, iv (1 : Int32), iv ka, iv kb, .val .null, rv b65, rv b77, iv (1 : Int32), iv (1 : Int32), iv (1 : Int32), .unset] [(.int (1 : Int32))])) _
          exact retN X94 hx (t := .boolean) Bd.returns (by simp) (hb hby at_331) hr
        · show Q0 Z u0 u1 u2 u3 u4 u5 h0 n0 _ T94.heap _
          rw [eq94]
          exact ⟨rfl, N94⟩
      · skip
        rw [hcp] at S76
        obtain ⟨T95, h95, X95, e95, E95, A95, D95, -, st95⟩ := newO X72 hx hZ hown (hw _ (List.mem_of_getElem? (i := 1) rfl)) (hw _ (List.mem_of_getElem? (i := 2) rfl)) (hw _ (List.mem_of_getElem? (i := 3) rfl)) e72 (g := (mkF m 87 #[iv u0, iv u1, iv u2, .val (.long u3), .second, iv u4, .val (.long u5), .second, iv (2 : Int32), iv ka, iv kb, .val .null, rv b65, .unset, .unset, .unset, .unset, .unset] [])) rfl (hb hby at_87) (by decide) (by decide)
        obtain ⟨b95, g95⟩ : ∃ z, z = h72.size := ⟨_, rfl⟩
        rw [← g95] at A95 D95 st95
        have ge_b95 : n0 ≤ b95 := Nat.le_trans Z72 (Nat.le_of_eq g95.symm)
        have ne_b65_b95 : b65 ≠ b95 := Nat.ne_of_lt (Nat.lt_of_lt_of_le (f75).lt (Nat.le_of_eq g95.symm))
        have f96 := f75.ext E95
        have F95_kinds : Fld Z h95 b95 "com/example/agouti/agouti/store/IndexBuilder$Notes" "kinds" "[B" .null := D95 (Or.inr (hw _ (List.mem_of_getElem? (i := 12) rfl))) (ty := (.array .byte)) (by decide)
        have F95_nodes : Fld Z h95 b95 "com/example/agouti/agouti/store/IndexBuilder$Notes" "nodes" "[I" .null := D95 (Or.inr (hw _ (List.mem_of_getElem? (i := 15) rfl))) (ty := (.array .int)) (by decide)
        have F95_values : Fld Z h95 b95 "com/example/agouti/agouti/store/IndexBuilder$Notes" "values" "[[B" .null := D95 (Or.inl (hw _ (List.mem_of_getElem? (i := 19) rfl))) (ty := (.array (.array .byte))) (by decide)
        have F95_hashes : Fld Z h95 b95 "com/example/agouti/agouti/store/IndexBuilder$Notes" "hashes" "[J" .null := D95 (Or.inr (hw _ (List.mem_of_getElem? (i := 22) rfl))) (ty := (.array .long)) (by decide)
        have F95_count : Fld Z h95 b95 "com/example/agouti/agouti/store/IndexBuilder$Notes" "count" "I" (.int (0 : Int32)) := D95 (Or.inl (hw _ (List.mem_of_getElem? (i := 29) rfl))) (ty := .int) (by decide)
        have Z95 : n0 ≤ h95.size := Nat.le_trans Z72 E95.1
        obtain ⟨_, _, ⟨T97, L97, k97, n97⟩, -, X97, ⟨Lc97, hQ97, l97, y97, z97⟩, st97⟩ := X95.specialBack hx (y := (⟨"com/example/agouti/agouti/store/IndexBuilder$Notes", "<init>", "(I)V"⟩ : MethodName)) rfl hown (mvT hZ (hw _ (List.mem_of_getElem? (i := 4) rfl))) (mvT hZ (hw _ (List.mem_of_getElem? (i := 5) rfl))) (mvT hZ (hw _ (List.mem_of_getElem? (i := 6) rfl))) (by decide) (backOf (W := 1) (rmI2 l Z a0 hw [] b95 h95 n0 Z95 A95 F95_count F95_kinds F95_nodes F95_values F95_hashes ge_b95) hZ (hw _ (List.mem_of_getElem? (i := 6) rfl)) (hw _ (List.mem_of_getElem? (i := 3) rfl)) (by decide) (by decide)) (g := (mkF m 93 #[iv u0, iv u1, iv u2, .val (.long u3), .second, iv u4, .val (.long u5), .second, iv (2 : Int32), iv ka, iv kb, .val .null, rv b65, .unset, .unset, .unset, .unset, .unset] [(.int (2 : Int32)), (.ref b95), (.ref b95)])) rfl (by rw [hml]; rfl) (Steps.refl _) (a := b95) (argsL := [(.int (2 : Int32))]) (rest := [(.ref b95)]) (lenOf pd_0 rfl) rfl (by show 2 * 0 + _ ≤ _; exact Nat.le_of_eq rfl) (hb hby at_93) (fun _ _ => ⟨rfl, e95, (by decide : 2 + 4 ≤ _), (by decide : 7 + 8 ≤ _)⟩)
        dsimp only [Pt.U, Pt.locs, Pt.cells, Pt.slots] at X97 l97 y97 z97 st97 hQ97
        subst y97 z97
        obtain ⟨rfl, Nq97, Zq97, Kq97, Bq97⟩ := hQ97
        have N97 : Fr n0 L97 := by rw [l97]; exact Fr.app N72 Nq97
        have f98 := f96.keep Kq97
        have f99 := A95.keep Kq97
        have oe97 := Bq97.1
        obtain ⟨cq105, kq105, q105a, q105b, q105c⟩ := isOf hZ rfl oe97
        obtain ⟨_, _, ⟨T105, L105, k105, n105⟩, -, X105, ⟨Lc105, hQ105, l105, y105, z105⟩, st105⟩ := X97.virtualBack hx (y := (⟨"com/example/agouti/agouti/store/IndexBuilder$Notes", "add", "(BI[BJ)Z"⟩ : MethodName)) (z := (⟨"com/example/agouti/agouti/store/IndexBuilder$Notes", "add", "(BI[BJ)Z"⟩ : MethodName)) hown (mvT hZ (hw _ (List.mem_of_getElem? (i := 23) rfl))) (mvT hZ (hw _ (List.mem_of_getElem? (i := 24) rfl))) (notFace_of_selects (args := #[]) (mvT hZ (hw _ (List.mem_of_getElem? (i := 26) rfl)))) (mvT hZ (hw _ (List.mem_of_getElem? (i := 26) rfl))) (mvT hZ (hw _ (List.mem_of_getElem? (i := 25) rfl))) (by decide) (backOf (W := 0) (rmAddN l Z a0 hw [] b95 ka u2 u3 (2 : Int32) (0 : Int32) [0, 0] [0, 0] [.null, .null] [0, 0] T97.heap n0 Zq97 Bq97 ge_b95 (by decide) (by decide) (by rw [e_ka]; exact own_nb _)) hZ (hw _ (List.mem_of_getElem? (i := 27) rfl)) (hw _ (List.mem_of_getElem? (i := 3) rfl)) (by decide) (by decide)) q105a q105c (g := (mkF m 106 #[iv u0, iv u1, iv u2, .val (.long u3), .second, iv u4, .val (.long u5), .second, iv (2 : Int32), iv ka, iv kb, .val .null, rv b65, rv b95, .unset, .unset, .unset, .unset] [(.long u3), .null, (.int u2), (.int ka), (.ref b95)])) rfl (by rw [hml]; rfl) (Steps.refl _) (argsL := [(.int ka), (.int u2), .null, (.long u3)]) (rest := []) (lenOf pd_1 rfl) rfl (by show 2 * 0 + _ ≤ _; exact Nat.le_of_eq rfl) (hb hby at_106) (fun _ _ => ⟨rfl, rfl, (by decide : 6 + 0 ≤ _), (by decide : 15 + 0 ≤ _)⟩)
        dsimp only [Pt.U, Pt.locs, Pt.cells, Pt.slots] at X105 l105 y105 z105 st105 hQ105
        subst y105 z105
        obtain ⟨rfl, Nq105, Zq105, Kx105, Bq105⟩ := hQ105
        have N105 : Fr n0 L105 := by rw [l105]; exact Fr.app N97 Nq105
        obtain ⟨wsq105, Kq105⟩ := Kx105
        have f106 := f98.keep Kq105
        have f107 := oe97.keep Kq105
        have B105 : own_N Z T105.heap n0 b95 (2 : Int32) (1 : Int32) [ka, 0] [u2, 0] [.null, .null] [u3, 0] := Bq105
        obtain ⟨cq108, kq108, q108a, q108b, q108c⟩ := isOf hZ rfl f107
        obtain ⟨_, _, ⟨T108, L108, k108, n108⟩, -, X108, ⟨Lc108, hQ108, l108, y108, z108⟩, st108⟩ := X105.virtualBack hx (y := (⟨"com/example/agouti/agouti/store/IndexBuilder$Notes", "add", "(BI[BJ)Z"⟩ : MethodName)) (z := (⟨"com/example/agouti/agouti/store/IndexBuilder$Notes", "add", "(BI[BJ)Z"⟩ : MethodName)) hown (mvT hZ (hw _ (List.mem_of_getElem? (i := 23) rfl))) (mvT hZ (hw _ (List.mem_of_getElem? (i := 24) rfl))) (notFace_of_selects (args := #[]) (mvT hZ (hw _ (List.mem_of_getElem? (i := 26) rfl)))) (mvT hZ (hw _ (List.mem_of_getElem? (i := 26) rfl))) (mvT hZ (hw _ (List.mem_of_getElem? (i := 25) rfl))) (by decide) (backOf (W := 0) (rmAddR l Z a0 hw [] b95 kb u4 b65 u5 (2 : Int32) (1 : Int32) [ka, 0] [u2, 0] [.null, .null] [u3, 0] T105.heap n0 Zq105 B105 ge_b95 (by decide) (by decide) (by rw [e_kb]; exact own_nb _) f106) hZ (hw _ (List.mem_of_getElem? (i := 27) rfl)) (hw _ (List.mem_of_getElem? (i := 3) rfl)) (by decide) (by decide)) q108a q108c (g := (mkF m 153 #[iv u0, iv u1, iv u2, .val (.long u3), .second, iv u4, .val (.long u5), .second, iv (2 : Int32), iv ka, iv kb, .val .null, rv b65, rv b95, iv (0 : Int32), iv (1 : Int32), iv (1 : Int32), .unset] [(.long u5), (.ref b65), (.int u4), (.int kb), (.ref b95)])) rfl (by rw [hml]; rfl) (Steps.refl _) (argsL := [(.int kb), (.int u4), (.ref b65), (.long u5)]) (rest := []) (lenOf pd_1 rfl) rfl (by show 2 * 0 + _ ≤ _; exact Nat.le_of_eq rfl) (hb hby at_153) (fun _ _ => ⟨rfl, rfl, (by decide : 6 + 0 ≤ _), (by decide : 15 + 0 ≤ _)⟩)
        dsimp only [Pt.U, Pt.locs, Pt.cells, Pt.slots] at X108 l108 y108 z108 st108 hQ108
        subst y108 z108
        obtain ⟨rfl, Nq108, Zq108, Kx108, Bq108⟩ := hQ108
        have N108 : Fr n0 L108 := by rw [l108]; exact Fr.app N105 Nq108
        obtain ⟨wsq108, Kq108⟩ := Kx108
        have f109 := f106.keep Kq108
        have f110 := f107.keep Kq108
        have B108 : own_N Z T108.heap n0 b95 (2 : Int32) (2 : Int32) [ka, kb] [u2, u4] [.null, (.ref b65)] [u3, u5] := Bq108
        obtain ⟨cq111, kq111, q111a, q111b, q111c⟩ := isOf hZ rfl f110
        obtain ⟨_, _, ⟨T111, L111, k111, n111⟩, -, X111, ⟨Lc111, hQ111, l111, y111, z111⟩, st111⟩ := X108.virtualBack hx (y := (⟨"com/example/agouti/agouti/store/IndexBuilder$Notes", "count", "()I"⟩ : MethodName)) (z := (⟨"com/example/agouti/agouti/store/IndexBuilder$Notes", "count", "()I"⟩ : MethodName)) hown (mvT hZ (hw _ (List.mem_of_getElem? (i := 30) rfl))) (mvT hZ (hw _ (List.mem_of_getElem? (i := 31) rfl))) (notFace_of_selects (args := #[]) (mvT hZ (hw _ (List.mem_of_getElem? (i := 33) rfl)))) (mvT hZ (hw _ (List.mem_of_getElem? (i := 33) rfl))) (mvT hZ (hw _ (List.mem_of_getElem? (i := 32) rfl))) (by decide) (backOf (W := 0) (rmCount l Z a0 hw [] b95 (2 : Int32) (2 : Int32) [ka, kb] [u2, u4] [.null, (.ref b65)] [u3, u5] T108.heap n0 Zq108 B108) hZ (hw _ (List.mem_of_getElem? (i := 34) rfl)) (hw _ (List.mem_of_getElem? (i := 3) rfl)) (by decide) (by decide)) q111a q111c (g := (mkF m 196 #[iv u0, iv u1, iv u2, .val (.long u3), .second, iv u4, .val (.long u5), .second, iv (2 : Int32), iv ka, iv kb, .val .null, rv b65, rv b95, iv (0 : Int32), iv (1 : Int32), iv (2 : Int32), iv (1 : Int32)] [(.ref b95)])) rfl (by rw [hml]; rfl) (Steps.refl _) (argsL := []) (rest := []) (lenOf pd_2 rfl) rfl (by show 2 * 0 + _ ≤ _; exact Nat.le_of_eq rfl) (hb hby at_196) (fun _ _ => ⟨rfl, rfl, (by decide : 6 + 0 ≤ _), (by decide : 15 + 0 ≤ _)⟩)
        dsimp only [Pt.U, Pt.locs, Pt.cells, Pt.slots] at X111 l111 y111 z111 st111 hQ111
        subst y111 z111
        obtain ⟨rfl, Nq111, eq111⟩ := hQ111
        have N111 : Fr n0 L111 := by rw [l111]; exact Fr.app N108 Nq111
        obtain ⟨cq112, kq112, q112a, q112b, q112c⟩ := isOf hZ eq111 f110
        obtain ⟨_, _, ⟨T112, L112, k112, n112⟩, -, X112, ⟨Lc112, hQ112, l112, y112, z112⟩, st112⟩ := X111.virtualBack hx (y := (⟨"com/example/agouti/agouti/store/IndexBuilder$Notes", "kind", "(I)B"⟩ : MethodName)) (z := (⟨"com/example/agouti/agouti/store/IndexBuilder$Notes", "kind", "(I)B"⟩ : MethodName)) hown (mvT hZ (hw _ (List.mem_of_getElem? (i := 35) rfl))) (mvT hZ (hw _ (List.mem_of_getElem? (i := 36) rfl))) (notFace_of_selects (args := #[]) (mvT hZ (hw _ (List.mem_of_getElem? (i := 38) rfl)))) (mvT hZ (hw _ (List.mem_of_getElem? (i := 38) rfl))) (mvT hZ (hw _ (List.mem_of_getElem? (i := 37) rfl))) (by decide) (backOf (W := 0) (rmKind l Z a0 hw [] b95 (0 : Int32) (2 : Int32) (2 : Int32) [ka, kb] [u2, u4] [.null, (.ref b65)] [u3, u5] ka T108.heap n0 Zq108 B108 (by decide) (by decide) rfl (by rw [e_ka]; exact own_nb _)) hZ (hw _ (List.mem_of_getElem? (i := 39) rfl)) (hw _ (List.mem_of_getElem? (i := 3) rfl)) (by decide) (by decide)) q112a q112c (g := (mkF m 219 #[iv u0, iv u1, iv u2, .val (.long u3), .second, iv u4, .val (.long u5), .second, iv (2 : Int32), iv ka, iv kb, .val .null, rv b65, rv b95, iv (0 : Int32), iv (1 : Int32), iv (2 : Int32), iv (1 : Int32)] [(.int (0 : Int32)), (.ref b95)])) rfl (by rw [hml]; rfl) (Steps.refl _) (argsL := [(.int (0 : Int32))]) (rest := []) (lenOf pd_3 rfl) rfl (by show 2 * 0 + _ ≤ _; exact Nat.le_of_eq rfl) (hb hby at_219) (fun _ _ => ⟨rfl, eq111, (by decide : 6 + 0 ≤ _), (by decide : 15 + 0 ≤ _)⟩)
        dsimp only [Pt.U, Pt.locs, Pt.cells, Pt.slots] at X112 l112 y112 z112 st112 hQ112
        subst y112 z112
        obtain ⟨rfl, Nq112, eq112⟩ := hQ112
        have N112 : Fr n0 L112 := by rw [l112]; exact Fr.app N111 Nq112
        obtain ⟨cq113, kq113, q113a, q113b, q113c⟩ := isOf hZ eq112 f110
        obtain ⟨_, _, ⟨T113, L113, k113, n113⟩, -, X113, ⟨Lc113, hQ113, l113, y113, z113⟩, st113⟩ := X112.virtualBack hx (y := (⟨"com/example/agouti/agouti/store/IndexBuilder$Notes", "node", "(I)I"⟩ : MethodName)) (z := (⟨"com/example/agouti/agouti/store/IndexBuilder$Notes", "node", "(I)I"⟩ : MethodName)) hown (mvT hZ (hw _ (List.mem_of_getElem? (i := 40) rfl))) (mvT hZ (hw _ (List.mem_of_getElem? (i := 41) rfl))) (notFace_of_selects (args := #[]) (mvT hZ (hw _ (List.mem_of_getElem? (i := 43) rfl)))) (mvT hZ (hw _ (List.mem_of_getElem? (i := 43) rfl))) (mvT hZ (hw _ (List.mem_of_getElem? (i := 42) rfl))) (by decide) (backOf (W := 0) (rmNode l Z a0 hw [] b95 (0 : Int32) (2 : Int32) (2 : Int32) [ka, kb] [u2, u4] [.null, (.ref b65)] [u3, u5] u2 T108.heap n0 Zq108 B108 (by decide) (by decide) rfl) hZ (hw _ (List.mem_of_getElem? (i := 44) rfl)) (hw _ (List.mem_of_getElem? (i := 3) rfl)) (by decide) (by decide)) q113a q113c (g := (mkF m 230 #[iv u0, iv u1, iv u2, .val (.long u3), .second, iv u4, .val (.long u5), .second, iv (2 : Int32), iv ka, iv kb, .val .null, rv b65, rv b95, iv (0 : Int32), iv (1 : Int32), iv (2 : Int32), iv (1 : Int32)] [(.int (0 : Int32)), (.ref b95)])) rfl (by rw [hml]; rfl) (Steps.refl _) (argsL := [(.int (0 : Int32))]) (rest := []) (lenOf pd_4 rfl) rfl (by show 2 * 0 + _ ≤ _; exact Nat.le_of_eq rfl) (hb hby at_230) (fun _ _ => ⟨rfl, eq112, (by decide : 6 + 0 ≤ _), (by decide : 15 + 0 ≤ _)⟩)
        dsimp only [Pt.U, Pt.locs, Pt.cells, Pt.slots] at X113 l113 y113 z113 st113 hQ113
        subst y113 z113
        obtain ⟨rfl, Nq113, eq113⟩ := hQ113
        have N113 : Fr n0 L113 := by rw [l113]; exact Fr.app N112 Nq113
        obtain ⟨cq114, kq114, q114a, q114b, q114c⟩ := isOf hZ eq113 f110
        obtain ⟨_, _, ⟨T114, L114, k114, n114⟩, -, X114, ⟨Lc114, hQ114, l114, y114, z114⟩, st114⟩ := X113.virtualBack hx (y := (⟨"com/example/agouti/agouti/store/IndexBuilder$Notes", "value", "(I)[B"⟩ : MethodName)) (z := (⟨"com/example/agouti/agouti/store/IndexBuilder$Notes", "value", "(I)[B"⟩ : MethodName)) hown (mvT hZ (hw _ (List.mem_of_getElem? (i := 45) rfl))) (mvT hZ (hw _ (List.mem_of_getElem? (i := 46) rfl))) (notFace_of_selects (args := #[]) (mvT hZ (hw _ (List.mem_of_getElem? (i := 48) rfl)))) (mvT hZ (hw _ (List.mem_of_getElem? (i := 48) rfl))) (mvT hZ (hw _ (List.mem_of_getElem? (i := 47) rfl))) (by decide) (backOf (W := 0) (rmVal0 l Z a0 hw [] b95 (0 : Int32) (2 : Int32) (2 : Int32) [ka, kb] [u2, u4] [.null, (.ref b65)] [u3, u5] T108.heap n0 Zq108 B108 (by decide) (by decide) rfl) hZ (hw _ (List.mem_of_getElem? (i := 49) rfl)) (hw _ (List.mem_of_getElem? (i := 3) rfl)) (by decide) (by decide)) q114a q114c (g := (mkF m 240 #[iv u0, iv u1, iv u2, .val (.long u3), .second, iv u4, .val (.long u5), .second, iv (2 : Int32), iv ka, iv kb, .val .null, rv b65, rv b95, iv (0 : Int32), iv (1 : Int32), iv (2 : Int32), iv (1 : Int32)] [(.int (0 : Int32)), (.ref b95)])) rfl (by rw [hml]; rfl) (Steps.refl _) (argsL := [(.int (0 : Int32))]) (rest := []) (lenOf pd_5 rfl) rfl (by show 2 * 0 + _ ≤ _; exact Nat.le_of_eq rfl) (hb hby at_240) (fun _ _ => ⟨rfl, eq113, (by decide : 6 + 0 ≤ _), (by decide : 15 + 0 ≤ _)⟩)
        dsimp only [Pt.U, Pt.locs, Pt.cells, Pt.slots] at X114 l114 y114 z114 st114 hQ114
        subst y114 z114
        obtain ⟨rfl, Nq114, eq114⟩ := hQ114
        have N114 : Fr n0 L114 := by rw [l114]; exact Fr.app N113 Nq114
        obtain ⟨cq115, kq115, q115a, q115b, q115c⟩ := isOf hZ eq114 f110
        obtain ⟨_, _, ⟨T115, L115, k115, n115⟩, -, X115, ⟨Lc115, hQ115, l115, y115, z115⟩, st115⟩ := X114.virtualBack hx (y := (⟨"com/example/agouti/agouti/store/IndexBuilder$Notes", "hash", "(I)J"⟩ : MethodName)) (z := (⟨"com/example/agouti/agouti/store/IndexBuilder$Notes", "hash", "(I)J"⟩ : MethodName)) hown (mvT hZ (hw _ (List.mem_of_getElem? (i := 50) rfl))) (mvT hZ (hw _ (List.mem_of_getElem? (i := 51) rfl))) (notFace_of_selects (args := #[]) (mvT hZ (hw _ (List.mem_of_getElem? (i := 53) rfl)))) (mvT hZ (hw _ (List.mem_of_getElem? (i := 53) rfl))) (mvT hZ (hw _ (List.mem_of_getElem? (i := 52) rfl))) (by decide) (backOf (W := 0) (rmHash l Z a0 hw [] b95 (0 : Int32) (2 : Int32) (2 : Int32) [ka, kb] [u2, u4] [.null, (.ref b65)] [u3, u5] u3 T108.heap n0 Zq108 B108 (by decide) (by decide) rfl) hZ (hw _ (List.mem_of_getElem? (i := 54) rfl)) (hw _ (List.mem_of_getElem? (i := 3) rfl)) (by decide) (by decide)) q115a q115c (g := (mkF m 251 #[iv u0, iv u1, iv u2, .val (.long u3), .second, iv u4, .val (.long u5), .second, iv (2 : Int32), iv ka, iv kb, .val .null, rv b65, rv b95, iv (0 : Int32), iv (1 : Int32), iv (2 : Int32), iv (1 : Int32)] [(.int (0 : Int32)), (.ref b95)])) rfl (by rw [hml]; rfl) (Steps.refl _) (argsL := [(.int (0 : Int32))]) (rest := []) (lenOf pd_6 rfl) rfl (by show 2 * 0 + _ ≤ _; exact Nat.le_of_eq rfl) (hb hby at_251) (fun _ _ => ⟨rfl, eq114, (by decide : 6 + 0 ≤ _), (by decide : 15 + 0 ≤ _)⟩)
        dsimp only [Pt.U, Pt.locs, Pt.cells, Pt.slots] at X115 l115 y115 z115 st115 hQ115
        subst y115 z115
        obtain ⟨rfl, Nq115, eq115⟩ := hQ115
        have N115 : Fr n0 L115 := by rw [l115]; exact Fr.app N114 Nq115
        obtain ⟨cq116, kq116, q116a, q116b, q116c⟩ := isOf hZ eq115 f110
        obtain ⟨_, _, ⟨T116, L116, k116, n116⟩, -, X116, ⟨Lc116, hQ116, l116, y116, z116⟩, st116⟩ := X115.virtualBack hx (y := (⟨"com/example/agouti/agouti/store/IndexBuilder$Notes", "kind", "(I)B"⟩ : MethodName)) (z := (⟨"com/example/agouti/agouti/store/IndexBuilder$Notes", "kind", "(I)B"⟩ : MethodName)) hown (mvT hZ (hw _ (List.mem_of_getElem? (i := 35) rfl))) (mvT hZ (hw _ (List.mem_of_getElem? (i := 36) rfl))) (notFace_of_selects (args := #[]) (mvT hZ (hw _ (List.mem_of_getElem? (i := 38) rfl)))) (mvT hZ (hw _ (List.mem_of_getElem? (i := 38) rfl))) (mvT hZ (hw _ (List.mem_of_getElem? (i := 37) rfl))) (by decide) (backOf (W := 0) (rmKind l Z a0 hw [] b95 (1 : Int32) (2 : Int32) (2 : Int32) [ka, kb] [u2, u4] [.null, (.ref b65)] [u3, u5] kb T108.heap n0 Zq108 B108 (by decide) (by decide) rfl (by rw [e_kb]; exact own_nb _)) hZ (hw _ (List.mem_of_getElem? (i := 39) rfl)) (hw _ (List.mem_of_getElem? (i := 3) rfl)) (by decide) (by decide)) q116a q116c (g := (mkF m 280 #[iv u0, iv u1, iv u2, .val (.long u3), .second, iv u4, .val (.long u5), .second, iv (2 : Int32), iv ka, iv kb, .val .null, rv b65, rv b95, iv (0 : Int32), iv (1 : Int32), iv (2 : Int32), iv (1 : Int32)] [(.int (1 : Int32)), (.ref b95)])) rfl (by rw [hml]; rfl) (Steps.refl _) (argsL := [(.int (1 : Int32))]) (rest := []) (lenOf pd_3 rfl) rfl (by show 2 * 0 + _ ≤ _; exact Nat.le_of_eq rfl) (hb hby at_280) (fun _ _ => ⟨rfl, eq115, (by decide : 6 + 0 ≤ _), (by decide : 15 + 0 ≤ _)⟩)
        dsimp only [Pt.U, Pt.locs, Pt.cells, Pt.slots] at X116 l116 y116 z116 st116 hQ116
        subst y116 z116
        obtain ⟨rfl, Nq116, eq116⟩ := hQ116
        have N116 : Fr n0 L116 := by rw [l116]; exact Fr.app N115 Nq116
        obtain ⟨cq117, kq117, q117a, q117b, q117c⟩ := isOf hZ eq116 f110
        obtain ⟨_, _, ⟨T117, L117, k117, n117⟩, -, X117, ⟨Lc117, hQ117, l117, y117, z117⟩, st117⟩ := X116.virtualBack hx (y := (⟨"com/example/agouti/agouti/store/IndexBuilder$Notes", "node", "(I)I"⟩ : MethodName)) (z := (⟨"com/example/agouti/agouti/store/IndexBuilder$Notes", "node", "(I)I"⟩ : MethodName)) hown (mvT hZ (hw _ (List.mem_of_getElem? (i := 40) rfl))) (mvT hZ (hw _ (List.mem_of_getElem? (i := 41) rfl))) (notFace_of_selects (args := #[]) (mvT hZ (hw _ (List.mem_of_getElem? (i := 43) rfl)))) (mvT hZ (hw _ (List.mem_of_getElem? (i := 43) rfl))) (mvT hZ (hw _ (List.mem_of_getElem? (i := 42) rfl))) (by decide) (backOf (W := 0) (rmNode l Z a0 hw [] b95 (1 : Int32) (2 : Int32) (2 : Int32) [ka, kb] [u2, u4] [.null, (.ref b65)] [u3, u5] u4 T108.heap n0 Zq108 B108 (by decide) (by decide) rfl) hZ (hw _ (List.mem_of_getElem? (i := 44) rfl)) (hw _ (List.mem_of_getElem? (i := 3) rfl)) (by decide) (by decide)) q117a q117c (g := (mkF m 291 #[iv u0, iv u1, iv u2, .val (.long u3), .second, iv u4, .val (.long u5), .second, iv (2 : Int32), iv ka, iv kb, .val .null, rv b65, rv b95, iv (0 : Int32), iv (1 : Int32), iv (2 : Int32), iv (1 : Int32)] [(.int (1 : Int32)), (.ref b95)])) rfl (by rw [hml]; rfl) (Steps.refl _) (argsL := [(.int (1 : Int32))]) (rest := []) (lenOf pd_4 rfl) rfl (by show 2 * 0 + _ ≤ _; exact Nat.le_of_eq rfl) (hb hby at_291) (fun _ _ => ⟨rfl, eq116, (by decide : 6 + 0 ≤ _), (by decide : 15 + 0 ≤ _)⟩)
        dsimp only [Pt.U, Pt.locs, Pt.cells, Pt.slots] at X117 l117 y117 z117 st117 hQ117
        subst y117 z117
        obtain ⟨rfl, Nq117, eq117⟩ := hQ117
        have N117 : Fr n0 L117 := by rw [l117]; exact Fr.app N116 Nq117
        obtain ⟨cq118, kq118, q118a, q118b, q118c⟩ := isOf hZ eq117 f110
        obtain ⟨_, _, ⟨T118, L118, k118, n118⟩, -, X118, ⟨Lc118, hQ118, l118, y118, z118⟩, st118⟩ := X117.virtualBack hx (y := (⟨"com/example/agouti/agouti/store/IndexBuilder$Notes", "value", "(I)[B"⟩ : MethodName)) (z := (⟨"com/example/agouti/agouti/store/IndexBuilder$Notes", "value", "(I)[B"⟩ : MethodName)) hown (mvT hZ (hw _ (List.mem_of_getElem? (i := 45) rfl))) (mvT hZ (hw _ (List.mem_of_getElem? (i := 46) rfl))) (notFace_of_selects (args := #[]) (mvT hZ (hw _ (List.mem_of_getElem? (i := 48) rfl)))) (mvT hZ (hw _ (List.mem_of_getElem? (i := 48) rfl))) (mvT hZ (hw _ (List.mem_of_getElem? (i := 47) rfl))) (by decide) (backOf (W := 0) (rmVal1 l Z a0 hw [] b95 (1 : Int32) (2 : Int32) (2 : Int32) [ka, kb] [u2, u4] [.null, (.ref b65)] [u3, u5] b65 T108.heap n0 Zq108 B108 (by decide) (by decide) rfl) hZ (hw _ (List.mem_of_getElem? (i := 49) rfl)) (hw _ (List.mem_of_getElem? (i := 3) rfl)) (by decide) (by decide)) q118a q118c (g := (mkF m 302 #[iv u0, iv u1, iv u2, .val (.long u3), .second, iv u4, .val (.long u5), .second, iv (2 : Int32), iv ka, iv kb, .val .null, rv b65, rv b95, iv (0 : Int32), iv (1 : Int32), iv (2 : Int32), iv (1 : Int32)] [(.int (1 : Int32)), (.ref b95)])) rfl (by rw [hml]; rfl) (Steps.refl _) (argsL := [(.int (1 : Int32))]) (rest := []) (lenOf pd_5 rfl) rfl (by show 2 * 0 + _ ≤ _; exact Nat.le_of_eq rfl) (hb hby at_302) (fun _ _ => ⟨rfl, eq117, (by decide : 6 + 0 ≤ _), (by decide : 15 + 0 ≤ _)⟩)
        dsimp only [Pt.U, Pt.locs, Pt.cells, Pt.slots] at X118 l118 y118 z118 st118 hQ118
        subst y118 z118
        obtain ⟨rfl, Nq118, eq118⟩ := hQ118
        have N118 : Fr n0 L118 := by rw [l118]; exact Fr.app N117 Nq118
        obtain ⟨cq119, kq119, q119a, q119b, q119c⟩ := isOf hZ eq118 f110
        obtain ⟨_, _, ⟨T119, L119, k119, n119⟩, -, X119, ⟨Lc119, hQ119, l119, y119, z119⟩, st119⟩ := X118.virtualBack hx (y := (⟨"com/example/agouti/agouti/store/IndexBuilder$Notes", "hash", "(I)J"⟩ : MethodName)) (z := (⟨"com/example/agouti/agouti/store/IndexBuilder$Notes", "hash", "(I)J"⟩ : MethodName)) hown (mvT hZ (hw _ (List.mem_of_getElem? (i := 50) rfl))) (mvT hZ (hw _ (List.mem_of_getElem? (i := 51) rfl))) (notFace_of_selects (args := #[]) (mvT hZ (hw _ (List.mem_of_getElem? (i := 53) rfl)))) (mvT hZ (hw _ (List.mem_of_getElem? (i := 53) rfl))) (mvT hZ (hw _ (List.mem_of_getElem? (i := 52) rfl))) (by decide) (backOf (W := 0) (rmHash l Z a0 hw [] b95 (1 : Int32) (2 : Int32) (2 : Int32) [ka, kb] [u2, u4] [.null, (.ref b65)] [u3, u5] u5 T108.heap n0 Zq108 B108 (by decide) (by decide) rfl) hZ (hw _ (List.mem_of_getElem? (i := 54) rfl)) (hw _ (List.mem_of_getElem? (i := 3) rfl)) (by decide) (by decide)) q119a q119c (g := (mkF m 313 #[iv u0, iv u1, iv u2, .val (.long u3), .second, iv u4, .val (.long u5), .second, iv (2 : Int32), iv ka, iv kb, .val .null, rv b65, rv b95, iv (0 : Int32), iv (1 : Int32), iv (2 : Int32), iv (1 : Int32)] [(.int (1 : Int32)), (.ref b95)])) rfl (by rw [hml]; rfl) (Steps.refl _) (argsL := [(.int (1 : Int32))]) (rest := []) (lenOf pd_6 rfl) rfl (by show 2 * 0 + _ ≤ _; exact Nat.le_of_eq rfl) (hb hby at_313) (fun _ _ => ⟨rfl, eq118, (by decide : 6 + 0 ≤ _), (by decide : 15 + 0 ≤ _)⟩)
        dsimp only [Pt.U, Pt.locs, Pt.cells, Pt.slots] at X119 l119 y119 z119 st119 hQ119
        subst y119 z119
        obtain ⟨rfl, Nq119, eq119⟩ := hQ119
        have N119 : Fr n0 L119 := by rw [l119]; exact Fr.app N118 Nq119
        obtain ⟨fs, hr, hrun, hended, hW, hsame⟩ := X119.leave (v := some (.int (1 : Int32))) (fun h => by rw [Bd.returns] at h; cases h)
        refine ⟨_, _, S76 _ ?_, hrun, hended, _, _, rfl, ?_, ⟨_, rfl⟩, hW, hsame.mono (by decide) (by decide)⟩
        · skip
          show Steps p.tables e below (T72.setTop (mkF m 87 #[iv u0, iv u1, iv u2, .val (.long u3), .second, iv u4, .val (.long u5), .second, iv (2 : Int32), iv ka, iv kb, .val .null, rv b65, .unset, .unset, .unset, .unset, .unset] [])) _
          refine st95 _ ?_
          show Steps p.tables e below (T95.setTop (mkF m 90 #[iv u0, iv u1, iv u2, .val (.long u3), .second, iv u4, .val (.long u5), .second, iv (2 : Int32), iv ka, iv kb, .val .null, rv b65, .unset, .unset, .unset, .unset, .unset] [(.ref b95)])) _
          refine XS.dup X95.here hx rfl (hb hby at_90) rfl rfl ?_
          show Steps p.tables e below (T95.setTop (mkF m 91 #[iv u0, iv u1, iv u2, .val (.long u3), .second, iv u4, .val (.long u5), .second, iv (2 : Int32), iv ka, iv kb, .val .null, rv b65, .unset, .unset, .unset, .unset, .unset] [(.ref b95), (.ref b95)])) _
          refine XS.iload X95.here hx rfl (hb hby at_91) rfl ?_
          show Steps p.tables e below (T95.setTop (mkF m 93 #[iv u0, iv u1, iv u2, .val (.long u3), .second, iv u4, .val (.long u5), .second, iv (2 : Int32), iv ka, iv kb, .val .null, rv b65, .unset, .unset, .unset, .unset, .unset] [(.int (2 : Int32)), (.ref b95), (.ref b95)])) _
          refine st97.trans ?_
          show Steps p.tables e below (T97.setTop (mkF m 96 #[iv u0, iv u1, iv u2, .val (.long u3), .second, iv u4, .val (.long u5), .second, iv (2 : Int32), iv ka, iv kb, .val .null, rv b65, .unset, .unset, .unset, .unset, .unset] [(.ref b95)])) _
          refine XS.astore X97.here hx rfl (hb hby at_96) rfl rfl (l' := #[iv u0, iv u1, iv u2, .val (.long u3), .second, iv u4, .val (.long u5), .second, iv (2 : Int32), iv ka, iv kb, .val .null, rv b65, rv b95, .unset, .unset, .unset, .unset]) rfl ?_
          show Steps p.tables e below (T97.setTop (mkF m 98 #[iv u0, iv u1, iv u2, .val (.long u3), .second, iv u4, .val (.long u5), .second, iv (2 : Int32), iv ka, iv kb, .val .null, rv b65, rv b95, .unset, .unset, .unset, .unset] [])) _
          refine XS.aload X97.here hx rfl (hb hby at_98) rfl rfl ?_
          show Steps p.tables e below (T97.setTop (mkF m 100 #[iv u0, iv u1, iv u2, .val (.long u3), .second, iv u4, .val (.long u5), .second, iv (2 : Int32), iv ka, iv kb, .val .null, rv b65, rv b95, .unset, .unset, .unset, .unset] [(.ref b95)])) _
          refine XS.iload X97.here hx rfl (hb hby at_100) rfl ?_
          show Steps p.tables e below (T97.setTop (mkF m 102 #[iv u0, iv u1, iv u2, .val (.long u3), .second, iv u4, .val (.long u5), .second, iv (2 : Int32), iv ka, iv kb, .val .null, rv b65, rv b95, .unset, .unset, .unset, .unset] [(.int ka), (.ref b95)])) _
          refine XS.iloadN X97.here hx rfl (hb hby at_102) rfl ?_
          show Steps p.tables e below (T97.setTop (mkF m 103 #[iv u0, iv u1, iv u2, .val (.long u3), .second, iv u4, .val (.long u5), .second, iv (2 : Int32), iv ka, iv kb, .val .null, rv b65, rv b95, .unset, .unset, .unset, .unset] [(.int u2), (.int ka), (.ref b95)])) _
          refine XS.aload X97.here hx rfl (hb hby at_103) rfl rfl ?_
          show Steps p.tables e below (T97.setTop (mkF m 105 #[iv u0, iv u1, iv u2, .val (.long u3), .second, iv u4, .val (.long u5), .second, iv (2 : Int32), iv ka, iv kb, .val .null, rv b65, rv b95, .unset, .unset, .unset, .unset] [.null, (.int u2), (.int ka), (.ref b95)])) _
          refine XS.lloadN X97.here hx rfl (hb hby at_105) rfl ?_
          show Steps p.tables e below (T97.setTop (mkF m 106 #[iv u0, iv u1, iv u2, .val (.long u3), .second, iv u4, .val (.long u5), .second, iv (2 : Int32), iv ka, iv kb, .val .null, rv b65, rv b95, .unset, .unset, .unset, .unset] [(.long u3), .null, (.int u2), (.int ka), (.ref b95)])) _
          refine st105.trans ?_
          show Steps p.tables e below (T105.setTop (mkF m 109 #[iv u0, iv u1, iv u2, .val (.long u3), .second, iv u4, .val (.long u5), .second, iv (2 : Int32), iv ka, iv kb, .val .null, rv b65, rv b95, .unset, .unset, .unset, .unset] [(.int (0 : Int32))])) _
          refine XS.istore X105.here hx rfl (hb hby at_109) rfl (l' := #[iv u0, iv u1, iv u2, .val (.long u3), .second, iv u4, .val (.long u5), .second, iv (2 : Int32), iv ka, iv kb, .val .null, rv b65, rv b95, iv (0 : Int32), .unset, .unset, .unset]) rfl ?_
          show Steps p.tables e below (T105.setTop (mkF m 111 #[iv u0, iv u1, iv u2, .val (.long u3), .second, iv u4, .val (.long u5), .second, iv (2 : Int32), iv ka, iv kb, .val .null, rv b65, rv b95, iv (0 : Int32), .unset, .unset, .unset] [])) _
          refine XS.iload X105.here hx rfl (hb hby at_111) rfl ?_
          show Steps p.tables e below (T105.setTop (mkF m 113 #[iv u0, iv u1, iv u2, .val (.long u3), .second, iv u4, .val (.long u5), .second, iv (2 : Int32), iv ka, iv kb, .val .null, rv b65, rv b95, iv (0 : Int32), .unset, .unset, .unset] [(.int (0 : Int32))])) _
          refine XS.iload X105.here hx rfl (hb hby at_113) rfl ?_
          show Steps p.tables e below (T105.setTop (mkF m 115 #[iv u0, iv u1, iv u2, .val (.long u3), .second, iv u4, .val (.long u5), .second, iv (2 : Int32), iv ka, iv kb, .val .null, rv b65, rv b95, iv (0 : Int32), .unset, .unset, .unset] [(.int (2 : Int32)), (.int (0 : Int32))])) _
          refine XS.iconst X105.here hx rfl (hb hby at_115) ?_
          show Steps p.tables e below (T105.setTop (mkF m 116 #[iv u0, iv u1, iv u2, .val (.long u3), .second, iv u4, .val (.long u5), .second, iv (2 : Int32), iv ka, iv kb, .val .null, rv b65, rv b95, iv (0 : Int32), .unset, .unset, .unset] [(.int (1 : Int32)), (.int (2 : Int32)), (.int (0 : Int32))])) _
          refine XS.icmpYes X105.here hx rfl (pc0 := 116) (pc' := 123) rfl (hb hby at_116) rfl (feq (by decide : ¬ ((2 : Int32) = (1 : Int32)))).2 (by decide) (by decide) ?_
          show Steps p.tables e below (T105.setTop (mkF m 123 #[iv u0, iv u1, iv u2, .val (.long u3), .second, iv u4, .val (.long u5), .second, iv (2 : Int32), iv ka, iv kb, .val .null, rv b65, rv b95, iv (0 : Int32), .unset, .unset, .unset] [(.int (0 : Int32))])) _
          refine XS.iconst X105.here hx rfl (hb hby at_123) ?_
          show Steps p.tables e below (T105.setTop (mkF m 124 #[iv u0, iv u1, iv u2, .val (.long u3), .second, iv u4, .val (.long u5), .second, iv (2 : Int32), iv ka, iv kb, .val .null, rv b65, rv b95, iv (0 : Int32), .unset, .unset, .unset] [(.int (0 : Int32)), (.int (0 : Int32))])) _
          refine XS.icmpNo X105.here hx rfl (hb hby at_124) rfl (teq (by decide : (0 : Int32) = (0 : Int32))).2 ?_
          show Steps p.tables e below (T105.setTop (mkF m 127 #[iv u0, iv u1, iv u2, .val (.long u3), .second, iv u4, .val (.long u5), .second, iv (2 : Int32), iv ka, iv kb, .val .null, rv b65, rv b95, iv (0 : Int32), .unset, .unset, .unset] [])) _
          refine XS.iconst X105.here hx rfl (hb hby at_127) ?_
          show Steps p.tables e below (T105.setTop (mkF m 128 #[iv u0, iv u1, iv u2, .val (.long u3), .second, iv u4, .val (.long u5), .second, iv (2 : Int32), iv ka, iv kb, .val .null, rv b65, rv b95, iv (0 : Int32), .unset, .unset, .unset] [(.int (1 : Int32))])) _
          refine XS.goto X105.here hx rfl (pc0 := 128) (pc' := 132) rfl (hb hby at_128) (by decide) (by decide) ?_
          show Steps p.tables e below (T105.setTop (mkF m 132 #[iv u0, iv u1, iv u2, .val (.long u3), .second, iv u4, .val (.long u5), .second, iv (2 : Int32), iv ka, iv kb, .val .null, rv b65, rv b95, iv (0 : Int32), .unset, .unset, .unset] [(.int (1 : Int32))])) _
          refine XS.istore X105.here hx rfl (hb hby at_132) rfl (l' := #[iv u0, iv u1, iv u2, .val (.long u3), .second, iv u4, .val (.long u5), .second, iv (2 : Int32), iv ka, iv kb, .val .null, rv b65, rv b95, iv (0 : Int32), iv (1 : Int32), .unset, .unset]) rfl ?_
          show Steps p.tables e below (T105.setTop (mkF m 134 #[iv u0, iv u1, iv u2, .val (.long u3), .second, iv u4, .val (.long u5), .second, iv (2 : Int32), iv ka, iv kb, .val .null, rv b65, rv b95, iv (0 : Int32), iv (1 : Int32), .unset, .unset] [])) _
          refine XS.iconst X105.here hx rfl (hb hby at_134) ?_
          show Steps p.tables e below (T105.setTop (mkF m 135 #[iv u0, iv u1, iv u2, .val (.long u3), .second, iv u4, .val (.long u5), .second, iv (2 : Int32), iv ka, iv kb, .val .null, rv b65, rv b95, iv (0 : Int32), iv (1 : Int32), .unset, .unset] [(.int (1 : Int32))])) _
          refine XS.istore X105.here hx rfl (hb hby at_135) rfl (l' := #[iv u0, iv u1, iv u2, .val (.long u3), .second, iv u4, .val (.long u5), .second, iv (2 : Int32), iv ka, iv kb, .val .null, rv b65, rv b95, iv (0 : Int32), iv (1 : Int32), iv (1 : Int32), .unset]) rfl ?_
          show Steps p.tables e below (T105.setTop (mkF m 137 #[iv u0, iv u1, iv u2, .val (.long u3), .second, iv u4, .val (.long u5), .second, iv (2 : Int32), iv ka, iv kb, .val .null, rv b65, rv b95, iv (0 : Int32), iv (1 : Int32), iv (1 : Int32), .unset] [])) _
          refine XS.iload X105.here hx rfl (hb hby at_137) rfl ?_
          show Steps p.tables e below (T105.setTop (mkF m 139 #[iv u0, iv u1, iv u2, .val (.long u3), .second, iv u4, .val (.long u5), .second, iv (2 : Int32), iv ka, iv kb, .val .null, rv b65, rv b95, iv (0 : Int32), iv (1 : Int32), iv (1 : Int32), .unset] [(.int (2 : Int32))])) _
          refine XS.iconst X105.here hx rfl (hb hby at_139) ?_
          show Steps p.tables e below (T105.setTop (mkF m 140 #[iv u0, iv u1, iv u2, .val (.long u3), .second, iv u4, .val (.long u5), .second, iv (2 : Int32), iv ka, iv kb, .val .null, rv b65, rv b95, iv (0 : Int32), iv (1 : Int32), iv (1 : Int32), .unset] [(.int (2 : Int32)), (.int (2 : Int32))])) _
          refine XS.icmpNo X105.here hx rfl (hb hby at_140) rfl (flt (by decide : ¬ ((2 : Int32) < (2 : Int32)))).1 ?_
          show Steps p.tables e below (T105.setTop (mkF m 143 #[iv u0, iv u1, iv u2, .val (.long u3), .second, iv u4, .val (.long u5), .second, iv (2 : Int32), iv ka, iv kb, .val .null, rv b65, rv b95, iv (0 : Int32), iv (1 : Int32), iv (1 : Int32), .unset] [])) _
          refine XS.aload X105.here hx rfl (hb hby at_143) rfl rfl ?_
          show Steps p.tables e below (T105.setTop (mkF m 145 #[iv u0, iv u1, iv u2, .val (.long u3), .second, iv u4, .val (.long u5), .second, iv (2 : Int32), iv ka, iv kb, .val .null, rv b65, rv b95, iv (0 : Int32), iv (1 : Int32), iv (1 : Int32), .unset] [(.ref b95)])) _
          refine XS.iload X105.here hx rfl (hb hby at_145) rfl ?_
          show Steps p.tables e below (T105.setTop (mkF m 147 #[iv u0, iv u1, iv u2, .val (.long u3), .second, iv u4, .val (.long u5), .second, iv (2 : Int32), iv ka, iv kb, .val .null, rv b65, rv b95, iv (0 : Int32), iv (1 : Int32), iv (1 : Int32), .unset] [(.int kb), (.ref b95)])) _
          refine XS.iload X105.here hx rfl (hb hby at_147) rfl ?_
          show Steps p.tables e below (T105.setTop (mkF m 149 #[iv u0, iv u1, iv u2, .val (.long u3), .second, iv u4, .val (.long u5), .second, iv (2 : Int32), iv ka, iv kb, .val .null, rv b65, rv b95, iv (0 : Int32), iv (1 : Int32), iv (1 : Int32), .unset] [(.int u4), (.int kb), (.ref b95)])) _
          refine XS.aload X105.here hx rfl (hb hby at_149) rfl rfl ?_
          show Steps p.tables e below (T105.setTop (mkF m 151 #[iv u0, iv u1, iv u2, .val (.long u3), .second, iv u4, .val (.long u5), .second, iv (2 : Int32), iv ka, iv kb, .val .null, rv b65, rv b95, iv (0 : Int32), iv (1 : Int32), iv (1 : Int32), .unset] [(.ref b65), (.int u4), (.int kb), (.ref b95)])) _
          refine XS.lload X105.here hx rfl (hb hby at_151) rfl ?_
          show Steps p.tables e below (T105.setTop (mkF m 153 #[iv u0, iv u1, iv u2, .val (.long u3), .second, iv u4, .val (.long u5), .second, iv (2 : Int32), iv ka, iv kb, .val .null, rv b65, rv b95, iv (0 : Int32), iv (1 : Int32), iv (1 : Int32), .unset] [(.long u5), (.ref b65), (.int u4), (.int kb), (.ref b95)])) _
          refine st108.trans ?_
          show Steps p.tables e below (T108.setTop (mkF m 156 #[iv u0, iv u1, iv u2, .val (.long u3), .second, iv u4, .val (.long u5), .second, iv (2 : Int32), iv ka, iv kb, .val .null, rv b65, rv b95, iv (0 : Int32), iv (1 : Int32), iv (1 : Int32), .unset] [(.int (1 : Int32))])) _
          refine XS.istore X108.here hx rfl (hb hby at_156) rfl (l' := #[iv u0, iv u1, iv u2, .val (.long u3), .second, iv u4, .val (.long u5), .second, iv (2 : Int32), iv ka, iv kb, .val .null, rv b65, rv b95, iv (0 : Int32), iv (1 : Int32), iv (1 : Int32), iv (1 : Int32)]) rfl ?_
          show Steps p.tables e below (T108.setTop (mkF m 158 #[iv u0, iv u1, iv u2, .val (.long u3), .second, iv u4, .val (.long u5), .second, iv (2 : Int32), iv ka, iv kb, .val .null, rv b65, rv b95, iv (0 : Int32), iv (1 : Int32), iv (1 : Int32), iv (1 : Int32)] [])) _
          refine XS.iload X108.here hx rfl (hb hby at_158) rfl ?_
          show Steps p.tables e below (T108.setTop (mkF m 160 #[iv u0, iv u1, iv u2, .val (.long u3), .second, iv u4, .val (.long u5), .second, iv (2 : Int32), iv ka, iv kb, .val .null, rv b65, rv b95, iv (0 : Int32), iv (1 : Int32), iv (1 : Int32), iv (1 : Int32)] [(.int (1 : Int32))])) _
          refine XS.ifNo X108.here hx rfl (hb hby at_160) rfl ((if0 _ _).trans (feq (by decide : ¬ ((1 : Int32) = (0 : Int32)))).1) ?_
          show Steps p.tables e below (T108.setTop (mkF m 163 #[iv u0, iv u1, iv u2, .val (.long u3), .second, iv u4, .val (.long u5), .second, iv (2 : Int32), iv ka, iv kb, .val .null, rv b65, rv b95, iv (0 : Int32), iv (1 : Int32), iv (1 : Int32), iv (1 : Int32)] [])) _
          refine XS.iload X108.here hx rfl (hb hby at_163) rfl ?_
          show Steps p.tables e below (T108.setTop (mkF m 165 #[iv u0, iv u1, iv u2, .val (.long u3), .second, iv u4, .val (.long u5), .second, iv (2 : Int32), iv ka, iv kb, .val .null, rv b65, rv b95, iv (0 : Int32), iv (1 : Int32), iv (1 : Int32), iv (1 : Int32)] [(.int (1 : Int32))])) _
          refine XS.iload X108.here hx rfl (hb hby at_165) rfl ?_
          show Steps p.tables e below (T108.setTop (mkF m 167 #[iv u0, iv u1, iv u2, .val (.long u3), .second, iv u4, .val (.long u5), .second, iv (2 : Int32), iv ka, iv kb, .val .null, rv b65, rv b95, iv (0 : Int32), iv (1 : Int32), iv (1 : Int32), iv (1 : Int32)] [(.int (2 : Int32)), (.int (1 : Int32))])) _
          refine XS.iconst X108.here hx rfl (hb hby at_167) ?_
          show Steps p.tables e below (T108.setTop (mkF m 168 #[iv u0, iv u1, iv u2, .val (.long u3), .second, iv u4, .val (.long u5), .second, iv (2 : Int32), iv ka, iv kb, .val .null, rv b65, rv b95, iv (0 : Int32), iv (1 : Int32), iv (1 : Int32), iv (1 : Int32)] [(.int (2 : Int32)), (.int (2 : Int32)), (.int (1 : Int32))])) _
          refine XS.icmpNo X108.here hx rfl (hb hby at_168) rfl (teq (by decide : (2 : Int32) = (2 : Int32))).2 ?_
          show Steps p.tables e below (T108.setTop (mkF m 171 #[iv u0, iv u1, iv u2, .val (.long u3), .second, iv u4, .val (.long u5), .second, iv (2 : Int32), iv ka, iv kb, .val .null, rv b65, rv b95, iv (0 : Int32), iv (1 : Int32), iv (1 : Int32), iv (1 : Int32)] [(.int (1 : Int32))])) _
          refine XS.iconst X108.here hx rfl (hb hby at_171) ?_
          show Steps p.tables e below (T108.setTop (mkF m 172 #[iv u0, iv u1, iv u2, .val (.long u3), .second, iv u4, .val (.long u5), .second, iv (2 : Int32), iv ka, iv kb, .val .null, rv b65, rv b95, iv (0 : Int32), iv (1 : Int32), iv (1 : Int32), iv (1 : Int32)] [(.int (1 : Int32)), (.int (1 : Int32))])) _
          refine XS.goto X108.here hx rfl (pc0 := 172) (pc' := 176) rfl (hb hby at_172) (by decide) (by decide) ?_
          show Steps p.tables e below (T108.setTop (mkF m 176 #[iv u0, iv u1, iv u2, .val (.long u3), .second, iv u4, .val (.long u5), .second, iv (2 : Int32), iv ka, iv kb, .val .null, rv b65, rv b95, iv (0 : Int32), iv (1 : Int32), iv (1 : Int32), iv (1 : Int32)] [(.int (1 : Int32)), (.int (1 : Int32))])) _
          refine XS.icmpNo X108.here hx rfl (hb hby at_176) rfl (teq (by decide : (1 : Int32) = (1 : Int32))).2 ?_
          show Steps p.tables e below (T108.setTop (mkF m 179 #[iv u0, iv u1, iv u2, .val (.long u3), .second, iv u4, .val (.long u5), .second, iv (2 : Int32), iv ka, iv kb, .val .null, rv b65, rv b95, iv (0 : Int32), iv (1 : Int32), iv (1 : Int32), iv (1 : Int32)] [])) _
          refine XS.iconst X108.here hx rfl (hb hby at_179) ?_
          show Steps p.tables e below (T108.setTop (mkF m 180 #[iv u0, iv u1, iv u2, .val (.long u3), .second, iv u4, .val (.long u5), .second, iv (2 : Int32), iv ka, iv kb, .val .null, rv b65, rv b95, iv (0 : Int32), iv (1 : Int32), iv (1 : Int32), iv (1 : Int32)] [(.int (1 : Int32))])) _
          refine XS.goto X108.here hx rfl (pc0 := 180) (pc' := 184) rfl (hb hby at_180) (by decide) (by decide) ?_
          show Steps p.tables e below (T108.setTop (mkF m 184 #[iv u0, iv u1, iv u2, .val (.long u3), .second, iv u4, .val (.long u5), .second, iv (2 : Int32), iv ka, iv kb, .val .null, rv b65, rv b95, iv (0 : Int32), iv (1 : Int32), iv (1 : Int32), iv (1 : Int32)] [(.int (1 : Int32))])) _
          refine XS.istore X108.here hx rfl (hb hby at_184) rfl (l' := #[iv u0, iv u1, iv u2, .val (.long u3), .second, iv u4, .val (.long u5), .second, iv (2 : Int32), iv ka, iv kb, .val .null, rv b65, rv b95, iv (0 : Int32), iv (1 : Int32), iv (1 : Int32), iv (1 : Int32)]) rfl ?_
          show Steps p.tables e below (T108.setTop (mkF m 186 #[iv u0, iv u1, iv u2, .val (.long u3), .second, iv u4, .val (.long u5), .second, iv (2 : Int32), iv ka, iv kb, .val .null, rv b65, rv b95, iv (0 : Int32), iv (1 : Int32), iv (1 : Int32), iv (1 : Int32)] [])) _
          refine XS.iconst X108.here hx rfl (hb hby at_186) ?_
          show Steps p.tables e below (T108.setTop (mkF m 187 #[iv u0, iv u1, iv u2, .val (.long u3), .second, iv u4, .val (.long u5), .second, iv (2 : Int32), iv ka, iv kb, .val .null, rv b65, rv b95, iv (0 : Int32), iv (1 : Int32), iv (1 : Int32), iv (1 : Int32)] [(.int (2 : Int32))])) _
          refine XS.istore X108.here hx rfl (hb hby at_187) rfl (l' := #[iv u0, iv u1, iv u2, .val (.long u3), .second, iv u4, .val (.long u5), .second, iv (2 : Int32), iv ka, iv kb, .val .null, rv b65, rv b95, iv (0 : Int32), iv (1 : Int32), iv (2 : Int32), iv (1 : Int32)]) rfl ?_
          show Steps p.tables e below (T108.setTop (mkF m 189 #[iv u0, iv u1, iv u2, .val (.long u3), .second, iv u4, .val (.long u5), .second, iv (2 : Int32), iv ka, iv kb, .val .null, rv b65, rv b95, iv (0 : Int32), iv (1 : Int32), iv (2 : Int32), iv (1 : Int32)] [])) _
          refine XS.iload X108.here hx rfl (hb hby at_189) rfl ?_
          show Steps p.tables e below (T108.setTop (mkF m 191 #[iv u0, iv u1, iv u2, .val (.long u3), .second, iv u4, .val (.long u5), .second, iv (2 : Int32), iv ka, iv kb, .val .null, rv b65, rv b95, iv (0 : Int32), iv (1 : Int32), iv (2 : Int32), iv (1 : Int32)] [(.int (1 : Int32))])) _
          refine XS.ifNo X108.here hx rfl (hb hby at_191) rfl ((if0 _ _).trans (feq (by decide : ¬ ((1 : Int32) = (0 : Int32)))).1) ?_
          show Steps p.tables e below (T108.setTop (mkF m 194 #[iv u0, iv u1, iv u2, .val (.long u3), .second, iv u4, .val (.long u5), .second, iv (2 : Int32), iv ka, iv kb, .val .null, rv b65, rv b95, iv (0 : Int32), iv (1 : Int32), iv (2 : Int32), iv (1 : Int32)] [])) _
          refine XS.aload X108.here hx rfl (hb hby at_194) rfl rfl ?_
          show Steps p.tables e below (T108.setTop (mkF m 196 #[iv u0, iv u1, iv u2, .val (.long u3), .second, iv u4, .val (.long u5), .second, iv (2 : Int32), iv ka, iv kb, .val .null, rv b65, rv b95, iv (0 : Int32), iv (1 : Int32), iv (2 : Int32), iv (1 : Int32)] [(.ref b95)])) _
          refine st111.trans ?_
          show Steps p.tables e below (T111.setTop (mkF m 199 #[iv u0, iv u1, iv u2, .val (.long u3), .second, iv u4, .val (.long u5), .second, iv (2 : Int32), iv ka, iv kb, .val .null, rv b65, rv b95, iv (0 : Int32), iv (1 : Int32), iv (2 : Int32), iv (1 : Int32)] [(.int (2 : Int32))])) _
          refine XS.iload X111.here hx rfl (hb hby at_199) rfl ?_
          show Steps p.tables e below (T111.setTop (mkF m 201 #[iv u0, iv u1, iv u2, .val (.long u3), .second, iv u4, .val (.long u5), .second, iv (2 : Int32), iv ka, iv kb, .val .null, rv b65, rv b95, iv (0 : Int32), iv (1 : Int32), iv (2 : Int32), iv (1 : Int32)] [(.int (2 : Int32)), (.int (2 : Int32))])) _
          refine XS.icmpNo X111.here hx rfl (hb hby at_201) rfl (teq (by decide : (2 : Int32) = (2 : Int32))).2 ?_
          show Steps p.tables e below (T111.setTop (mkF m 204 #[iv u0, iv u1, iv u2, .val (.long u3), .second, iv u4, .val (.long u5), .second, iv (2 : Int32), iv ka, iv kb, .val .null, rv b65, rv b95, iv (0 : Int32), iv (1 : Int32), iv (2 : Int32), iv (1 : Int32)] [])) _
          refine XS.iconst X111.here hx rfl (hb hby at_204) ?_
          show Steps p.tables e below (T111.setTop (mkF m 205 #[iv u0, iv u1, iv u2, .val (.long u3), .second, iv u4, .val (.long u5), .second, iv (2 : Int32), iv ka, iv kb, .val .null, rv b65, rv b95, iv (0 : Int32), iv (1 : Int32), iv (2 : Int32), iv (1 : Int32)] [(.int (1 : Int32))])) _
          refine XS.goto X111.here hx rfl (pc0 := 205) (pc' := 209) rfl (hb hby at_205) (by decide) (by decide) ?_
          show Steps p.tables e below (T111.setTop (mkF m 209 #[iv u0, iv u1, iv u2, .val (.long u3), .second, iv u4, .val (.long u5), .second, iv (2 : Int32), iv ka, iv kb, .val .null, rv b65, rv b95, iv (0 : Int32), iv (1 : Int32), iv (2 : Int32), iv (1 : Int32)] [(.int (1 : Int32))])) _
          refine XS.istore X111.here hx rfl (hb hby at_209) rfl (l' := #[iv u0, iv u1, iv u2, .val (.long u3), .second, iv u4, .val (.long u5), .second, iv (2 : Int32), iv ka, iv kb, .val .null, rv b65, rv b95, iv (0 : Int32), iv (1 : Int32), iv (2 : Int32), iv (1 : Int32)]) rfl ?_
          show Steps p.tables e below (T111.setTop (mkF m 211 #[iv u0, iv u1, iv u2, .val (.long u3), .second, iv u4, .val (.long u5), .second, iv (2 : Int32), iv ka, iv kb, .val .null, rv b65, rv b95, iv (0 : Int32), iv (1 : Int32), iv (2 : Int32), iv (1 : Int32)] [])) _
          refine XS.iload X111.here hx rfl (hb hby at_211) rfl ?_
          show Steps p.tables e below (T111.setTop (mkF m 213 #[iv u0, iv u1, iv u2, .val (.long u3), .second, iv u4, .val (.long u5), .second, iv (2 : Int32), iv ka, iv kb, .val .null, rv b65, rv b95, iv (0 : Int32), iv (1 : Int32), iv (2 : Int32), iv (1 : Int32)] [(.int (1 : Int32))])) _
          refine XS.ifNo X111.here hx rfl (hb hby at_213) rfl ((if0 _ _).trans (feq (by decide : ¬ ((1 : Int32) = (0 : Int32)))).1) ?_
          show Steps p.tables e below (T111.setTop (mkF m 216 #[iv u0, iv u1, iv u2, .val (.long u3), .second, iv u4, .val (.long u5), .second, iv (2 : Int32), iv ka, iv kb, .val .null, rv b65, rv b95, iv (0 : Int32), iv (1 : Int32), iv (2 : Int32), iv (1 : Int32)] [])) _
          refine XS.aload X111.here hx rfl (hb hby at_216) rfl rfl ?_
          show Steps p.tables e below (T111.setTop (mkF m 218 #[iv u0, iv u1, iv u2, .val (.long u3), .second, iv u4, .val (.long u5), .second, iv (2 : Int32), iv ka, iv kb, .val .null, rv b65, rv b95, iv (0 : Int32), iv (1 : Int32), iv (2 : Int32), iv (1 : Int32)] [(.ref b95)])) _
          refine XS.iconst X111.here hx rfl (hb hby at_218) ?_
          show Steps p.tables e below (T111.setTop (mkF m 219 #[iv u0, iv u1, iv u2, .val (.long u3), .second, iv u4, .val (.long u5), .second, iv (2 : Int32), iv ka, iv kb, .val .null, rv b65, rv b95, iv (0 : Int32), iv (1 : Int32), iv (2 : Int32), iv (1 : Int32)] [(.int (0 : Int32)), (.ref b95)])) _
          refine st112.trans ?_
          show Steps p.tables e below (T112.setTop (mkF m 222 #[iv u0, iv u1, iv u2, .val (.long u3), .second, iv u4, .val (.long u5), .second, iv (2 : Int32), iv ka, iv kb, .val .null, rv b65, rv b95, iv (0 : Int32), iv (1 : Int32), iv (2 : Int32), iv (1 : Int32)] [(.int ka)])) _
          refine XS.iload X112.here hx rfl (hb hby at_222) rfl ?_
          show Steps p.tables e below (T112.setTop (mkF m 224 #[iv u0, iv u1, iv u2, .val (.long u3), .second, iv u4, .val (.long u5), .second, iv (2 : Int32), iv ka, iv kb, .val .null, rv b65, rv b95, iv (0 : Int32), iv (1 : Int32), iv (2 : Int32), iv (1 : Int32)] [(.int ka), (.int ka)])) _
          refine XS.icmpNo X112.here hx rfl (hb hby at_224) rfl (teq rfl).2 ?_
          show Steps p.tables e below (T112.setTop (mkF m 227 #[iv u0, iv u1, iv u2, .val (.long u3), .second, iv u4, .val (.long u5), .second, iv (2 : Int32), iv ka, iv kb, .val .null, rv b65, rv b95, iv (0 : Int32), iv (1 : Int32), iv (2 : Int32), iv (1 : Int32)] [])) _
          refine XS.aload X112.here hx rfl (hb hby at_227) rfl rfl ?_
          show Steps p.tables e below (T112.setTop (mkF m 229 #[iv u0, iv u1, iv u2, .val (.long u3), .second, iv u4, .val (.long u5), .second, iv (2 : Int32), iv ka, iv kb, .val .null, rv b65, rv b95, iv (0 : Int32), iv (1 : Int32), iv (2 : Int32), iv (1 : Int32)] [(.ref b95)])) _
          refine XS.iconst X112.here hx rfl (hb hby at_229) ?_
          show Steps p.tables e below (T112.setTop (mkF m 230 #[iv u0, iv u1, iv u2, .val (.long u3), .second, iv u4, .val (.long u5), .second, iv (2 : Int32), iv ka, iv kb, .val .null, rv b65, rv b95, iv (0 : Int32), iv (1 : Int32), iv (2 : Int32), iv (1 : Int32)] [(.int (0 : Int32)), (.ref b95)])) _
          refine st113.trans ?_
          show Steps p.tables e below (T113.setTop (mkF m 233 #[iv u0, iv u1, iv u2, .val (.long u3), .second, iv u4, .val (.long u5), .second, iv (2 : Int32), iv ka, iv kb, .val .null, rv b65, rv b95, iv (0 : Int32), iv (1 : Int32), iv (2 : Int32), iv (1 : Int32)] [(.int u2)])) _
          refine XS.iloadN X113.here hx rfl (hb hby at_233) rfl ?_
          show Steps p.tables e below (T113.setTop (mkF m 234 #[iv u0, iv u1, iv u2, .val (.long u3), .second, iv u4, .val (.long u5), .second, iv (2 : Int32), iv ka, iv kb, .val .null, rv b65, rv b95, iv (0 : Int32), iv (1 : Int32), iv (2 : Int32), iv (1 : Int32)] [(.int u2), (.int u2)])) _
          refine XS.icmpNo X113.here hx rfl (hb hby at_234) rfl (teq rfl).2 ?_
          show Steps p.tables e below (T113.setTop (mkF m 237 #[iv u0, iv u1, iv u2, .val (.long u3), .second, iv u4, .val (.long u5), .second, iv (2 : Int32), iv ka, iv kb, .val .null, rv b65, rv b95, iv (0 : Int32), iv (1 : Int32), iv (2 : Int32), iv (1 : Int32)] [])) _
          refine XS.aload X113.here hx rfl (hb hby at_237) rfl rfl ?_
          show Steps p.tables e below (T113.setTop (mkF m 239 #[iv u0, iv u1, iv u2, .val (.long u3), .second, iv u4, .val (.long u5), .second, iv (2 : Int32), iv ka, iv kb, .val .null, rv b65, rv b95, iv (0 : Int32), iv (1 : Int32), iv (2 : Int32), iv (1 : Int32)] [(.ref b95)])) _
          refine XS.iconst X113.here hx rfl (hb hby at_239) ?_
          show Steps p.tables e below (T113.setTop (mkF m 240 #[iv u0, iv u1, iv u2, .val (.long u3), .second, iv u4, .val (.long u5), .second, iv (2 : Int32), iv ka, iv kb, .val .null, rv b65, rv b95, iv (0 : Int32), iv (1 : Int32), iv (2 : Int32), iv (1 : Int32)] [(.int (0 : Int32)), (.ref b95)])) _
          refine st114.trans ?_
          show Steps p.tables e below (T114.setTop (mkF m 243 #[iv u0, iv u1, iv u2, .val (.long u3), .second, iv u4, .val (.long u5), .second, iv (2 : Int32), iv ka, iv kb, .val .null, rv b65, rv b95, iv (0 : Int32), iv (1 : Int32), iv (2 : Int32), iv (1 : Int32)] [.null])) _
          refine XS.aload X114.here hx rfl (hb hby at_243) rfl rfl ?_
          show Steps p.tables e below (T114.setTop (mkF m 245 #[iv u0, iv u1, iv u2, .val (.long u3), .second, iv u4, .val (.long u5), .second, iv (2 : Int32), iv ka, iv kb, .val .null, rv b65, rv b95, iv (0 : Int32), iv (1 : Int32), iv (2 : Int32), iv (1 : Int32)] [.null, .null])) _
          refine Jvm.RoadKit.acmp (g := (mkF m 245 #[iv u0, iv u1, iv u2, .val (.long u3), .second, iv u4, .val (.long u5), .second, iv (2 : Int32), iv ka, iv kb, .val .null, rv b65, rv b95, iv (0 : Int32), iv (1 : Int32), iv (2 : Int32), iv (1 : Int32)] [.null, .null])) X114 hx rfl rfl rfl (pc0 := 245) (pc' := 248) (same := true) rfl (hb hby at_245) rfl (decide_eq_true rfl) (by decide) (by decide) ?_
          show Steps p.tables e below (T114.setTop (mkF m 248 #[iv u0, iv u1, iv u2, .val (.long u3), .second, iv u4, .val (.long u5), .second, iv (2 : Int32), iv ka, iv kb, .val .null, rv b65, rv b95, iv (0 : Int32), iv (1 : Int32), iv (2 : Int32), iv (1 : Int32)] [])) _
          refine XS.aload X114.here hx rfl (hb hby at_248) rfl rfl ?_
          show Steps p.tables e below (T114.setTop (mkF m 250 #[iv u0, iv u1, iv u2, .val (.long u3), .second, iv u4, .val (.long u5), .second, iv (2 : Int32), iv ka, iv kb, .val .null, rv b65, rv b95, iv (0 : Int32), iv (1 : Int32), iv (2 : Int32), iv (1 : Int32)] [(.ref b95)])) _
          refine XS.iconst X114.here hx rfl (hb hby at_250) ?_
          show Steps p.tables e below (T114.setTop (mkF m 251 #[iv u0, iv u1, iv u2, .val (.long u3), .second, iv u4, .val (.long u5), .second, iv (2 : Int32), iv ka, iv kb, .val .null, rv b65, rv b95, iv (0 : Int32), iv (1 : Int32), iv (2 : Int32), iv (1 : Int32)] [(.int (0 : Int32)), (.ref b95)])) _
          refine st115.trans ?_
          show Steps p.tables e below (T115.setTop (mkF m 254 #[iv u0, iv u1, iv u2, .val (.long u3), .second, iv u4, .val (.long u5), .second, iv (2 : Int32), iv ka, iv kb, .val .null, rv b65, rv b95, iv (0 : Int32), iv (1 : Int32), iv (2 : Int32), iv (1 : Int32)] [(.long u3)])) _
          refine XS.lloadN X115.here hx rfl (hb hby at_254) rfl ?_
          show Steps p.tables e below (T115.setTop (mkF m 255 #[iv u0, iv u1, iv u2, .val (.long u3), .second, iv u4, .val (.long u5), .second, iv (2 : Int32), iv ka, iv kb, .val .null, rv b65, rv b95, iv (0 : Int32), iv (1 : Int32), iv (2 : Int32), iv (1 : Int32)] [(.long u3), (.long u3)])) _
          refine XS.lcmp X115.here hx rfl (hb hby at_255) rfl ?_
          show Steps p.tables e below (T115.setTop (mkF m 256 #[iv u0, iv u1, iv u2, .val (.long u3), .second, iv u4, .val (.long u5), .second, iv (2 : Int32), iv ka, iv kb, .val .null, rv b65, rv b95, iv (0 : Int32), iv (1 : Int32), iv (2 : Int32), iv (1 : Int32)] [(.int (lcmpW u3 u3))])) _
          refine XS.ifNo X115.here hx rfl (hb hby at_256) rfl ((if0 _ _).trans (teq ((lw_eq _ _).mpr rfl)).2) ?_
          show Steps p.tables e below (T115.setTop (mkF m 259 #[iv u0, iv u1, iv u2, .val (.long u3), .second, iv u4, .val (.long u5), .second, iv (2 : Int32), iv ka, iv kb, .val .null, rv b65, rv b95, iv (0 : Int32), iv (1 : Int32), iv (2 : Int32), iv (1 : Int32)] [])) _
          refine XS.iconst X115.here hx rfl (hb hby at_259) ?_
          show Steps p.tables e below (T115.setTop (mkF m 260 #[iv u0, iv u1, iv u2, .val (.long u3), .second, iv u4, .val (.long u5), .second, iv (2 : Int32), iv ka, iv kb, .val .null, rv b65, rv b95, iv (0 : Int32), iv (1 : Int32), iv (2 : Int32), iv (1 : Int32)] [(.int (1 : Int32))])) _
          refine XS.goto X115.here hx rfl (pc0 := 260) (pc' := 264) rfl (hb hby at_260) (by decide) (by decide) ?_
          show Steps p.tables e below (T115.setTop (mkF m 264 #[iv u0, iv u1, iv u2, .val (.long u3), .second, iv u4, .val (.long u5), .second, iv (2 : Int32), iv ka, iv kb, .val .null, rv b65, rv b95, iv (0 : Int32), iv (1 : Int32), iv (2 : Int32), iv (1 : Int32)] [(.int (1 : Int32))])) _
          refine XS.istore X115.here hx rfl (hb hby at_264) rfl (l' := #[iv u0, iv u1, iv u2, .val (.long u3), .second, iv u4, .val (.long u5), .second, iv (2 : Int32), iv ka, iv kb, .val .null, rv b65, rv b95, iv (0 : Int32), iv (1 : Int32), iv (2 : Int32), iv (1 : Int32)]) rfl ?_
          show Steps p.tables e below (T115.setTop (mkF m 266 #[iv u0, iv u1, iv u2, .val (.long u3), .second, iv u4, .val (.long u5), .second, iv (2 : Int32), iv ka, iv kb, .val .null, rv b65, rv b95, iv (0 : Int32), iv (1 : Int32), iv (2 : Int32), iv (1 : Int32)] [])) _
          refine XS.iload X115.here hx rfl (hb hby at_266) rfl ?_
          show Steps p.tables e below (T115.setTop (mkF m 268 #[iv u0, iv u1, iv u2, .val (.long u3), .second, iv u4, .val (.long u5), .second, iv (2 : Int32), iv ka, iv kb, .val .null, rv b65, rv b95, iv (0 : Int32), iv (1 : Int32), iv (2 : Int32), iv (1 : Int32)] [(.int (2 : Int32))])) _
          refine XS.iconst X115.here hx rfl (hb hby at_268) ?_
          show Steps p.tables e below (T115.setTop (mkF m 269 #[iv u0, iv u1, iv u2, .val (.long u3), .second, iv u4, .val (.long u5), .second, iv (2 : Int32), iv ka, iv kb, .val .null, rv b65, rv b95, iv (0 : Int32), iv (1 : Int32), iv (2 : Int32), iv (1 : Int32)] [(.int (2 : Int32)), (.int (2 : Int32))])) _
          refine XS.icmpNo X115.here hx rfl (hb hby at_269) rfl (flt (by decide : ¬ ((2 : Int32) < (2 : Int32)))).1 ?_
          show Steps p.tables e below (T115.setTop (mkF m 272 #[iv u0, iv u1, iv u2, .val (.long u3), .second, iv u4, .val (.long u5), .second, iv (2 : Int32), iv ka, iv kb, .val .null, rv b65, rv b95, iv (0 : Int32), iv (1 : Int32), iv (2 : Int32), iv (1 : Int32)] [])) _
          refine XS.iload X115.here hx rfl (hb hby at_272) rfl ?_
          show Steps p.tables e below (T115.setTop (mkF m 274 #[iv u0, iv u1, iv u2, .val (.long u3), .second, iv u4, .val (.long u5), .second, iv (2 : Int32), iv ka, iv kb, .val .null, rv b65, rv b95, iv (0 : Int32), iv (1 : Int32), iv (2 : Int32), iv (1 : Int32)] [(.int (1 : Int32))])) _
          refine XS.ifNo X115.here hx rfl (hb hby at_274) rfl ((if0 _ _).trans (feq (by decide : ¬ ((1 : Int32) = (0 : Int32)))).1) ?_
          show Steps p.tables e below (T115.setTop (mkF m 277 #[iv u0, iv u1, iv u2, .val (.long u3), .second, iv u4, .val (.long u5), .second, iv (2 : Int32), iv ka, iv kb, .val .null, rv b65, rv b95, iv (0 : Int32), iv (1 : Int32), iv (2 : Int32), iv (1 : Int32)] [])) _
          refine XS.aload X115.here hx rfl (hb hby at_277) rfl rfl ?_
          show Steps p.tables e below (T115.setTop (mkF m 279 #[iv u0, iv u1, iv u2, .val (.long u3), .second, iv u4, .val (.long u5), .second, iv (2 : Int32), iv ka, iv kb, .val .null, rv b65, rv b95, iv (0 : Int32), iv (1 : Int32), iv (2 : Int32), iv (1 : Int32)] [(.ref b95)])) _
          refine XS.iconst X115.here hx rfl (hb hby at_279) ?_
          show Steps p.tables e below (T115.setTop (mkF m 280 #[iv u0, iv u1, iv u2, .val (.long u3), .second, iv u4, .val (.long u5), .second, iv (2 : Int32), iv ka, iv kb, .val .null, rv b65, rv b95, iv (0 : Int32), iv (1 : Int32), iv (2 : Int32), iv (1 : Int32)] [(.int (1 : Int32)), (.ref b95)])) _
          refine st116.trans ?_
          show Steps p.tables e below (T116.setTop (mkF m 283 #[iv u0, iv u1, iv u2, .val (.long u3), .second, iv u4, .val (.long u5), .second, iv (2 : Int32), iv ka, iv kb, .val .null, rv b65, rv b95, iv (0 : Int32), iv (1 : Int32), iv (2 : Int32), iv (1 : Int32)] [(.int kb)])) _
          refine XS.iload X116.here hx rfl (hb hby at_283) rfl ?_
          show Steps p.tables e below (T116.setTop (mkF m 285 #[iv u0, iv u1, iv u2, .val (.long u3), .second, iv u4, .val (.long u5), .second, iv (2 : Int32), iv ka, iv kb, .val .null, rv b65, rv b95, iv (0 : Int32), iv (1 : Int32), iv (2 : Int32), iv (1 : Int32)] [(.int kb), (.int kb)])) _
          refine XS.icmpNo X116.here hx rfl (hb hby at_285) rfl (teq rfl).2 ?_
          show Steps p.tables e below (T116.setTop (mkF m 288 #[iv u0, iv u1, iv u2, .val (.long u3), .second, iv u4, .val (.long u5), .second, iv (2 : Int32), iv ka, iv kb, .val .null, rv b65, rv b95, iv (0 : Int32), iv (1 : Int32), iv (2 : Int32), iv (1 : Int32)] [])) _
          refine XS.aload X116.here hx rfl (hb hby at_288) rfl rfl ?_
          show Steps p.tables e below (T116.setTop (mkF m 290 #[iv u0, iv u1, iv u2, .val (.long u3), .second, iv u4, .val (.long u5), .second, iv (2 : Int32), iv ka, iv kb, .val .null, rv b65, rv b95, iv (0 : Int32), iv (1 : Int32), iv (2 : Int32), iv (1 : Int32)] [(.ref b95)])) _
          refine XS.iconst X116.here hx rfl (hb hby at_290) ?_
          show Steps p.tables e below (T116.setTop (mkF m 291 #[iv u0, iv u1, iv u2, .val (.long u3), .second, iv u4, .val (.long u5), .second, iv (2 : Int32), iv ka, iv kb, .val .null, rv b65, rv b95, iv (0 : Int32), iv (1 : Int32), iv (2 : Int32), iv (1 : Int32)] [(.int (1 : Int32)), (.ref b95)])) _
          refine st117.trans ?_
          show Steps p.tables e below (T117.setTop (mkF m 294 #[iv u0, iv u1, iv u2, .val (.long u3), .second, iv u4, .val (.long u5), .second, iv (2 : Int32), iv ka, iv kb, .val .null, rv b65, rv b95, iv (0 : Int32), iv (1 : Int32), iv (2 : Int32), iv (1 : Int32)] [(.int u4)])) _
          refine XS.iload X117.here hx rfl (hb hby at_294) rfl ?_
          show Steps p.tables e below (T117.setTop (mkF m 296 #[iv u0, iv u1, iv u2, .val (.long u3), .second, iv u4, .val (.long u5), .second, iv (2 : Int32), iv ka, iv kb, .val .null, rv b65, rv b95, iv (0 : Int32), iv (1 : Int32), iv (2 : Int32), iv (1 : Int32)] [(.int u4), (.int u4)])) _
          refine XS.icmpNo X117.here hx rfl (hb hby at_296) rfl (teq rfl).2 ?_
          show Steps p.tables e below (T117.setTop (mkF m 299 #[iv u0, iv u1, iv u2, .val (.long u3), .second, iv u4, .val (.long u5), .second, iv (2 : Int32), iv ka, iv kb, .val .null, rv b65, rv b95, iv (0 : Int32), iv (1 : Int32), iv (2 : Int32), iv (1 : Int32)] [])) _
          refine XS.aload X117.here hx rfl (hb hby at_299) rfl rfl ?_
          show Steps p.tables e below (T117.setTop (mkF m 301 #[iv u0, iv u1, iv u2, .val (.long u3), .second, iv u4, .val (.long u5), .second, iv (2 : Int32), iv ka, iv kb, .val .null, rv b65, rv b95, iv (0 : Int32), iv (1 : Int32), iv (2 : Int32), iv (1 : Int32)] [(.ref b95)])) _
          refine XS.iconst X117.here hx rfl (hb hby at_301) ?_
          show Steps p.tables e below (T117.setTop (mkF m 302 #[iv u0, iv u1, iv u2, .val (.long u3), .second, iv u4, .val (.long u5), .second, iv (2 : Int32), iv ka, iv kb, .val .null, rv b65, rv b95, iv (0 : Int32), iv (1 : Int32), iv (2 : Int32), iv (1 : Int32)] [(.int (1 : Int32)), (.ref b95)])) _
          refine st118.trans ?_
          show Steps p.tables e below (T118.setTop (mkF m 305 #[iv u0, iv u1, iv u2, .val (.long u3), .second, iv u4, .val (.long u5), .second, iv (2 : Int32), iv ka, iv kb, .val .null, rv b65, rv b95, iv (0 : Int32), iv (1 : Int32), iv (2 : Int32), iv (1 : Int32)] [(.ref b65)])) _
          refine XS.aload X118.here hx rfl (hb hby at_305) rfl rfl ?_
          show Steps p.tables e below (T118.setTop (mkF m 307 #[iv u0, iv u1, iv u2, .val (.long u3), .second, iv u4, .val (.long u5), .second, iv (2 : Int32), iv ka, iv kb, .val .null, rv b65, rv b95, iv (0 : Int32), iv (1 : Int32), iv (2 : Int32), iv (1 : Int32)] [(.ref b65), (.ref b65)])) _
          refine Jvm.RoadKit.acmp (g := (mkF m 307 #[iv u0, iv u1, iv u2, .val (.long u3), .second, iv u4, .val (.long u5), .second, iv (2 : Int32), iv ka, iv kb, .val .null, rv b65, rv b95, iv (0 : Int32), iv (1 : Int32), iv (2 : Int32), iv (1 : Int32)] [(.ref b65), (.ref b65)])) X118 hx rfl rfl rfl (pc0 := 307) (pc' := 310) (same := true) rfl (hb hby at_307) rfl (decide_eq_true rfl) (by decide) (by decide) ?_
          show Steps p.tables e below (T118.setTop (mkF m 310 #[iv u0, iv u1, iv u2, .val (.long u3), .second, iv u4, .val (.long u5), .second, iv (2 : Int32), iv ka, iv kb, .val .null, rv b65, rv b95, iv (0 : Int32), iv (1 : Int32), iv (2 : Int32), iv (1 : Int32)] [])) _
          refine XS.aload X118.here hx rfl (hb hby at_310) rfl rfl ?_
          show Steps p.tables e below (T118.setTop (mkF m 312 #[iv u0, iv u1, iv u2, .val (.long u3), .second, iv u4, .val (.long u5), .second, iv (2 : Int32), iv ka, iv kb, .val .null, rv b65, rv b95, iv (0 : Int32), iv (1 : Int32), iv (2 : Int32), iv (1 : Int32)] [(.ref b95)])) _
          refine XS.iconst X118.here hx rfl (hb hby at_312) ?_
          show Steps p.tables e below (T118.setTop (mkF m 313 #[iv u0, iv u1, iv u2, .val (.long u3), .second, iv u4, .val (.long u5), .second, iv (2 : Int32), iv ka, iv kb, .val .null, rv b65, rv b95, iv (0 : Int32), iv (1 : Int32), iv (2 : Int32), iv (1 : Int32)] [(.int (1 : Int32)), (.ref b95)])) _
          refine st119.trans ?_
          show Steps p.tables e below (T119.setTop (mkF m 316 #[iv u0, iv u1, iv u2, .val (.long u3), .second, iv u4, .val (.long u5), .second, iv (2 : Int32), iv ka, iv kb, .val .null, rv b65, rv b95, iv (0 : Int32), iv (1 : Int32), iv (2 : Int32), iv (1 : Int32)] [(.long u5)])) _
          refine XS.lload X119.here hx rfl (hb hby at_316) rfl ?_
          show Steps p.tables e below (T119.setTop (mkF m 318 #[iv u0, iv u1, iv u2, .val (.long u3), .second, iv u4, .val (.long u5), .second, iv (2 : Int32), iv ka, iv kb, .val .null, rv b65, rv b95, iv (0 : Int32), iv (1 : Int32), iv (2 : Int32), iv (1 : Int32)] [(.long u5), (.long u5)])) _
          refine XS.lcmp X119.here hx rfl (hb hby at_318) rfl ?_
          show Steps p.tables e below (T119.setTop (mkF m 319 #[iv u0, iv u1, iv u2, .val (.long u3), .second, iv u4, .val (.long u5), .second, iv (2 : Int32), iv ka, iv kb, .val .null, rv b65, rv b95, iv (0 : Int32), iv (1 : Int32), iv (2 : Int32), iv (1 : Int32)] [(.int (lcmpW u5 u5))])) _
          refine XS.ifNo X119.here hx rfl (hb hby at_319) rfl ((if0 _ _).trans (teq ((lw_eq _ _).mpr rfl)).2) ?_
          show Steps p.tables e below (T119.setTop (mkF m 322 #[iv u0, iv u1, iv u2, .val (.long u3), .second, iv u4, .val (.long u5), .second, iv (2 : Int32), iv ka, iv kb, .val .null, rv b65, rv b95, iv (0 : Int32), iv (1 : Int32), iv (2 : Int32), iv (1 : Int32)] [])) _
          refine XS.iconst X119.here hx rfl (hb hby at_322) ?_
          show Steps p.tables e below (T119.setTop (mkF m 323 #[iv u0, iv u1, iv u2, .val (.long u3), .second, iv u4, .val (.long u5), .second, iv (2 : Int32), iv ka, iv kb, .val .null, rv b65, rv b95, iv (0 : Int32), iv (1 : Int32), iv (2 : Int32), iv (1 : Int32)] [(.int (1 : Int32))])) _
          refine XS.goto X119.here hx rfl (pc0 := 323) (pc' := 327) rfl (hb hby at_323) (by decide) (by decide) ?_
          show Steps p.tables e below (T119.setTop (mkF m 327 #[iv u0, iv u1, iv u2, .val (.long u3), .second, iv u4, .val (.long u5), .second, iv (2 : Int32), iv ka, iv kb, .val .null, rv b65, rv b95, iv (0 : Int32), iv (1 : Int32), iv (2 : Int32), iv (1 : Int32)] [(.int (1 : Int32))])) _
          refine XS.istore X119.here hx rfl (hb hby at_327) rfl (l' := #[iv u0, iv u1, iv u2, .val (.long u3), .second, iv u4, .val (.long u5), .second, iv (2 : Int32), iv ka, iv kb, .val .null, rv b65, rv b95, iv (0 : Int32), iv (1 : Int32), iv (2 : Int32), iv (1 : Int32)]) rfl ?_
          show Steps p.tables e below (T119.setTop (mkF m 329 #[iv u0, iv u1, iv u2, .val (.long u3), .second, iv u4, .val (.long u5), .second, iv (2 : Int32), iv ka, iv kb, .val .null, rv b65, rv b95, iv (0 : Int32), iv (1 : Int32), iv (2 : Int32), iv (1 : Int32)] [])) _
          refine XS.iload X119.here hx rfl (hb hby at_329) rfl ?_
          show Steps p.tables e below (T119.setTop (mkF m 331 #[iv u0, iv u1, iv u2, .val (.long u3), .second, iv u4, .val (.long u5), .second, iv (2 : Int32), iv ka, iv kb, .val .null, rv b65, rv b95, iv (0 : Int32), iv (1 : Int32), iv (2 : Int32), iv (1 : Int32)] [(.int (1 : Int32))])) _
          exact retN X119 hx (t := .boolean) Bd.returns (by simp) (hb hby at_331) hr
        · show Q0 Z u0 u1 u2 u3 u4 u5 h0 n0 _ T119.heap _
          rw [eq119]
          exact ⟨rfl, N119⟩
      · skip
        rw [hcp] at S76
        obtain ⟨T120, h120, X120, e120, E120, A120, D120, -, st120⟩ := newO X72 hx hZ hown (hw _ (List.mem_of_getElem? (i := 1) rfl)) (hw _ (List.mem_of_getElem? (i := 2) rfl)) (hw _ (List.mem_of_getElem? (i := 3) rfl)) e72 (g := (mkF m 87 #[iv u0, iv u1, iv u2, .val (.long u3), .second, iv u4, .val (.long u5), .second, iv (3 : Int32), iv ka, iv kb, .val .null, rv b65, .unset, .unset, .unset, .unset, .unset] [])) rfl (hb hby at_87) (by decide) (by decide)
        obtain ⟨b120, g120⟩ : ∃ z, z = h72.size := ⟨_, rfl⟩
        rw [← g120] at A120 D120 st120
        have ge_b120 : n0 ≤ b120 := Nat.le_trans Z72 (Nat.le_of_eq g120.symm)
        have ne_b65_b120 : b65 ≠ b120 := Nat.ne_of_lt (Nat.lt_of_lt_of_le (f75).lt (Nat.le_of_eq g120.symm))
        have f121 := f75.ext E120
        have F120_kinds : Fld Z h120 b120 "com/example/agouti/agouti/store/IndexBuilder$Notes" "kinds" "[B" .null := D120 (Or.inr (hw _ (List.mem_of_getElem? (i := 12) rfl))) (ty := (.array .byte)) (by decide)
        have F120_nodes : Fld Z h120 b120 "com/example/agouti/agouti/store/IndexBuilder$Notes" "nodes" "[I" .null := D120 (Or.inr (hw _ (List.mem_of_getElem? (i := 15) rfl))) (ty := (.array .int)) (by decide)
        have F120_values : Fld Z h120 b120 "com/example/agouti/agouti/store/IndexBuilder$Notes" "values" "[[B" .null := D120 (Or.inl (hw _ (List.mem_of_getElem? (i := 19) rfl))) (ty := (.array (.array .byte))) (by decide)
        have F120_hashes : Fld Z h120 b120 "com/example/agouti/agouti/store/IndexBuilder$Notes" "hashes" "[J" .null := D120 (Or.inr (hw _ (List.mem_of_getElem? (i := 22) rfl))) (ty := (.array .long)) (by decide)
        have F120_count : Fld Z h120 b120 "com/example/agouti/agouti/store/IndexBuilder$Notes" "count" "I" (.int (0 : Int32)) := D120 (Or.inl (hw _ (List.mem_of_getElem? (i := 29) rfl))) (ty := .int) (by decide)
        have Z120 : n0 ≤ h120.size := Nat.le_trans Z72 E120.1
        obtain ⟨_, _, ⟨T122, L122, k122, n122⟩, -, X122, ⟨Lc122, hQ122, l122, y122, z122⟩, st122⟩ := X120.specialBack hx (y := (⟨"com/example/agouti/agouti/store/IndexBuilder$Notes", "<init>", "(I)V"⟩ : MethodName)) rfl hown (mvT hZ (hw _ (List.mem_of_getElem? (i := 4) rfl))) (mvT hZ (hw _ (List.mem_of_getElem? (i := 5) rfl))) (mvT hZ (hw _ (List.mem_of_getElem? (i := 6) rfl))) (by decide) (backOf (W := 1) (rmI3 l Z a0 hw [] b120 h120 n0 Z120 A120 F120_count F120_kinds F120_nodes F120_values F120_hashes ge_b120) hZ (hw _ (List.mem_of_getElem? (i := 6) rfl)) (hw _ (List.mem_of_getElem? (i := 3) rfl)) (by decide) (by decide)) (g := (mkF m 93 #[iv u0, iv u1, iv u2, .val (.long u3), .second, iv u4, .val (.long u5), .second, iv (3 : Int32), iv ka, iv kb, .val .null, rv b65, .unset, .unset, .unset, .unset, .unset] [(.int (3 : Int32)), (.ref b120), (.ref b120)])) rfl (by rw [hml]; rfl) (Steps.refl _) (a := b120) (argsL := [(.int (3 : Int32))]) (rest := [(.ref b120)]) (lenOf pd_0 rfl) rfl (by show 2 * 0 + _ ≤ _; exact Nat.le_of_eq rfl) (hb hby at_93) (fun _ _ => ⟨rfl, e120, (by decide : 2 + 4 ≤ _), (by decide : 7 + 12 ≤ _)⟩)
        dsimp only [Pt.U, Pt.locs, Pt.cells, Pt.slots] at X122 l122 y122 z122 st122 hQ122
        subst y122 z122
        obtain ⟨rfl, Nq122, Zq122, Kq122, Bq122⟩ := hQ122
        have N122 : Fr n0 L122 := by rw [l122]; exact Fr.app N72 Nq122
        have f123 := f121.keep Kq122
        have f124 := A120.keep Kq122
        have oe122 := Bq122.1
        obtain ⟨cq130, kq130, q130a, q130b, q130c⟩ := isOf hZ rfl oe122
        obtain ⟨_, _, ⟨T130, L130, k130, n130⟩, -, X130, ⟨Lc130, hQ130, l130, y130, z130⟩, st130⟩ := X122.virtualBack hx (y := (⟨"com/example/agouti/agouti/store/IndexBuilder$Notes", "add", "(BI[BJ)Z"⟩ : MethodName)) (z := (⟨"com/example/agouti/agouti/store/IndexBuilder$Notes", "add", "(BI[BJ)Z"⟩ : MethodName)) hown (mvT hZ (hw _ (List.mem_of_getElem? (i := 23) rfl))) (mvT hZ (hw _ (List.mem_of_getElem? (i := 24) rfl))) (notFace_of_selects (args := #[]) (mvT hZ (hw _ (List.mem_of_getElem? (i := 26) rfl)))) (mvT hZ (hw _ (List.mem_of_getElem? (i := 26) rfl))) (mvT hZ (hw _ (List.mem_of_getElem? (i := 25) rfl))) (by decide) (backOf (W := 0) (rmAddN l Z a0 hw [] b120 ka u2 u3 (3 : Int32) (0 : Int32) [0, 0, 0] [0, 0, 0] [.null, .null, .null] [0, 0, 0] T122.heap n0 Zq122 Bq122 ge_b120 (by decide) (by decide) (by rw [e_ka]; exact own_nb _)) hZ (hw _ (List.mem_of_getElem? (i := 27) rfl)) (hw _ (List.mem_of_getElem? (i := 3) rfl)) (by decide) (by decide)) q130a q130c (g := (mkF m 106 #[iv u0, iv u1, iv u2, .val (.long u3), .second, iv u4, .val (.long u5), .second, iv (3 : Int32), iv ka, iv kb, .val .null, rv b65, rv b120, .unset, .unset, .unset, .unset] [(.long u3), .null, (.int u2), (.int ka), (.ref b120)])) rfl (by rw [hml]; rfl) (Steps.refl _) (argsL := [(.int ka), (.int u2), .null, (.long u3)]) (rest := []) (lenOf pd_1 rfl) rfl (by show 2 * 0 + _ ≤ _; exact Nat.le_of_eq rfl) (hb hby at_106) (fun _ _ => ⟨rfl, rfl, (by decide : 6 + 0 ≤ _), (by decide : 19 + 0 ≤ _)⟩)
        dsimp only [Pt.U, Pt.locs, Pt.cells, Pt.slots] at X130 l130 y130 z130 st130 hQ130
        subst y130 z130
        obtain ⟨rfl, Nq130, Zq130, Kx130, Bq130⟩ := hQ130
        have N130 : Fr n0 L130 := by rw [l130]; exact Fr.app N122 Nq130
        obtain ⟨wsq130, Kq130⟩ := Kx130
        have f131 := f123.keep Kq130
        have f132 := oe122.keep Kq130
        have B130 : own_N Z T130.heap n0 b120 (3 : Int32) (1 : Int32) [ka, 0, 0] [u2, 0, 0] [.null, .null, .null] [u3, 0, 0] := Bq130
        obtain ⟨cq133, kq133, q133a, q133b, q133c⟩ := isOf hZ rfl f132
        obtain ⟨_, _, ⟨T133, L133, k133, n133⟩, -, X133, ⟨Lc133, hQ133, l133, y133, z133⟩, st133⟩ := X130.virtualBack hx (y := (⟨"com/example/agouti/agouti/store/IndexBuilder$Notes", "add", "(BI[BJ)Z"⟩ : MethodName)) (z := (⟨"com/example/agouti/agouti/store/IndexBuilder$Notes", "add", "(BI[BJ)Z"⟩ : MethodName)) hown (mvT hZ (hw _ (List.mem_of_getElem? (i := 23) rfl))) (mvT hZ (hw _ (List.mem_of_getElem? (i := 24) rfl))) (notFace_of_selects (args := #[]) (mvT hZ (hw _ (List.mem_of_getElem? (i := 26) rfl)))) (mvT hZ (hw _ (List.mem_of_getElem? (i := 26) rfl))) (mvT hZ (hw _ (List.mem_of_getElem? (i := 25) rfl))) (by decide) (backOf (W := 0) (rmAddR l Z a0 hw [] b120 kb u4 b65 u5 (3 : Int32) (1 : Int32) [ka, 0, 0] [u2, 0, 0] [.null, .null, .null] [u3, 0, 0] T130.heap n0 Zq130 B130 ge_b120 (by decide) (by decide) (by rw [e_kb]; exact own_nb _) f131) hZ (hw _ (List.mem_of_getElem? (i := 27) rfl)) (hw _ (List.mem_of_getElem? (i := 3) rfl)) (by decide) (by decide)) q133a q133c (g := (mkF m 153 #[iv u0, iv u1, iv u2, .val (.long u3), .second, iv u4, .val (.long u5), .second, iv (3 : Int32), iv ka, iv kb, .val .null, rv b65, rv b120, iv (0 : Int32), iv (1 : Int32), iv (1 : Int32), .unset] [(.long u5), (.ref b65), (.int u4), (.int kb), (.ref b120)])) rfl (by rw [hml]; rfl) (Steps.refl _) (argsL := [(.int kb), (.int u4), (.ref b65), (.long u5)]) (rest := []) (lenOf pd_1 rfl) rfl (by show 2 * 0 + _ ≤ _; exact Nat.le_of_eq rfl) (hb hby at_153) (fun _ _ => ⟨rfl, rfl, (by decide : 6 + 0 ≤ _), (by decide : 19 + 0 ≤ _)⟩)
        dsimp only [Pt.U, Pt.locs, Pt.cells, Pt.slots] at X133 l133 y133 z133 st133 hQ133
        subst y133 z133
        obtain ⟨rfl, Nq133, Zq133, Kx133, Bq133⟩ := hQ133
        have N133 : Fr n0 L133 := by rw [l133]; exact Fr.app N130 Nq133
        obtain ⟨wsq133, Kq133⟩ := Kx133
        have f134 := f131.keep Kq133
        have f135 := f132.keep Kq133
        have B133 : own_N Z T133.heap n0 b120 (3 : Int32) (2 : Int32) [ka, kb, 0] [u2, u4, 0] [.null, (.ref b65), .null] [u3, u5, 0] := Bq133
        obtain ⟨cq136, kq136, q136a, q136b, q136c⟩ := isOf hZ rfl f135
        obtain ⟨_, _, ⟨T136, L136, k136, n136⟩, -, X136, ⟨Lc136, hQ136, l136, y136, z136⟩, st136⟩ := X133.virtualBack hx (y := (⟨"com/example/agouti/agouti/store/IndexBuilder$Notes", "count", "()I"⟩ : MethodName)) (z := (⟨"com/example/agouti/agouti/store/IndexBuilder$Notes", "count", "()I"⟩ : MethodName)) hown (mvT hZ (hw _ (List.mem_of_getElem? (i := 30) rfl))) (mvT hZ (hw _ (List.mem_of_getElem? (i := 31) rfl))) (notFace_of_selects (args := #[]) (mvT hZ (hw _ (List.mem_of_getElem? (i := 33) rfl)))) (mvT hZ (hw _ (List.mem_of_getElem? (i := 33) rfl))) (mvT hZ (hw _ (List.mem_of_getElem? (i := 32) rfl))) (by decide) (backOf (W := 0) (rmCount l Z a0 hw [] b120 (3 : Int32) (2 : Int32) [ka, kb, 0] [u2, u4, 0] [.null, (.ref b65), .null] [u3, u5, 0] T133.heap n0 Zq133 B133) hZ (hw _ (List.mem_of_getElem? (i := 34) rfl)) (hw _ (List.mem_of_getElem? (i := 3) rfl)) (by decide) (by decide)) q136a q136c (g := (mkF m 196 #[iv u0, iv u1, iv u2, .val (.long u3), .second, iv u4, .val (.long u5), .second, iv (3 : Int32), iv ka, iv kb, .val .null, rv b65, rv b120, iv (0 : Int32), iv (1 : Int32), iv (2 : Int32), iv (0 : Int32)] [(.ref b120)])) rfl (by rw [hml]; rfl) (Steps.refl _) (argsL := []) (rest := []) (lenOf pd_2 rfl) rfl (by show 2 * 0 + _ ≤ _; exact Nat.le_of_eq rfl) (hb hby at_196) (fun _ _ => ⟨rfl, rfl, (by decide : 6 + 0 ≤ _), (by decide : 19 + 0 ≤ _)⟩)
        dsimp only [Pt.U, Pt.locs, Pt.cells, Pt.slots] at X136 l136 y136 z136 st136 hQ136
        subst y136 z136
        obtain ⟨rfl, Nq136, eq136⟩ := hQ136
        have N136 : Fr n0 L136 := by rw [l136]; exact Fr.app N133 Nq136
        obtain ⟨cq137, kq137, q137a, q137b, q137c⟩ := isOf hZ eq136 f135
        obtain ⟨_, _, ⟨T137, L137, k137, n137⟩, -, X137, ⟨Lc137, hQ137, l137, y137, z137⟩, st137⟩ := X136.virtualBack hx (y := (⟨"com/example/agouti/agouti/store/IndexBuilder$Notes", "kind", "(I)B"⟩ : MethodName)) (z := (⟨"com/example/agouti/agouti/store/IndexBuilder$Notes", "kind", "(I)B"⟩ : MethodName)) hown (mvT hZ (hw _ (List.mem_of_getElem? (i := 35) rfl))) (mvT hZ (hw _ (List.mem_of_getElem? (i := 36) rfl))) (notFace_of_selects (args := #[]) (mvT hZ (hw _ (List.mem_of_getElem? (i := 38) rfl)))) (mvT hZ (hw _ (List.mem_of_getElem? (i := 38) rfl))) (mvT hZ (hw _ (List.mem_of_getElem? (i := 37) rfl))) (by decide) (backOf (W := 0) (rmKind l Z a0 hw [] b120 (0 : Int32) (3 : Int32) (2 : Int32) [ka, kb, 0] [u2, u4, 0] [.null, (.ref b65), .null] [u3, u5, 0] ka T133.heap n0 Zq133 B133 (by decide) (by decide) rfl (by rw [e_ka]; exact own_nb _)) hZ (hw _ (List.mem_of_getElem? (i := 39) rfl)) (hw _ (List.mem_of_getElem? (i := 3) rfl)) (by decide) (by decide)) q137a q137c (g := (mkF m 219 #[iv u0, iv u1, iv u2, .val (.long u3), .second, iv u4, .val (.long u5), .second, iv (3 : Int32), iv ka, iv kb, .val .null, rv b65, rv b120, iv (0 : Int32), iv (1 : Int32), iv (2 : Int32), iv (0 : Int32)] [(.int (0 : Int32)), (.ref b120)])) rfl (by rw [hml]; rfl) (Steps.refl _) (argsL := [(.int (0 : Int32))]) (rest := []) (lenOf pd_3 rfl) rfl (by show 2 * 0 + _ ≤ _; exact Nat.le_of_eq rfl) (hb hby at_219) (fun _ _ => ⟨rfl, eq136, (by decide : 6 + 0 ≤ _), (by decide : 19 + 0 ≤ _)⟩)
        dsimp only [Pt.U, Pt.locs, Pt.cells, Pt.slots] at X137 l137 y137 z137 st137 hQ137
        subst y137 z137
        obtain ⟨rfl, Nq137, eq137⟩ := hQ137
        have N137 : Fr n0 L137 := by rw [l137]; exact Fr.app N136 Nq137
        obtain ⟨cq138, kq138, q138a, q138b, q138c⟩ := isOf hZ eq137 f135
        obtain ⟨_, _, ⟨T138, L138, k138, n138⟩, -, X138, ⟨Lc138, hQ138, l138, y138, z138⟩, st138⟩ := X137.virtualBack hx (y := (⟨"com/example/agouti/agouti/store/IndexBuilder$Notes", "node", "(I)I"⟩ : MethodName)) (z := (⟨"com/example/agouti/agouti/store/IndexBuilder$Notes", "node", "(I)I"⟩ : MethodName)) hown (mvT hZ (hw _ (List.mem_of_getElem? (i := 40) rfl))) (mvT hZ (hw _ (List.mem_of_getElem? (i := 41) rfl))) (notFace_of_selects (args := #[]) (mvT hZ (hw _ (List.mem_of_getElem? (i := 43) rfl)))) (mvT hZ (hw _ (List.mem_of_getElem? (i := 43) rfl))) (mvT hZ (hw _ (List.mem_of_getElem? (i := 42) rfl))) (by decide) (backOf (W := 0) (rmNode l Z a0 hw [] b120 (0 : Int32) (3 : Int32) (2 : Int32) [ka, kb, 0] [u2, u4, 0] [.null, (.ref b65), .null] [u3, u5, 0] u2 T133.heap n0 Zq133 B133 (by decide) (by decide) rfl) hZ (hw _ (List.mem_of_getElem? (i := 44) rfl)) (hw _ (List.mem_of_getElem? (i := 3) rfl)) (by decide) (by decide)) q138a q138c (g := (mkF m 230 #[iv u0, iv u1, iv u2, .val (.long u3), .second, iv u4, .val (.long u5), .second, iv (3 : Int32), iv ka, iv kb, .val .null, rv b65, rv b120, iv (0 : Int32), iv (1 : Int32), iv (2 : Int32), iv (0 : Int32)] [(.int (0 : Int32)), (.ref b120)])) rfl (by rw [hml]; rfl) (Steps.refl _) (argsL := [(.int (0 : Int32))]) (rest := []) (lenOf pd_4 rfl) rfl (by show 2 * 0 + _ ≤ _; exact Nat.le_of_eq rfl) (hb hby at_230) (fun _ _ => ⟨rfl, eq137, (by decide : 6 + 0 ≤ _), (by decide : 19 + 0 ≤ _)⟩)
        dsimp only [Pt.U, Pt.locs, Pt.cells, Pt.slots] at X138 l138 y138 z138 st138 hQ138
        subst y138 z138
        obtain ⟨rfl, Nq138, eq138⟩ := hQ138
        have N138 : Fr n0 L138 := by rw [l138]; exact Fr.app N137 Nq138
        obtain ⟨cq139, kq139, q139a, q139b, q139c⟩ := isOf hZ eq138 f135
        obtain ⟨_, _, ⟨T139, L139, k139, n139⟩, -, X139, ⟨Lc139, hQ139, l139, y139, z139⟩, st139⟩ := X138.virtualBack hx (y := (⟨"com/example/agouti/agouti/store/IndexBuilder$Notes", "value", "(I)[B"⟩ : MethodName)) (z := (⟨"com/example/agouti/agouti/store/IndexBuilder$Notes", "value", "(I)[B"⟩ : MethodName)) hown (mvT hZ (hw _ (List.mem_of_getElem? (i := 45) rfl))) (mvT hZ (hw _ (List.mem_of_getElem? (i := 46) rfl))) (notFace_of_selects (args := #[]) (mvT hZ (hw _ (List.mem_of_getElem? (i := 48) rfl)))) (mvT hZ (hw _ (List.mem_of_getElem? (i := 48) rfl))) (mvT hZ (hw _ (List.mem_of_getElem? (i := 47) rfl))) (by decide) (backOf (W := 0) (rmVal0 l Z a0 hw [] b120 (0 : Int32) (3 : Int32) (2 : Int32) [ka, kb, 0] [u2, u4, 0] [.null, (.ref b65), .null] [u3, u5, 0] T133.heap n0 Zq133 B133 (by decide) (by decide) rfl) hZ (hw _ (List.mem_of_getElem? (i := 49) rfl)) (hw _ (List.mem_of_getElem? (i := 3) rfl)) (by decide) (by decide)) q139a q139c (g := (mkF m 240 #[iv u0, iv u1, iv u2, .val (.long u3), .second, iv u4, .val (.long u5), .second, iv (3 : Int32), iv ka, iv kb, .val .null, rv b65, rv b120, iv (0 : Int32), iv (1 : Int32), iv (2 : Int32), iv (0 : Int32)] [(.int (0 : Int32)), (.ref b120)])) rfl (by rw [hml]; rfl) (Steps.refl _) (argsL := [(.int (0 : Int32))]) (rest := []) (lenOf pd_5 rfl) rfl (by show 2 * 0 + _ ≤ _; exact Nat.le_of_eq rfl) (hb hby at_240) (fun _ _ => ⟨rfl, eq138, (by decide : 6 + 0 ≤ _), (by decide : 19 + 0 ≤ _)⟩)
        dsimp only [Pt.U, Pt.locs, Pt.cells, Pt.slots] at X139 l139 y139 z139 st139 hQ139
        subst y139 z139
        obtain ⟨rfl, Nq139, eq139⟩ := hQ139
        have N139 : Fr n0 L139 := by rw [l139]; exact Fr.app N138 Nq139
        obtain ⟨cq140, kq140, q140a, q140b, q140c⟩ := isOf hZ eq139 f135
        obtain ⟨_, _, ⟨T140, L140, k140, n140⟩, -, X140, ⟨Lc140, hQ140, l140, y140, z140⟩, st140⟩ := X139.virtualBack hx (y := (⟨"com/example/agouti/agouti/store/IndexBuilder$Notes", "hash", "(I)J"⟩ : MethodName)) (z := (⟨"com/example/agouti/agouti/store/IndexBuilder$Notes", "hash", "(I)J"⟩ : MethodName)) hown (mvT hZ (hw _ (List.mem_of_getElem? (i := 50) rfl))) (mvT hZ (hw _ (List.mem_of_getElem? (i := 51) rfl))) (notFace_of_selects (args := #[]) (mvT hZ (hw _ (List.mem_of_getElem? (i := 53) rfl)))) (mvT hZ (hw _ (List.mem_of_getElem? (i := 53) rfl))) (mvT hZ (hw _ (List.mem_of_getElem? (i := 52) rfl))) (by decide) (backOf (W := 0) (rmHash l Z a0 hw [] b120 (0 : Int32) (3 : Int32) (2 : Int32) [ka, kb, 0] [u2, u4, 0] [.null, (.ref b65), .null] [u3, u5, 0] u3 T133.heap n0 Zq133 B133 (by decide) (by decide) rfl) hZ (hw _ (List.mem_of_getElem? (i := 54) rfl)) (hw _ (List.mem_of_getElem? (i := 3) rfl)) (by decide) (by decide)) q140a q140c (g := (mkF m 251 #[iv u0, iv u1, iv u2, .val (.long u3), .second, iv u4, .val (.long u5), .second, iv (3 : Int32), iv ka, iv kb, .val .null, rv b65, rv b120, iv (0 : Int32), iv (1 : Int32), iv (2 : Int32), iv (0 : Int32)] [(.int (0 : Int32)), (.ref b120)])) rfl (by rw [hml]; rfl) (Steps.refl _) (argsL := [(.int (0 : Int32))]) (rest := []) (lenOf pd_6 rfl) rfl (by show 2 * 0 + _ ≤ _; exact Nat.le_of_eq rfl) (hb hby at_251) (fun _ _ => ⟨rfl, eq139, (by decide : 6 + 0 ≤ _), (by decide : 19 + 0 ≤ _)⟩)
        dsimp only [Pt.U, Pt.locs, Pt.cells, Pt.slots] at X140 l140 y140 z140 st140 hQ140
        subst y140 z140
        obtain ⟨rfl, Nq140, eq140⟩ := hQ140
        have N140 : Fr n0 L140 := by rw [l140]; exact Fr.app N139 Nq140
        obtain ⟨cq141, kq141, q141a, q141b, q141c⟩ := isOf hZ eq140 f135
        obtain ⟨_, _, ⟨T141, L141, k141, n141⟩, -, X141, ⟨Lc141, hQ141, l141, y141, z141⟩, st141⟩ := X140.virtualBack hx (y := (⟨"com/example/agouti/agouti/store/IndexBuilder$Notes", "kind", "(I)B"⟩ : MethodName)) (z := (⟨"com/example/agouti/agouti/store/IndexBuilder$Notes", "kind", "(I)B"⟩ : MethodName)) hown (mvT hZ (hw _ (List.mem_of_getElem? (i := 35) rfl))) (mvT hZ (hw _ (List.mem_of_getElem? (i := 36) rfl))) (notFace_of_selects (args := #[]) (mvT hZ (hw _ (List.mem_of_getElem? (i := 38) rfl)))) (mvT hZ (hw _ (List.mem_of_getElem? (i := 38) rfl))) (mvT hZ (hw _ (List.mem_of_getElem? (i := 37) rfl))) (by decide) (backOf (W := 0) (rmKind l Z a0 hw [] b120 (1 : Int32) (3 : Int32) (2 : Int32) [ka, kb, 0] [u2, u4, 0] [.null, (.ref b65), .null] [u3, u5, 0] kb T133.heap n0 Zq133 B133 (by decide) (by decide) rfl (by rw [e_kb]; exact own_nb _)) hZ (hw _ (List.mem_of_getElem? (i := 39) rfl)) (hw _ (List.mem_of_getElem? (i := 3) rfl)) (by decide) (by decide)) q141a q141c (g := (mkF m 280 #[iv u0, iv u1, iv u2, .val (.long u3), .second, iv u4, .val (.long u5), .second, iv (3 : Int32), iv ka, iv kb, .val .null, rv b65, rv b120, iv (0 : Int32), iv (1 : Int32), iv (2 : Int32), iv (0 : Int32)] [(.int (1 : Int32)), (.ref b120)])) rfl (by rw [hml]; rfl) (Steps.refl _) (argsL := [(.int (1 : Int32))]) (rest := []) (lenOf pd_3 rfl) rfl (by show 2 * 0 + _ ≤ _; exact Nat.le_of_eq rfl) (hb hby at_280) (fun _ _ => ⟨rfl, eq140, (by decide : 6 + 0 ≤ _), (by decide : 19 + 0 ≤ _)⟩)
        dsimp only [Pt.U, Pt.locs, Pt.cells, Pt.slots] at X141 l141 y141 z141 st141 hQ141
        subst y141 z141
        obtain ⟨rfl, Nq141, eq141⟩ := hQ141
        have N141 : Fr n0 L141 := by rw [l141]; exact Fr.app N140 Nq141
        obtain ⟨cq142, kq142, q142a, q142b, q142c⟩ := isOf hZ eq141 f135
        obtain ⟨_, _, ⟨T142, L142, k142, n142⟩, -, X142, ⟨Lc142, hQ142, l142, y142, z142⟩, st142⟩ := X141.virtualBack hx (y := (⟨"com/example/agouti/agouti/store/IndexBuilder$Notes", "node", "(I)I"⟩ : MethodName)) (z := (⟨"com/example/agouti/agouti/store/IndexBuilder$Notes", "node", "(I)I"⟩ : MethodName)) hown (mvT hZ (hw _ (List.mem_of_getElem? (i := 40) rfl))) (mvT hZ (hw _ (List.mem_of_getElem? (i := 41) rfl))) (notFace_of_selects (args := #[]) (mvT hZ (hw _ (List.mem_of_getElem? (i := 43) rfl)))) (mvT hZ (hw _ (List.mem_of_getElem? (i := 43) rfl))) (mvT hZ (hw _ (List.mem_of_getElem? (i := 42) rfl))) (by decide) (backOf (W := 0) (rmNode l Z a0 hw [] b120 (1 : Int32) (3 : Int32) (2 : Int32) [ka, kb, 0] [u2, u4, 0] [.null, (.ref b65), .null] [u3, u5, 0] u4 T133.heap n0 Zq133 B133 (by decide) (by decide) rfl) hZ (hw _ (List.mem_of_getElem? (i := 44) rfl)) (hw _ (List.mem_of_getElem? (i := 3) rfl)) (by decide) (by decide)) q142a q142c (g := (mkF m 291 #[iv u0, iv u1, iv u2, .val (.long u3), .second, iv u4, .val (.long u5), .second, iv (3 : Int32), iv ka, iv kb, .val .null, rv b65, rv b120, iv (0 : Int32), iv (1 : Int32), iv (2 : Int32), iv (0 : Int32)] [(.int (1 : Int32)), (.ref b120)])) rfl (by rw [hml]; rfl) (Steps.refl _) (argsL := [(.int (1 : Int32))]) (rest := []) (lenOf pd_4 rfl) rfl (by show 2 * 0 + _ ≤ _; exact Nat.le_of_eq rfl) (hb hby at_291) (fun _ _ => ⟨rfl, eq141, (by decide : 6 + 0 ≤ _), (by decide : 19 + 0 ≤ _)⟩)
        dsimp only [Pt.U, Pt.locs, Pt.cells, Pt.slots] at X142 l142 y142 z142 st142 hQ142
        subst y142 z142
        obtain ⟨rfl, Nq142, eq142⟩ := hQ142
        have N142 : Fr n0 L142 := by rw [l142]; exact Fr.app N141 Nq142
        obtain ⟨cq143, kq143, q143a, q143b, q143c⟩ := isOf hZ eq142 f135
        obtain ⟨_, _, ⟨T143, L143, k143, n143⟩, -, X143, ⟨Lc143, hQ143, l143, y143, z143⟩, st143⟩ := X142.virtualBack hx (y := (⟨"com/example/agouti/agouti/store/IndexBuilder$Notes", "value", "(I)[B"⟩ : MethodName)) (z := (⟨"com/example/agouti/agouti/store/IndexBuilder$Notes", "value", "(I)[B"⟩ : MethodName)) hown (mvT hZ (hw _ (List.mem_of_getElem? (i := 45) rfl))) (mvT hZ (hw _ (List.mem_of_getElem? (i := 46) rfl))) (notFace_of_selects (args := #[]) (mvT hZ (hw _ (List.mem_of_getElem? (i := 48) rfl)))) (mvT hZ (hw _ (List.mem_of_getElem? (i := 48) rfl))) (mvT hZ (hw _ (List.mem_of_getElem? (i := 47) rfl))) (by decide) (backOf (W := 0) (rmVal1 l Z a0 hw [] b120 (1 : Int32) (3 : Int32) (2 : Int32) [ka, kb, 0] [u2, u4, 0] [.null, (.ref b65), .null] [u3, u5, 0] b65 T133.heap n0 Zq133 B133 (by decide) (by decide) rfl) hZ (hw _ (List.mem_of_getElem? (i := 49) rfl)) (hw _ (List.mem_of_getElem? (i := 3) rfl)) (by decide) (by decide)) q143a q143c (g := (mkF m 302 #[iv u0, iv u1, iv u2, .val (.long u3), .second, iv u4, .val (.long u5), .second, iv (3 : Int32), iv ka, iv kb, .val .null, rv b65, rv b120, iv (0 : Int32), iv (1 : Int32), iv (2 : Int32), iv (0 : Int32)] [(.int (1 : Int32)), (.ref b120)])) rfl (by rw [hml]; rfl) (Steps.refl _) (argsL := [(.int (1 : Int32))]) (rest := []) (lenOf pd_5 rfl) rfl (by show 2 * 0 + _ ≤ _; exact Nat.le_of_eq rfl) (hb hby at_302) (fun _ _ => ⟨rfl, eq142, (by decide : 6 + 0 ≤ _), (by decide : 19 + 0 ≤ _)⟩)
        dsimp only [Pt.U, Pt.locs, Pt.cells, Pt.slots] at X143 l143 y143 z143 st143 hQ143
        subst y143 z143
        obtain ⟨rfl, Nq143, eq143⟩ := hQ143
        have N143 : Fr n0 L143 := by rw [l143]; exact Fr.app N142 Nq143
        obtain ⟨cq144, kq144, q144a, q144b, q144c⟩ := isOf hZ eq143 f135
        obtain ⟨_, _, ⟨T144, L144, k144, n144⟩, -, X144, ⟨Lc144, hQ144, l144, y144, z144⟩, st144⟩ := X143.virtualBack hx (y := (⟨"com/example/agouti/agouti/store/IndexBuilder$Notes", "hash", "(I)J"⟩ : MethodName)) (z := (⟨"com/example/agouti/agouti/store/IndexBuilder$Notes", "hash", "(I)J"⟩ : MethodName)) hown (mvT hZ (hw _ (List.mem_of_getElem? (i := 50) rfl))) (mvT hZ (hw _ (List.mem_of_getElem? (i := 51) rfl))) (notFace_of_selects (args := #[]) (mvT hZ (hw _ (List.mem_of_getElem? (i := 53) rfl)))) (mvT hZ (hw _ (List.mem_of_getElem? (i := 53) rfl))) (mvT hZ (hw _ (List.mem_of_getElem? (i := 52) rfl))) (by decide) (backOf (W := 0) (rmHash l Z a0 hw [] b120 (1 : Int32) (3 : Int32) (2 : Int32) [ka, kb, 0] [u2, u4, 0] [.null, (.ref b65), .null] [u3, u5, 0] u5 T133.heap n0 Zq133 B133 (by decide) (by decide) rfl) hZ (hw _ (List.mem_of_getElem? (i := 54) rfl)) (hw _ (List.mem_of_getElem? (i := 3) rfl)) (by decide) (by decide)) q144a q144c (g := (mkF m 313 #[iv u0, iv u1, iv u2, .val (.long u3), .second, iv u4, .val (.long u5), .second, iv (3 : Int32), iv ka, iv kb, .val .null, rv b65, rv b120, iv (0 : Int32), iv (1 : Int32), iv (2 : Int32), iv (0 : Int32)] [(.int (1 : Int32)), (.ref b120)])) rfl (by rw [hml]; rfl) (Steps.refl _) (argsL := [(.int (1 : Int32))]) (rest := []) (lenOf pd_6 rfl) rfl (by show 2 * 0 + _ ≤ _; exact Nat.le_of_eq rfl) (hb hby at_313) (fun _ _ => ⟨rfl, eq143, (by decide : 6 + 0 ≤ _), (by decide : 19 + 0 ≤ _)⟩)
        dsimp only [Pt.U, Pt.locs, Pt.cells, Pt.slots] at X144 l144 y144 z144 st144 hQ144
        subst y144 z144
        obtain ⟨rfl, Nq144, eq144⟩ := hQ144
        have N144 : Fr n0 L144 := by rw [l144]; exact Fr.app N143 Nq144
        obtain ⟨fs, hr, hrun, hended, hW, hsame⟩ := X144.leave (v := some (.int (1 : Int32))) (fun h => by rw [Bd.returns] at h; cases h)
        refine ⟨_, _, S76 _ ?_, hrun, hended, _, _, rfl, ?_, ⟨_, rfl⟩, hW, hsame.mono (by decide) (by decide)⟩
        · skip
          show Steps p.tables e below (T72.setTop (mkF m 87 #[iv u0, iv u1, iv u2, .val (.long u3), .second, iv u4, .val (.long u5), .second, iv (3 : Int32), iv ka, iv kb, .val .null, rv b65, .unset, .unset, .unset, .unset, .unset] [])) _
          refine st120 _ ?_
          show Steps p.tables e below (T120.setTop (mkF m 90 #[iv u0, iv u1, iv u2, .val (.long u3), .second, iv u4, .val (.long u5), .second, iv (3 : Int32), iv ka, iv kb, .val .null, rv b65, .unset, .unset, .unset, .unset, .unset] [(.ref b120)])) _
          refine XS.dup X120.here hx rfl (hb hby at_90) rfl rfl ?_
          show Steps p.tables e below (T120.setTop (mkF m 91 #[iv u0, iv u1, iv u2, .val (.long u3), .second, iv u4, .val (.long u5), .second, iv (3 : Int32), iv ka, iv kb, .val .null, rv b65, .unset, .unset, .unset, .unset, .unset] [(.ref b120), (.ref b120)])) _
          refine XS.iload X120.here hx rfl (hb hby at_91) rfl ?_
          show Steps p.tables e below (T120.setTop (mkF m 93 #[iv u0, iv u1, iv u2, .val (.long u3), .second, iv u4, .val (.long u5), .second, iv (3 : Int32), iv ka, iv kb, .val .null, rv b65, .unset, .unset, .unset, .unset, .unset] [(.int (3 : Int32)), (.ref b120), (.ref b120)])) _
          refine st122.trans ?_
          show Steps p.tables e below (T122.setTop (mkF m 96 #[iv u0, iv u1, iv u2, .val (.long u3), .second, iv u4, .val (.long u5), .second, iv (3 : Int32), iv ka, iv kb, .val .null, rv b65, .unset, .unset, .unset, .unset, .unset] [(.ref b120)])) _
          refine XS.astore X122.here hx rfl (hb hby at_96) rfl rfl (l' := #[iv u0, iv u1, iv u2, .val (.long u3), .second, iv u4, .val (.long u5), .second, iv (3 : Int32), iv ka, iv kb, .val .null, rv b65, rv b120, .unset, .unset, .unset, .unset]) rfl ?_
          show Steps p.tables e below (T122.setTop (mkF m 98 #[iv u0, iv u1, iv u2, .val (.long u3), .second, iv u4, .val (.long u5), .second, iv (3 : Int32), iv ka, iv kb, .val .null, rv b65, rv b120, .unset, .unset, .unset, .unset] [])) _
          refine XS.aload X122.here hx rfl (hb hby at_98) rfl rfl ?_
          show Steps p.tables e below (T122.setTop (mkF m 100 #[iv u0, iv u1, iv u2, .val (.long u3), .second, iv u4, .val (.long u5), .second, iv (3 : Int32), iv ka, iv kb, .val .null, rv b65, rv b120, .unset, .unset, .unset, .unset] [(.ref b120)])) _
          refine XS.iload X122.here hx rfl (hb hby at_100) rfl ?_
          show Steps p.tables e below (T122.setTop (mkF m 102 #[iv u0, iv u1, iv u2, .val (.long u3), .second, iv u4, .val (.long u5), .second, iv (3 : Int32), iv ka, iv kb, .val .null, rv b65, rv b120, .unset, .unset, .unset, .unset] [(.int ka), (.ref b120)])) _
          refine XS.iloadN X122.here hx rfl (hb hby at_102) rfl ?_
          show Steps p.tables e below (T122.setTop (mkF m 103 #[iv u0, iv u1, iv u2, .val (.long u3), .second, iv u4, .val (.long u5), .second, iv (3 : Int32), iv ka, iv kb, .val .null, rv b65, rv b120, .unset, .unset, .unset, .unset] [(.int u2), (.int ka), (.ref b120)])) _
          refine XS.aload X122.here hx rfl (hb hby at_103) rfl rfl ?_
          show Steps p.tables e below (T122.setTop (mkF m 105 #[iv u0, iv u1, iv u2, .val (.long u3), .second, iv u4, .val (.long u5), .second, iv (3 : Int32), iv ka, iv kb, .val .null, rv b65, rv b120, .unset, .unset, .unset, .unset] [.null, (.int u2), (.int ka), (.ref b120)])) _
          refine XS.lloadN X122.here hx rfl (hb hby at_105) rfl ?_
          show Steps p.tables e below (T122.setTop (mkF m 106 #[iv u0, iv u1, iv u2, .val (.long u3), .second, iv u4, .val (.long u5), .second, iv (3 : Int32), iv ka, iv kb, .val .null, rv b65, rv b120, .unset, .unset, .unset, .unset] [(.long u3), .null, (.int u2), (.int ka), (.ref b120)])) _
          refine st130.trans ?_
          show Steps p.tables e below (T130.setTop (mkF m 109 #[iv u0, iv u1, iv u2, .val (.long u3), .second, iv u4, .val (.long u5), .second, iv (3 : Int32), iv ka, iv kb, .val .null, rv b65, rv b120, .unset, .unset, .unset, .unset] [(.int (0 : Int32))])) _
          refine XS.istore X130.here hx rfl (hb hby at_109) rfl (l' := #[iv u0, iv u1, iv u2, .val (.long u3), .second, iv u4, .val (.long u5), .second, iv (3 : Int32), iv ka, iv kb, .val .null, rv b65, rv b120, iv (0 : Int32), .unset, .unset, .unset]) rfl ?_
          show Steps p.tables e below (T130.setTop (mkF m 111 #[iv u0, iv u1, iv u2, .val (.long u3), .second, iv u4, .val (.long u5), .second, iv (3 : Int32), iv ka, iv kb, .val .null, rv b65, rv b120, iv (0 : Int32), .unset, .unset, .unset] [])) _
          refine XS.iload X130.here hx rfl (hb hby at_111) rfl ?_
          show Steps p.tables e below (T130.setTop (mkF m 113 #[iv u0, iv u1, iv u2, .val (.long u3), .second, iv u4, .val (.long u5), .second, iv (3 : Int32), iv ka, iv kb, .val .null, rv b65, rv b120, iv (0 : Int32), .unset, .unset, .unset] [(.int (0 : Int32))])) _
          refine XS.iload X130.here hx rfl (hb hby at_113) rfl ?_
          show Steps p.tables e below (T130.setTop (mkF m 115 #[iv u0, iv u1, iv u2, .val (.long u3), .second, iv u4, .val (.long u5), .second, iv (3 : Int32), iv ka, iv kb, .val .null, rv b65, rv b120, iv (0 : Int32), .unset, .unset, .unset] [(.int (3 : Int32)), (.int (0 : Int32))])) _
          refine XS.iconst X130.here hx rfl (hb hby at_115) ?_
          show Steps p.tables e below (T130.setTop (mkF m 116 #[iv u0, iv u1, iv u2, .val (.long u3), .second, iv u4, .val (.long u5), .second, iv (3 : Int32), iv ka, iv kb, .val .null, rv b65, rv b120, iv (0 : Int32), .unset, .unset, .unset] [(.int (1 : Int32)), (.int (3 : Int32)), (.int (0 : Int32))])) _
          refine XS.icmpYes X130.here hx rfl (pc0 := 116) (pc' := 123) rfl (hb hby at_116) rfl (feq (by decide : ¬ ((3 : Int32) = (1 : Int32)))).2 (by decide) (by decide) ?_
          show Steps p.tables e below (T130.setTop (mkF m 123 #[iv u0, iv u1, iv u2, .val (.long u3), .second, iv u4, .val (.long u5), .second, iv (3 : Int32), iv ka, iv kb, .val .null, rv b65, rv b120, iv (0 : Int32), .unset, .unset, .unset] [(.int (0 : Int32))])) _
          refine XS.iconst X130.here hx rfl (hb hby at_123) ?_
          show Steps p.tables e below (T130.setTop (mkF m 124 #[iv u0, iv u1, iv u2, .val (.long u3), .second, iv u4, .val (.long u5), .second, iv (3 : Int32), iv ka, iv kb, .val .null, rv b65, rv b120, iv (0 : Int32), .unset, .unset, .unset] [(.int (0 : Int32)), (.int (0 : Int32))])) _
          refine XS.icmpNo X130.here hx rfl (hb hby at_124) rfl (teq (by decide : (0 : Int32) = (0 : Int32))).2 ?_
          show Steps p.tables e below (T130.setTop (mkF m 127 #[iv u0, iv u1, iv u2, .val (.long u3), .second, iv u4, .val (.long u5), .second, iv (3 : Int32), iv ka, iv kb, .val .null, rv b65, rv b120, iv (0 : Int32), .unset, .unset, .unset] [])) _
          refine XS.iconst X130.here hx rfl (hb hby at_127) ?_
          show Steps p.tables e below (T130.setTop (mkF m 128 #[iv u0, iv u1, iv u2, .val (.long u3), .second, iv u4, .val (.long u5), .second, iv (3 : Int32), iv ka, iv kb, .val .null, rv b65, rv b120, iv (0 : Int32), .unset, .unset, .unset] [(.int (1 : Int32))])) _
          refine XS.goto X130.here hx rfl (pc0 := 128) (pc' := 132) rfl (hb hby at_128) (by decide) (by decide) ?_
          show Steps p.tables e below (T130.setTop (mkF m 132 #[iv u0, iv u1, iv u2, .val (.long u3), .second, iv u4, .val (.long u5), .second, iv (3 : Int32), iv ka, iv kb, .val .null, rv b65, rv b120, iv (0 : Int32), .unset, .unset, .unset] [(.int (1 : Int32))])) _
          refine XS.istore X130.here hx rfl (hb hby at_132) rfl (l' := #[iv u0, iv u1, iv u2, .val (.long u3), .second, iv u4, .val (.long u5), .second, iv (3 : Int32), iv ka, iv kb, .val .null, rv b65, rv b120, iv (0 : Int32), iv (1 : Int32), .unset, .unset]) rfl ?_
          show Steps p.tables e below (T130.setTop (mkF m 134 #[iv u0, iv u1, iv u2, .val (.long u3), .second, iv u4, .val (.long u5), .second, iv (3 : Int32), iv ka, iv kb, .val .null, rv b65, rv b120, iv (0 : Int32), iv (1 : Int32), .unset, .unset] [])) _
          refine XS.iconst X130.here hx rfl (hb hby at_134) ?_
          show Steps p.tables e below (T130.setTop (mkF m 135 #[iv u0, iv u1, iv u2, .val (.long u3), .second, iv u4, .val (.long u5), .second, iv (3 : Int32), iv ka, iv kb, .val .null, rv b65, rv b120, iv (0 : Int32), iv (1 : Int32), .unset, .unset] [(.int (1 : Int32))])) _
          refine XS.istore X130.here hx rfl (hb hby at_135) rfl (l' := #[iv u0, iv u1, iv u2, .val (.long u3), .second, iv u4, .val (.long u5), .second, iv (3 : Int32), iv ka, iv kb, .val .null, rv b65, rv b120, iv (0 : Int32), iv (1 : Int32), iv (1 : Int32), .unset]) rfl ?_
          show Steps p.tables e below (T130.setTop (mkF m 137 #[iv u0, iv u1, iv u2, .val (.long u3), .second, iv u4, .val (.long u5), .second, iv (3 : Int32), iv ka, iv kb, .val .null, rv b65, rv b120, iv (0 : Int32), iv (1 : Int32), iv (1 : Int32), .unset] [])) _
          refine XS.iload X130.here hx rfl (hb hby at_137) rfl ?_
          show Steps p.tables e below (T130.setTop (mkF m 139 #[iv u0, iv u1, iv u2, .val (.long u3), .second, iv u4, .val (.long u5), .second, iv (3 : Int32), iv ka, iv kb, .val .null, rv b65, rv b120, iv (0 : Int32), iv (1 : Int32), iv (1 : Int32), .unset] [(.int (3 : Int32))])) _
          refine XS.iconst X130.here hx rfl (hb hby at_139) ?_
          show Steps p.tables e below (T130.setTop (mkF m 140 #[iv u0, iv u1, iv u2, .val (.long u3), .second, iv u4, .val (.long u5), .second, iv (3 : Int32), iv ka, iv kb, .val .null, rv b65, rv b120, iv (0 : Int32), iv (1 : Int32), iv (1 : Int32), .unset] [(.int (2 : Int32)), (.int (3 : Int32))])) _
          refine XS.icmpNo X130.here hx rfl (hb hby at_140) rfl (flt (by decide : ¬ ((3 : Int32) < (2 : Int32)))).1 ?_
          show Steps p.tables e below (T130.setTop (mkF m 143 #[iv u0, iv u1, iv u2, .val (.long u3), .second, iv u4, .val (.long u5), .second, iv (3 : Int32), iv ka, iv kb, .val .null, rv b65, rv b120, iv (0 : Int32), iv (1 : Int32), iv (1 : Int32), .unset] [])) _
          refine XS.aload X130.here hx rfl (hb hby at_143) rfl rfl ?_
          show Steps p.tables e below (T130.setTop (mkF m 145 #[iv u0, iv u1, iv u2, .val (.long u3), .second, iv u4, .val (.long u5), .second, iv (3 : Int32), iv ka, iv kb, .val .null, rv b65, rv b120, iv (0 : Int32), iv (1 : Int32), iv (1 : Int32), .unset] [(.ref b120)])) _
          refine XS.iload X130.here hx rfl (hb hby at_145) rfl ?_
          show Steps p.tables e below (T130.setTop (mkF m 147 #[iv u0, iv u1, iv u2, .val (.long u3), .second, iv u4, .val (.long u5), .second, iv (3 : Int32), iv ka, iv kb, .val .null, rv b65, rv b120, iv (0 : Int32), iv (1 : Int32), iv (1 : Int32), .unset] [(.int kb), (.ref b120)])) _
          refine XS.iload X130.here hx rfl (hb hby at_147) rfl ?_
          show Steps p.tables e below (T130.setTop (mkF m 149 #[iv u0, iv u1, iv u2, .val (.long u3), .second, iv u4, .val (.long u5), .second, iv (3 : Int32), iv ka, iv kb, .val .null, rv b65, rv b120, iv (0 : Int32), iv (1 : Int32), iv (1 : Int32), .unset] [(.int u4), (.int kb), (.ref b120)])) _
          refine XS.aload X130.here hx rfl (hb hby at_149) rfl rfl ?_
          show Steps p.tables e below (T130.setTop (mkF m 151 #[iv u0, iv u1, iv u2, .val (.long u3), .second, iv u4, .val (.long u5), .second, iv (3 : Int32), iv ka, iv kb, .val .null, rv b65, rv b120, iv (0 : Int32), iv (1 : Int32), iv (1 : Int32), .unset] [(.ref b65), (.int u4), (.int kb), (.ref b120)])) _
          refine XS.lload X130.here hx rfl (hb hby at_151) rfl ?_
          show Steps p.tables e below (T130.setTop (mkF m 153 #[iv u0, iv u1, iv u2, .val (.long u3), .second, iv u4, .val (.long u5), .second, iv (3 : Int32), iv ka, iv kb, .val .null, rv b65, rv b120, iv (0 : Int32), iv (1 : Int32), iv (1 : Int32), .unset] [(.long u5), (.ref b65), (.int u4), (.int kb), (.ref b120)])) _
          refine st133.trans ?_
          show Steps p.tables e below (T133.setTop (mkF m 156 #[iv u0, iv u1, iv u2, .val (.long u3), .second, iv u4, .val (.long u5), .second, iv (3 : Int32), iv ka, iv kb, .val .null, rv b65, rv b120, iv (0 : Int32), iv (1 : Int32), iv (1 : Int32), .unset] [(.int (0 : Int32))])) _
          refine XS.istore X133.here hx rfl (hb hby at_156) rfl (l' := #[iv u0, iv u1, iv u2, .val (.long u3), .second, iv u4, .val (.long u5), .second, iv (3 : Int32), iv ka, iv kb, .val .null, rv b65, rv b120, iv (0 : Int32), iv (1 : Int32), iv (1 : Int32), iv (0 : Int32)]) rfl ?_
          show Steps p.tables e below (T133.setTop (mkF m 158 #[iv u0, iv u1, iv u2, .val (.long u3), .second, iv u4, .val (.long u5), .second, iv (3 : Int32), iv ka, iv kb, .val .null, rv b65, rv b120, iv (0 : Int32), iv (1 : Int32), iv (1 : Int32), iv (0 : Int32)] [])) _
          refine XS.iload X133.here hx rfl (hb hby at_158) rfl ?_
          show Steps p.tables e below (T133.setTop (mkF m 160 #[iv u0, iv u1, iv u2, .val (.long u3), .second, iv u4, .val (.long u5), .second, iv (3 : Int32), iv ka, iv kb, .val .null, rv b65, rv b120, iv (0 : Int32), iv (1 : Int32), iv (1 : Int32), iv (0 : Int32)] [(.int (1 : Int32))])) _
          refine XS.ifNo X133.here hx rfl (hb hby at_160) rfl ((if0 _ _).trans (feq (by decide : ¬ ((1 : Int32) = (0 : Int32)))).1) ?_
          show Steps p.tables e below (T133.setTop (mkF m 163 #[iv u0, iv u1, iv u2, .val (.long u3), .second, iv u4, .val (.long u5), .second, iv (3 : Int32), iv ka, iv kb, .val .null, rv b65, rv b120, iv (0 : Int32), iv (1 : Int32), iv (1 : Int32), iv (0 : Int32)] [])) _
          refine XS.iload X133.here hx rfl (hb hby at_163) rfl ?_
          show Steps p.tables e below (T133.setTop (mkF m 165 #[iv u0, iv u1, iv u2, .val (.long u3), .second, iv u4, .val (.long u5), .second, iv (3 : Int32), iv ka, iv kb, .val .null, rv b65, rv b120, iv (0 : Int32), iv (1 : Int32), iv (1 : Int32), iv (0 : Int32)] [(.int (0 : Int32))])) _
          refine XS.iload X133.here hx rfl (hb hby at_165) rfl ?_
          show Steps p.tables e below (T133.setTop (mkF m 167 #[iv u0, iv u1, iv u2, .val (.long u3), .second, iv u4, .val (.long u5), .second, iv (3 : Int32), iv ka, iv kb, .val .null, rv b65, rv b120, iv (0 : Int32), iv (1 : Int32), iv (1 : Int32), iv (0 : Int32)] [(.int (3 : Int32)), (.int (0 : Int32))])) _
          refine XS.iconst X133.here hx rfl (hb hby at_167) ?_
          show Steps p.tables e below (T133.setTop (mkF m 168 #[iv u0, iv u1, iv u2, .val (.long u3), .second, iv u4, .val (.long u5), .second, iv (3 : Int32), iv ka, iv kb, .val .null, rv b65, rv b120, iv (0 : Int32), iv (1 : Int32), iv (1 : Int32), iv (0 : Int32)] [(.int (2 : Int32)), (.int (3 : Int32)), (.int (0 : Int32))])) _
          refine XS.icmpYes X133.here hx rfl (pc0 := 168) (pc' := 175) rfl (hb hby at_168) rfl (feq (by decide : ¬ ((3 : Int32) = (2 : Int32)))).2 (by decide) (by decide) ?_
          show Steps p.tables e below (T133.setTop (mkF m 175 #[iv u0, iv u1, iv u2, .val (.long u3), .second, iv u4, .val (.long u5), .second, iv (3 : Int32), iv ka, iv kb, .val .null, rv b65, rv b120, iv (0 : Int32), iv (1 : Int32), iv (1 : Int32), iv (0 : Int32)] [(.int (0 : Int32))])) _
          refine XS.iconst X133.here hx rfl (hb hby at_175) ?_
          show Steps p.tables e below (T133.setTop (mkF m 176 #[iv u0, iv u1, iv u2, .val (.long u3), .second, iv u4, .val (.long u5), .second, iv (3 : Int32), iv ka, iv kb, .val .null, rv b65, rv b120, iv (0 : Int32), iv (1 : Int32), iv (1 : Int32), iv (0 : Int32)] [(.int (0 : Int32)), (.int (0 : Int32))])) _
          refine XS.icmpNo X133.here hx rfl (hb hby at_176) rfl (teq (by decide : (0 : Int32) = (0 : Int32))).2 ?_
          show Steps p.tables e below (T133.setTop (mkF m 179 #[iv u0, iv u1, iv u2, .val (.long u3), .second, iv u4, .val (.long u5), .second, iv (3 : Int32), iv ka, iv kb, .val .null, rv b65, rv b120, iv (0 : Int32), iv (1 : Int32), iv (1 : Int32), iv (0 : Int32)] [])) _
          refine XS.iconst X133.here hx rfl (hb hby at_179) ?_
          show Steps p.tables e below (T133.setTop (mkF m 180 #[iv u0, iv u1, iv u2, .val (.long u3), .second, iv u4, .val (.long u5), .second, iv (3 : Int32), iv ka, iv kb, .val .null, rv b65, rv b120, iv (0 : Int32), iv (1 : Int32), iv (1 : Int32), iv (0 : Int32)] [(.int (1 : Int32))])) _
          refine XS.goto X133.here hx rfl (pc0 := 180) (pc' := 184) rfl (hb hby at_180) (by decide) (by decide) ?_
          show Steps p.tables e below (T133.setTop (mkF m 184 #[iv u0, iv u1, iv u2, .val (.long u3), .second, iv u4, .val (.long u5), .second, iv (3 : Int32), iv ka, iv kb, .val .null, rv b65, rv b120, iv (0 : Int32), iv (1 : Int32), iv (1 : Int32), iv (0 : Int32)] [(.int (1 : Int32))])) _
          refine XS.istore X133.here hx rfl (hb hby at_184) rfl (l' := #[iv u0, iv u1, iv u2, .val (.long u3), .second, iv u4, .val (.long u5), .second, iv (3 : Int32), iv ka, iv kb, .val .null, rv b65, rv b120, iv (0 : Int32), iv (1 : Int32), iv (1 : Int32), iv (0 : Int32)]) rfl ?_
          show Steps p.tables e below (T133.setTop (mkF m 186 #[iv u0, iv u1, iv u2, .val (.long u3), .second, iv u4, .val (.long u5), .second, iv (3 : Int32), iv ka, iv kb, .val .null, rv b65, rv b120, iv (0 : Int32), iv (1 : Int32), iv (1 : Int32), iv (0 : Int32)] [])) _
          refine XS.iconst X133.here hx rfl (hb hby at_186) ?_
          show Steps p.tables e below (T133.setTop (mkF m 187 #[iv u0, iv u1, iv u2, .val (.long u3), .second, iv u4, .val (.long u5), .second, iv (3 : Int32), iv ka, iv kb, .val .null, rv b65, rv b120, iv (0 : Int32), iv (1 : Int32), iv (1 : Int32), iv (0 : Int32)] [(.int (2 : Int32))])) _
          refine XS.istore X133.here hx rfl (hb hby at_187) rfl (l' := #[iv u0, iv u1, iv u2, .val (.long u3), .second, iv u4, .val (.long u5), .second, iv (3 : Int32), iv ka, iv kb, .val .null, rv b65, rv b120, iv (0 : Int32), iv (1 : Int32), iv (2 : Int32), iv (0 : Int32)]) rfl ?_
          show Steps p.tables e below (T133.setTop (mkF m 189 #[iv u0, iv u1, iv u2, .val (.long u3), .second, iv u4, .val (.long u5), .second, iv (3 : Int32), iv ka, iv kb, .val .null, rv b65, rv b120, iv (0 : Int32), iv (1 : Int32), iv (2 : Int32), iv (0 : Int32)] [])) _
          refine XS.iload X133.here hx rfl (hb hby at_189) rfl ?_
          show Steps p.tables e below (T133.setTop (mkF m 191 #[iv u0, iv u1, iv u2, .val (.long u3), .second, iv u4, .val (.long u5), .second, iv (3 : Int32), iv ka, iv kb, .val .null, rv b65, rv b120, iv (0 : Int32), iv (1 : Int32), iv (2 : Int32), iv (0 : Int32)] [(.int (1 : Int32))])) _
          refine XS.ifNo X133.here hx rfl (hb hby at_191) rfl ((if0 _ _).trans (feq (by decide : ¬ ((1 : Int32) = (0 : Int32)))).1) ?_
          show Steps p.tables e below (T133.setTop (mkF m 194 #[iv u0, iv u1, iv u2, .val (.long u3), .second, iv u4, .val (.long u5), .second, iv (3 : Int32), iv ka, iv kb, .val .null, rv b65, rv b120, iv (0 : Int32), iv (1 : Int32), iv (2 : Int32), iv (0 : Int32)] [])) _
          refine XS.aload X133.here hx rfl (hb hby at_194) rfl rfl ?_
          show Steps p.tables e below (T133.setTop (mkF m 196 #[iv u0, iv u1, iv u2, .val (.long u3), .second, iv u4, .val (.long u5), .second, iv (3 : Int32), iv ka, iv kb, .val .null, rv b65, rv b120, iv (0 : Int32), iv (1 : Int32), iv (2 : Int32), iv (0 : Int32)] [(.ref b120)])) _
          refine st136.trans ?_
          show Steps p.tables e below (T136.setTop (mkF m 199 #[iv u0, iv u1, iv u2, .val (.long u3), .second, iv u4, .val (.long u5), .second, iv (3 : Int32), iv ka, iv kb, .val .null, rv b65, rv b120, iv (0 : Int32), iv (1 : Int32), iv (2 : Int32), iv (0 : Int32)] [(.int (2 : Int32))])) _
          refine XS.iload X136.here hx rfl (hb hby at_199) rfl ?_
          show Steps p.tables e below (T136.setTop (mkF m 201 #[iv u0, iv u1, iv u2, .val (.long u3), .second, iv u4, .val (.long u5), .second, iv (3 : Int32), iv ka, iv kb, .val .null, rv b65, rv b120, iv (0 : Int32), iv (1 : Int32), iv (2 : Int32), iv (0 : Int32)] [(.int (2 : Int32)), (.int (2 : Int32))])) _
          refine XS.icmpNo X136.here hx rfl (hb hby at_201) rfl (teq (by decide : (2 : Int32) = (2 : Int32))).2 ?_
          show Steps p.tables e below (T136.setTop (mkF m 204 #[iv u0, iv u1, iv u2, .val (.long u3), .second, iv u4, .val (.long u5), .second, iv (3 : Int32), iv ka, iv kb, .val .null, rv b65, rv b120, iv (0 : Int32), iv (1 : Int32), iv (2 : Int32), iv (0 : Int32)] [])) _
          refine XS.iconst X136.here hx rfl (hb hby at_204) ?_
          show Steps p.tables e below (T136.setTop (mkF m 205 #[iv u0, iv u1, iv u2, .val (.long u3), .second, iv u4, .val (.long u5), .second, iv (3 : Int32), iv ka, iv kb, .val .null, rv b65, rv b120, iv (0 : Int32), iv (1 : Int32), iv (2 : Int32), iv (0 : Int32)] [(.int (1 : Int32))])) _
          refine XS.goto X136.here hx rfl (pc0 := 205) (pc' := 209) rfl (hb hby at_205) (by decide) (by decide) ?_
          show Steps p.tables e below (T136.setTop (mkF m 209 #[iv u0, iv u1, iv u2, .val (.long u3), .second, iv u4, .val (.long u5), .second, iv (3 : Int32), iv ka, iv kb, .val .null, rv b65, rv b120, iv (0 : Int32), iv (1 : Int32), iv (2 : Int32), iv (0 : Int32)] [(.int (1 : Int32))])) _
          refine XS.istore X136.here hx rfl (hb hby at_209) rfl (l' := #[iv u0, iv u1, iv u2, .val (.long u3), .second, iv u4, .val (.long u5), .second, iv (3 : Int32), iv ka, iv kb, .val .null, rv b65, rv b120, iv (0 : Int32), iv (1 : Int32), iv (2 : Int32), iv (0 : Int32)]) rfl ?_
          show Steps p.tables e below (T136.setTop (mkF m 211 #[iv u0, iv u1, iv u2, .val (.long u3), .second, iv u4, .val (.long u5), .second, iv (3 : Int32), iv ka, iv kb, .val .null, rv b65, rv b120, iv (0 : Int32), iv (1 : Int32), iv (2 : Int32), iv (0 : Int32)] [])) _
          refine XS.iload X136.here hx rfl (hb hby at_211) rfl ?_
          show Steps p.tables e below (T136.setTop (mkF m 213 #[iv u0, iv u1, iv u2, .val (.long u3), .second, iv u4, .val (.long u5), .second, iv (3 : Int32), iv ka, iv kb, .val .null, rv b65, rv b120, iv (0 : Int32), iv (1 : Int32), iv (2 : Int32), iv (0 : Int32)] [(.int (1 : Int32))])) _
          refine XS.ifNo X136.here hx rfl (hb hby at_213) rfl ((if0 _ _).trans (feq (by decide : ¬ ((1 : Int32) = (0 : Int32)))).1) ?_
          show Steps p.tables e below (T136.setTop (mkF m 216 #[iv u0, iv u1, iv u2, .val (.long u3), .second, iv u4, .val (.long u5), .second, iv (3 : Int32), iv ka, iv kb, .val .null, rv b65, rv b120, iv (0 : Int32), iv (1 : Int32), iv (2 : Int32), iv (0 : Int32)] [])) _
          refine XS.aload X136.here hx rfl (hb hby at_216) rfl rfl ?_
          show Steps p.tables e below (T136.setTop (mkF m 218 #[iv u0, iv u1, iv u2, .val (.long u3), .second, iv u4, .val (.long u5), .second, iv (3 : Int32), iv ka, iv kb, .val .null, rv b65, rv b120, iv (0 : Int32), iv (1 : Int32), iv (2 : Int32), iv (0 : Int32)] [(.ref b120)])) _
          refine XS.iconst X136.here hx rfl (hb hby at_218) ?_
          show Steps p.tables e below (T136.setTop (mkF m 219 #[iv u0, iv u1, iv u2, .val (.long u3), .second, iv u4, .val (.long u5), .second, iv (3 : Int32), iv ka, iv kb, .val .null, rv b65, rv b120, iv (0 : Int32), iv (1 : Int32), iv (2 : Int32), iv (0 : Int32)] [(.int (0 : Int32)), (.ref b120)])) _
          refine st137.trans ?_
          show Steps p.tables e below (T137.setTop (mkF m 222 #[iv u0, iv u1, iv u2, .val (.long u3), .second, iv u4, .val (.long u5), .second, iv (3 : Int32), iv ka, iv kb, .val .null, rv b65, rv b120, iv (0 : Int32), iv (1 : Int32), iv (2 : Int32), iv (0 : Int32)] [(.int ka)])) _
          refine XS.iload X137.here hx rfl (hb hby at_222) rfl ?_
          show Steps p.tables e below (T137.setTop (mkF m 224 #[iv u0, iv u1, iv u2, .val (.long u3), .second, iv u4, .val (.long u5), .second, iv (3 : Int32), iv ka, iv kb, .val .null, rv b65, rv b120, iv (0 : Int32), iv (1 : Int32), iv (2 : Int32), iv (0 : Int32)] [(.int ka), (.int ka)])) _
          refine XS.icmpNo X137.here hx rfl (hb hby at_224) rfl (teq rfl).2 ?_
          show Steps p.tables e below (T137.setTop (mkF m 227 #[iv u0, iv u1, iv u2, .val (.long u3), .second, iv u4, .val (.long u5), .second, iv (3 : Int32), iv ka, iv kb, .val .null, rv b65, rv b120, iv (0 : Int32), iv (1 : Int32), iv (2 : Int32), iv (0 : Int32)] [])) _
          refine XS.aload X137.here hx rfl (hb hby at_227) rfl rfl ?_
          show Steps p.tables e below (T137.setTop (mkF m 229 #[iv u0, iv u1, iv u2, .val (.long u3), .second, iv u4, .val (.long u5), .second, iv (3 : Int32), iv ka, iv kb, .val .null, rv b65, rv b120, iv (0 : Int32), iv (1 : Int32), iv (2 : Int32), iv (0 : Int32)] [(.ref b120)])) _
          refine XS.iconst X137.here hx rfl (hb hby at_229) ?_
          show Steps p.tables e below (T137.setTop (mkF m 230 #[iv u0, iv u1, iv u2, .val (.long u3), .second, iv u4, .val (.long u5), .second, iv (3 : Int32), iv ka, iv kb, .val .null, rv b65, rv b120, iv (0 : Int32), iv (1 : Int32), iv (2 : Int32), iv (0 : Int32)] [(.int (0 : Int32)), (.ref b120)])) _
          refine st138.trans ?_
          show Steps p.tables e below (T138.setTop (mkF m 233 #[iv u0, iv u1, iv u2, .val (.long u3), .second, iv u4, .val (.long u5), .second, iv (3 : Int32), iv ka, iv kb, .val .null, rv b65, rv b120, iv (0 : Int32), iv (1 : Int32), iv (2 : Int32), iv (0 : Int32)] [(.int u2)])) _
          refine XS.iloadN X138.here hx rfl (hb hby at_233) rfl ?_
          show Steps p.tables e below (T138.setTop (mkF m 234 #[iv u0, iv u1, iv u2, .val (.long u3), .second, iv u4, .val (.long u5), .second, iv (3 : Int32), iv ka, iv kb, .val .null, rv b65, rv b120, iv (0 : Int32), iv (1 : Int32), iv (2 : Int32), iv (0 : Int32)] [(.int u2), (.int u2)])) _
          refine XS.icmpNo X138.here hx rfl (hb hby at_234) rfl (teq rfl).2 ?_
          show Steps p.tables e below (T138.setTop (mkF m 237 #[iv u0, iv u1, iv u2, .val (.long u3), .second, iv u4, .val (.long u5), .second, iv (3 : Int32), iv ka, iv kb, .val .null, rv b65, rv b120, iv (0 : Int32), iv (1 : Int32), iv (2 : Int32), iv (0 : Int32)] [])) _
          refine XS.aload X138.here hx rfl (hb hby at_237) rfl rfl ?_
          show Steps p.tables e below (T138.setTop (mkF m 239 #[iv u0, iv u1, iv u2, .val (.long u3), .second, iv u4, .val (.long u5), .second, iv (3 : Int32), iv ka, iv kb, .val .null, rv b65, rv b120, iv (0 : Int32), iv (1 : Int32), iv (2 : Int32), iv (0 : Int32)] [(.ref b120)])) _
          refine XS.iconst X138.here hx rfl (hb hby at_239) ?_
          show Steps p.tables e below (T138.setTop (mkF m 240 #[iv u0, iv u1, iv u2, .val (.long u3), .second, iv u4, .val (.long u5), .second, iv (3 : Int32), iv ka, iv kb, .val .null, rv b65, rv b120, iv (0 : Int32), iv (1 : Int32), iv (2 : Int32), iv (0 : Int32)] [(.int (0 : Int32)), (.ref b120)])) _
          refine st139.trans ?_
          show Steps p.tables e below (T139.setTop (mkF m 243 #[iv u0, iv u1, iv u2, .val (.long u3), .second, iv u4, .val (.long u5), .second, iv (3 : Int32), iv ka, iv kb, .val .null, rv b65, rv b120, iv (0 : Int32), iv (1 : Int32), iv (2 : Int32), iv (0 : Int32)] [.null])) _
          refine XS.aload X139.here hx rfl (hb hby at_243) rfl rfl ?_
          show Steps p.tables e below (T139.setTop (mkF m 245 #[iv u0, iv u1, iv u2, .val (.long u3), .second, iv u4, .val (.long u5), .second, iv (3 : Int32), iv ka, iv kb, .val .null, rv b65, rv b120, iv (0 : Int32), iv (1 : Int32), iv (2 : Int32), iv (0 : Int32)] [.null, .null])) _
          refine Jvm.RoadKit.acmp (g := (mkF m 245 #[iv u0, iv u1, iv u2, .val (.long u3), .second, iv u4, .val (.long u5), .second, iv (3 : Int32), iv ka, iv kb, .val .null, rv b65, rv b120, iv (0 : Int32), iv (1 : Int32), iv (2 : Int32), iv (0 : Int32)] [.null, .null])) X139 hx rfl rfl rfl (pc0 := 245) (pc' := 248) (same := true) rfl (hb hby at_245) rfl (decide_eq_true rfl) (by decide) (by decide) ?_
          show Steps p.tables e below (T139.setTop (mkF m 248 #[iv u0, iv u1, iv u2, .val (.long u3), .second, iv u4, .val (.long u5), .second, iv (3 : Int32), iv ka, iv kb, .val .null, rv b65, rv b120, iv (0 : Int32), iv (1 : Int32), iv (2 : Int32), iv (0 : Int32)] [])) _
          refine XS.aload X139.here hx rfl (hb hby at_248) rfl rfl ?_
          show Steps p.tables e below (T139.setTop (mkF m 250 #[iv u0, iv u1, iv u2, .val (.long u3), .second, iv u4, .val (.long u5), .second, iv (3 : Int32), iv ka, iv kb, .val .null, rv b65, rv b120, iv (0 : Int32), iv (1 : Int32), iv (2 : Int32), iv (0 : Int32)] [(.ref b120)])) _
          refine XS.iconst X139.here hx rfl (hb hby at_250) ?_
          show Steps p.tables e below (T139.setTop (mkF m 251 #[iv u0, iv u1, iv u2, .val (.long u3), .second, iv u4, .val (.long u5), .second, iv (3 : Int32), iv ka, iv kb, .val .null, rv b65, rv b120, iv (0 : Int32), iv (1 : Int32), iv (2 : Int32), iv (0 : Int32)] [(.int (0 : Int32)), (.ref b120)])) _
          refine st140.trans ?_
          show Steps p.tables e below (T140.setTop (mkF m 254 #[iv u0, iv u1, iv u2, .val (.long u3), .second, iv u4, .val (.long u5), .second, iv (3 : Int32), iv ka, iv kb, .val .null, rv b65, rv b120, iv (0 : Int32), iv (1 : Int32), iv (2 : Int32), iv (0 : Int32)] [(.long u3)])) _
          refine XS.lloadN X140.here hx rfl (hb hby at_254) rfl ?_
          show Steps p.tables e below (T140.setTop (mkF m 255 #[iv u0, iv u1, iv u2, .val (.long u3), .second, iv u4, .val (.long u5), .second, iv (3 : Int32), iv ka, iv kb, .val .null, rv b65, rv b120, iv (0 : Int32), iv (1 : Int32), iv (2 : Int32), iv (0 : Int32)] [(.long u3), (.long u3)])) _
          refine XS.lcmp X140.here hx rfl (hb hby at_255) rfl ?_
          show Steps p.tables e below (T140.setTop (mkF m 256 #[iv u0, iv u1, iv u2, .val (.long u3), .second, iv u4, .val (.long u5), .second, iv (3 : Int32), iv ka, iv kb, .val .null, rv b65, rv b120, iv (0 : Int32), iv (1 : Int32), iv (2 : Int32), iv (0 : Int32)] [(.int (lcmpW u3 u3))])) _
          refine XS.ifNo X140.here hx rfl (hb hby at_256) rfl ((if0 _ _).trans (teq ((lw_eq _ _).mpr rfl)).2) ?_
          show Steps p.tables e below (T140.setTop (mkF m 259 #[iv u0, iv u1, iv u2, .val (.long u3), .second, iv u4, .val (.long u5), .second, iv (3 : Int32), iv ka, iv kb, .val .null, rv b65, rv b120, iv (0 : Int32), iv (1 : Int32), iv (2 : Int32), iv (0 : Int32)] [])) _
          refine XS.iconst X140.here hx rfl (hb hby at_259) ?_
          show Steps p.tables e below (T140.setTop (mkF m 260 #[iv u0, iv u1, iv u2, .val (.long u3), .second, iv u4, .val (.long u5), .second, iv (3 : Int32), iv ka, iv kb, .val .null, rv b65, rv b120, iv (0 : Int32), iv (1 : Int32), iv (2 : Int32), iv (0 : Int32)] [(.int (1 : Int32))])) _
          refine XS.goto X140.here hx rfl (pc0 := 260) (pc' := 264) rfl (hb hby at_260) (by decide) (by decide) ?_
          show Steps p.tables e below (T140.setTop (mkF m 264 #[iv u0, iv u1, iv u2, .val (.long u3), .second, iv u4, .val (.long u5), .second, iv (3 : Int32), iv ka, iv kb, .val .null, rv b65, rv b120, iv (0 : Int32), iv (1 : Int32), iv (2 : Int32), iv (0 : Int32)] [(.int (1 : Int32))])) _
          refine XS.istore X140.here hx rfl (hb hby at_264) rfl (l' := #[iv u0, iv u1, iv u2, .val (.long u3), .second, iv u4, .val (.long u5), .second, iv (3 : Int32), iv ka, iv kb, .val .null, rv b65, rv b120, iv (0 : Int32), iv (1 : Int32), iv (2 : Int32), iv (0 : Int32)]) rfl ?_
          show Steps p.tables e below (T140.setTop (mkF m 266 #[iv u0, iv u1, iv u2, .val (.long u3), .second, iv u4, .val (.long u5), .second, iv (3 : Int32), iv ka, iv kb, .val .null, rv b65, rv b120, iv (0 : Int32), iv (1 : Int32), iv (2 : Int32), iv (0 : Int32)] [])) _
          refine XS.iload X140.here hx rfl (hb hby at_266) rfl ?_
          show Steps p.tables e below (T140.setTop (mkF m 268 #[iv u0, iv u1, iv u2, .val (.long u3), .second, iv u4, .val (.long u5), .second, iv (3 : Int32), iv ka, iv kb, .val .null, rv b65, rv b120, iv (0 : Int32), iv (1 : Int32), iv (2 : Int32), iv (0 : Int32)] [(.int (3 : Int32))])) _
          refine XS.iconst X140.here hx rfl (hb hby at_268) ?_
          show Steps p.tables e below (T140.setTop (mkF m 269 #[iv u0, iv u1, iv u2, .val (.long u3), .second, iv u4, .val (.long u5), .second, iv (3 : Int32), iv ka, iv kb, .val .null, rv b65, rv b120, iv (0 : Int32), iv (1 : Int32), iv (2 : Int32), iv (0 : Int32)] [(.int (2 : Int32)), (.int (3 : Int32))])) _
          refine XS.icmpNo X140.here hx rfl (hb hby at_269) rfl (flt (by decide : ¬ ((3 : Int32) < (2 : Int32)))).1 ?_
          show Steps p.tables e below (T140.setTop (mkF m 272 #[iv u0, iv u1, iv u2, .val (.long u3), .second, iv u4, .val (.long u5), .second, iv (3 : Int32), iv ka, iv kb, .val .null, rv b65, rv b120, iv (0 : Int32), iv (1 : Int32), iv (2 : Int32), iv (0 : Int32)] [])) _
          refine XS.iload X140.here hx rfl (hb hby at_272) rfl ?_
          show Steps p.tables e below (T140.setTop (mkF m 274 #[iv u0, iv u1, iv u2, .val (.long u3), .second, iv u4, .val (.long u5), .second, iv (3 : Int32), iv ka, iv kb, .val .null, rv b65, rv b120, iv (0 : Int32), iv (1 : Int32), iv (2 : Int32), iv (0 : Int32)] [(.int (1 : Int32))])) _
          refine XS.ifNo X140.here hx rfl (hb hby at_274) rfl ((if0 _ _).trans (feq (by decide : ¬ ((1 : Int32) = (0 : Int32)))).1) ?_
          show Steps p.tables e below (T140.setTop (mkF m 277 #[iv u0, iv u1, iv u2, .val (.long u3), .second, iv u4, .val (.long u5), .second, iv (3 : Int32), iv ka, iv kb, .val .null, rv b65, rv b120, iv (0 : Int32), iv (1 : Int32), iv (2 : Int32), iv (0 : Int32)] [])) _
          refine XS.aload X140.here hx rfl (hb hby at_277) rfl rfl ?_
          show Steps p.tables e below (T140.setTop (mkF m 279 #[iv u0, iv u1, iv u2, .val (.long u3), .second, iv u4, .val (.long u5), .second, iv (3 : Int32), iv ka, iv kb, .val .null, rv b65, rv b120, iv (0 : Int32), iv (1 : Int32), iv (2 : Int32), iv (0 : Int32)] [(.ref b120)])) _
          refine XS.iconst X140.here hx rfl (hb hby at_279) ?_
          show Steps p.tables e below (T140.setTop (mkF m 280 #[iv u0, iv u1, iv u2, .val (.long u3), .second, iv u4, .val (.long u5), .second, iv (3 : Int32), iv ka, iv kb, .val .null, rv b65, rv b120, iv (0 : Int32), iv (1 : Int32), iv (2 : Int32), iv (0 : Int32)] [(.int (1 : Int32)), (.ref b120)])) _
          refine st141.trans ?_
          show Steps p.tables e below (T141.setTop (mkF m 283 #[iv u0, iv u1, iv u2, .val (.long u3), .second, iv u4, .val (.long u5), .second, iv (3 : Int32), iv ka, iv kb, .val .null, rv b65, rv b120, iv (0 : Int32), iv (1 : Int32), iv (2 : Int32), iv (0 : Int32)] [(.int kb)])) _
          refine XS.iload X141.here hx rfl (hb hby at_283) rfl ?_
          show Steps p.tables e below (T141.setTop (mkF m 285 #[iv u0, iv u1, iv u2, .val (.long u3), .second, iv u4, .val (.long u5), .second, iv (3 : Int32), iv ka, iv kb, .val .null, rv b65, rv b120, iv (0 : Int32), iv (1 : Int32), iv (2 : Int32), iv (0 : Int32)] [(.int kb), (.int kb)])) _
          refine XS.icmpNo X141.here hx rfl (hb hby at_285) rfl (teq rfl).2 ?_
          show Steps p.tables e below (T141.setTop (mkF m 288 #[iv u0, iv u1, iv u2, .val (.long u3), .second, iv u4, .val (.long u5), .second, iv (3 : Int32), iv ka, iv kb, .val .null, rv b65, rv b120, iv (0 : Int32), iv (1 : Int32), iv (2 : Int32), iv (0 : Int32)] [])) _
          refine XS.aload X141.here hx rfl (hb hby at_288) rfl rfl ?_
          show Steps p.tables e below (T141.setTop (mkF m 290 #[iv u0, iv u1, iv u2, .val (.long u3), .second, iv u4, .val (.long u5), .second, iv (3 : Int32), iv ka, iv kb, .val .null, rv b65, rv b120, iv (0 : Int32), iv (1 : Int32), iv (2 : Int32), iv (0 : Int32)] [(.ref b120)])) _
          refine XS.iconst X141.here hx rfl (hb hby at_290) ?_
          show Steps p.tables e below (T141.setTop (mkF m 291 #[iv u0, iv u1, iv u2, .val (.long u3), .second, iv u4, .val (.long u5), .second, iv (3 : Int32), iv ka, iv kb, .val .null, rv b65, rv b120, iv (0 : Int32), iv (1 : Int32), iv (2 : Int32), iv (0 : Int32)] [(.int (1 : Int32)), (.ref b120)])) _
          refine st142.trans ?_
          show Steps p.tables e below (T142.setTop (mkF m 294 #[iv u0, iv u1, iv u2, .val (.long u3), .second, iv u4, .val (.long u5), .second, iv (3 : Int32), iv ka, iv kb, .val .null, rv b65, rv b120, iv (0 : Int32), iv (1 : Int32), iv (2 : Int32), iv (0 : Int32)] [(.int u4)])) _
          refine XS.iload X142.here hx rfl (hb hby at_294) rfl ?_
          show Steps p.tables e below (T142.setTop (mkF m 296 #[iv u0, iv u1, iv u2, .val (.long u3), .second, iv u4, .val (.long u5), .second, iv (3 : Int32), iv ka, iv kb, .val .null, rv b65, rv b120, iv (0 : Int32), iv (1 : Int32), iv (2 : Int32), iv (0 : Int32)] [(.int u4), (.int u4)])) _
          refine XS.icmpNo X142.here hx rfl (hb hby at_296) rfl (teq rfl).2 ?_
          show Steps p.tables e below (T142.setTop (mkF m 299 #[iv u0, iv u1, iv u2, .val (.long u3), .second, iv u4, .val (.long u5), .second, iv (3 : Int32), iv ka, iv kb, .val .null, rv b65, rv b120, iv (0 : Int32), iv (1 : Int32), iv (2 : Int32), iv (0 : Int32)] [])) _
          refine XS.aload X142.here hx rfl (hb hby at_299) rfl rfl ?_
          show Steps p.tables e below (T142.setTop (mkF m 301 #[iv u0, iv u1, iv u2, .val (.long u3), .second, iv u4, .val (.long u5), .second, iv (3 : Int32), iv ka, iv kb, .val .null, rv b65, rv b120, iv (0 : Int32), iv (1 : Int32), iv (2 : Int32), iv (0 : Int32)] [(.ref b120)])) _
          refine XS.iconst X142.here hx rfl (hb hby at_301) ?_
          show Steps p.tables e below (T142.setTop (mkF m 302 #[iv u0, iv u1, iv u2, .val (.long u3), .second, iv u4, .val (.long u5), .second, iv (3 : Int32), iv ka, iv kb, .val .null, rv b65, rv b120, iv (0 : Int32), iv (1 : Int32), iv (2 : Int32), iv (0 : Int32)] [(.int (1 : Int32)), (.ref b120)])) _
          refine st143.trans ?_
          show Steps p.tables e below (T143.setTop (mkF m 305 #[iv u0, iv u1, iv u2, .val (.long u3), .second, iv u4, .val (.long u5), .second, iv (3 : Int32), iv ka, iv kb, .val .null, rv b65, rv b120, iv (0 : Int32), iv (1 : Int32), iv (2 : Int32), iv (0 : Int32)] [(.ref b65)])) _
          refine XS.aload X143.here hx rfl (hb hby at_305) rfl rfl ?_
          show Steps p.tables e below (T143.setTop (mkF m 307 #[iv u0, iv u1, iv u2, .val (.long u3), .second, iv u4, .val (.long u5), .second, iv (3 : Int32), iv ka, iv kb, .val .null, rv b65, rv b120, iv (0 : Int32), iv (1 : Int32), iv (2 : Int32), iv (0 : Int32)] [(.ref b65), (.ref b65)])) _
          refine Jvm.RoadKit.acmp (g := (mkF m 307 #[iv u0, iv u1, iv u2, .val (.long u3), .second, iv u4, .val (.long u5), .second, iv (3 : Int32), iv ka, iv kb, .val .null, rv b65, rv b120, iv (0 : Int32), iv (1 : Int32), iv (2 : Int32), iv (0 : Int32)] [(.ref b65), (.ref b65)])) X143 hx rfl rfl rfl (pc0 := 307) (pc' := 310) (same := true) rfl (hb hby at_307) rfl (decide_eq_true rfl) (by decide) (by decide) ?_
          show Steps p.tables e below (T143.setTop (mkF m 310 #[iv u0, iv u1, iv u2, .val (.long u3), .second, iv u4, .val (.long u5), .second, iv (3 : Int32), iv ka, iv kb, .val .null, rv b65, rv b120, iv (0 : Int32), iv (1 : Int32), iv (2 : Int32), iv (0 : Int32)] [])) _
          refine XS.aload X143.here hx rfl (hb hby at_310) rfl rfl ?_
          show Steps p.tables e below (T143.setTop (mkF m 312 #[iv u0, iv u1, iv u2, .val (.long u3), .second, iv u4, .val (.long u5), .second, iv (3 : Int32), iv ka, iv kb, .val .null, rv b65, rv b120, iv (0 : Int32), iv (1 : Int32), iv (2 : Int32), iv (0 : Int32)] [(.ref b120)])) _
          refine XS.iconst X143.here hx rfl (hb hby at_312) ?_
          show Steps p.tables e below (T143.setTop (mkF m 313 #[iv u0, iv u1, iv u2, .val (.long u3), .second, iv u4, .val (.long u5), .second, iv (3 : Int32), iv ka, iv kb, .val .null, rv b65, rv b120, iv (0 : Int32), iv (1 : Int32), iv (2 : Int32), iv (0 : Int32)] [(.int (1 : Int32)), (.ref b120)])) _
          refine st144.trans ?_
          show Steps p.tables e below (T144.setTop (mkF m 316 #[iv u0, iv u1, iv u2, .val (.long u3), .second, iv u4, .val (.long u5), .second, iv (3 : Int32), iv ka, iv kb, .val .null, rv b65, rv b120, iv (0 : Int32), iv (1 : Int32), iv (2 : Int32), iv (0 : Int32)] [(.long u5)])) _
          refine XS.lload X144.here hx rfl (hb hby at_316) rfl ?_
          show Steps p.tables e below (T144.setTop (mkF m 318 #[iv u0, iv u1, iv u2, .val (.long u3), .second, iv u4, .val (.long u5), .second, iv (3 : Int32), iv ka, iv kb, .val .null, rv b65, rv b120, iv (0 : Int32), iv (1 : Int32), iv (2 : Int32), iv (0 : Int32)] [(.long u5), (.long u5)])) _
          refine XS.lcmp X144.here hx rfl (hb hby at_318) rfl ?_
          show Steps p.tables e below (T144.setTop (mkF m 319 #[iv u0, iv u1, iv u2, .val (.long u3), .second, iv u4, .val (.long u5), .second, iv (3 : Int32), iv ka, iv kb, .val .null, rv b65, rv b120, iv (0 : Int32), iv (1 : Int32), iv (2 : Int32), iv (0 : Int32)] [(.int (lcmpW u5 u5))])) _
          refine XS.ifNo X144.here hx rfl (hb hby at_319) rfl ((if0 _ _).trans (teq ((lw_eq _ _).mpr rfl)).2) ?_
          show Steps p.tables e below (T144.setTop (mkF m 322 #[iv u0, iv u1, iv u2, .val (.long u3), .second, iv u4, .val (.long u5), .second, iv (3 : Int32), iv ka, iv kb, .val .null, rv b65, rv b120, iv (0 : Int32), iv (1 : Int32), iv (2 : Int32), iv (0 : Int32)] [])) _
          refine XS.iconst X144.here hx rfl (hb hby at_322) ?_
          show Steps p.tables e below (T144.setTop (mkF m 323 #[iv u0, iv u1, iv u2, .val (.long u3), .second, iv u4, .val (.long u5), .second, iv (3 : Int32), iv ka, iv kb, .val .null, rv b65, rv b120, iv (0 : Int32), iv (1 : Int32), iv (2 : Int32), iv (0 : Int32)] [(.int (1 : Int32))])) _
          refine XS.goto X144.here hx rfl (pc0 := 323) (pc' := 327) rfl (hb hby at_323) (by decide) (by decide) ?_
          show Steps p.tables e below (T144.setTop (mkF m 327 #[iv u0, iv u1, iv u2, .val (.long u3), .second, iv u4, .val (.long u5), .second, iv (3 : Int32), iv ka, iv kb, .val .null, rv b65, rv b120, iv (0 : Int32), iv (1 : Int32), iv (2 : Int32), iv (0 : Int32)] [(.int (1 : Int32))])) _
          refine XS.istore X144.here hx rfl (hb hby at_327) rfl (l' := #[iv u0, iv u1, iv u2, .val (.long u3), .second, iv u4, .val (.long u5), .second, iv (3 : Int32), iv ka, iv kb, .val .null, rv b65, rv b120, iv (0 : Int32), iv (1 : Int32), iv (2 : Int32), iv (0 : Int32)]) rfl ?_
          show Steps p.tables e below (T144.setTop (mkF m 329 #[iv u0, iv u1, iv u2, .val (.long u3), .second, iv u4, .val (.long u5), .second, iv (3 : Int32), iv ka, iv kb, .val .null, rv b65, rv b120, iv (0 : Int32), iv (1 : Int32), iv (2 : Int32), iv (0 : Int32)] [])) _
          refine XS.iload X144.here hx rfl (hb hby at_329) rfl ?_
          show Steps p.tables e below (T144.setTop (mkF m 331 #[iv u0, iv u1, iv u2, .val (.long u3), .second, iv u4, .val (.long u5), .second, iv (3 : Int32), iv ka, iv kb, .val .null, rv b65, rv b120, iv (0 : Int32), iv (1 : Int32), iv (2 : Int32), iv (0 : Int32)] [(.int (1 : Int32))])) _
          exact retN X144 hx (t := .boolean) Bd.returns (by simp) (hb hby at_331) hr
        · show Q0 Z u0 u1 u2 u3 u4 u5 h0 n0 _ T144.heap _
          rw [eq144]
          exact ⟨rfl, N144⟩
  · skip
    obtain ⟨T145, h145, k145, X145, e145, E145, A145, Ea145, st145⟩ := newPE X0 hx hZ (hw _ (List.mem_of_getElem? (i := 10) rfl)) e0 (g := (mkF m 41 #[iv u0, iv u1, iv u2, .val (.long u3), .second, iv u4, .val (.long u5), .second, iv ((1 : Int32) + ((u0 &&& (255 : Int32)) % (3 : Int32))), iv ka, iv kb, .unset, .unset, .unset, .unset, .unset, .unset, .unset] [(.int (1 : Int32))])) rfl (hb hby at_41) rfl (by decide) (cap := 1) (by decide) (by decide) (by decide) (by decide) (ad := "[B") (by decide)
    obtain ⟨b145, g145⟩ : ∃ z, z = h0.size := ⟨_, rfl⟩
    rw [← g145] at A145 Ea145 st145
    have ge_b145 : n0 ≤ b145 := Nat.le_trans Z0 (Nat.le_of_eq g145.symm)
    have V145 : Arv Z h145 b145 k145 .byte (1 : Int32) [(.int (0 : Int32))] (.int (0 : Int32)) := (Arv.new A145 (by decide)).pad (pad_rep [] (.int (0 : Int32)) 1)
    have Z145 : n0 ≤ h145.size := Nat.le_trans Z0 E145.1
    obtain ⟨cl146, Ar146, qa146, Sa146, Na146, Ha146, Ga146⟩ := id V145
    have hin146 : ¬ ((0 : Int32) < 0 ∨ cl146.slots.size ≤ ((0 : Int32)).toNatClampNeg) := inb_of Sa146 ⟨by decide, by decide⟩
    obtain ⟨T147, h147, X147, e147, W147, st147⟩ := stB X145 hx hZ e145 Ar146 (j := (0 : Int32)) hin146 (g := (mkF m 50 #[iv u0, iv u1, iv u2, .val (.long u3), .second, iv u4, .val (.long u5), .second, iv ((1 : Int32) + ((u0 &&& (255 : Int32)) % (3 : Int32))), iv ka, iv kb, .unset, .unset, .unset, .unset, .unset, .unset, .unset] [(.int (((u0.toUInt32 >>> ((16 : Int32) &&& 31).toUInt32).toInt32).toInt8.toInt32)), (.int (0 : Int32)), (.ref b145), (.ref b145)])) rfl rfl (hb hby at_50)
    rw [own_nb] at W147
    have V147 : Arv Z h147 b145 k145 .byte (1 : Int32) [(.int (((u0.toUInt32 >>> ((16 : Int32) &&& 31).toUInt32).toInt32).toInt8.toInt32))] (.int (0 : Int32)) := Arv.set Ar146 qa146 Sa146 Na146 Ha146 Ga146 (own_fb _) W147 0 rfl (Nat.le_of_ble_eq_true rfl)
    have N147 := Fr.snoc X147 N0 ge_b145
    have Z147 : n0 ≤ h147.size := Nat.le_trans Z145 (Keep.of_wr W147).1
    have f150 := Ea145.wr W147
    have S151 : ∀ t, Steps p.tables e below (T147.setTop (mkF m 62 #[iv u0, iv u1, iv u2, .val (.long u3), .second, iv u4, .val (.long u5), .second, iv ((1 : Int32) + ((u0 &&& (255 : Int32)) % (3 : Int32))), iv ka, iv kb, rv b145, .unset, .unset, .unset, .unset, .unset, .unset] [(.int (u0 &&& (512 : Int32)))])) t → Steps p.tables e below (s₁.setTop (entryFrame m #[(.int u0), (.int u1), (.int u2), (.long u3), (.int u4), (.long u5)] maxLocals)) t := by
      intro t k
      refine S3 t ?_
      show Steps p.tables e below (s₁.setTop (mkF m 37 #[iv u0, iv u1, iv u2, .val (.long u3), .second, iv u4, .val (.long u5), .second, iv ((1 : Int32) + ((u0 &&& (255 : Int32)) % (3 : Int32))), iv ka, iv kb, .unset, .unset, .unset, .unset, .unset, .unset, .unset] [(.int (u0 &&& (256 : Int32)))])) _
      refine XS.ifNo X0.here hx rfl (hb hby at_37) rfl ((if0 _ _).trans (feq hc4).1) ?_
      show Steps p.tables e below (s₁.setTop (mkF m 40 #[iv u0, iv u1, iv u2, .val (.long u3), .second, iv u4, .val (.long u5), .second, iv ((1 : Int32) + ((u0 &&& (255 : Int32)) % (3 : Int32))), iv ka, iv kb, .unset, .unset, .unset, .unset, .unset, .unset, .unset] [])) _
      refine XS.iconst X0.here hx rfl (hb hby at_40) ?_
      show Steps p.tables e below (s₁.setTop (mkF m 41 #[iv u0, iv u1, iv u2, .val (.long u3), .second, iv u4, .val (.long u5), .second, iv ((1 : Int32) + ((u0 &&& (255 : Int32)) % (3 : Int32))), iv ka, iv kb, .unset, .unset, .unset, .unset, .unset, .unset, .unset] [(.int (1 : Int32))])) _
      refine st145 _ ?_
      show Steps p.tables e below (T145.setTop (mkF m 43 #[iv u0, iv u1, iv u2, .val (.long u3), .second, iv u4, .val (.long u5), .second, iv ((1 : Int32) + ((u0 &&& (255 : Int32)) % (3 : Int32))), iv ka, iv kb, .unset, .unset, .unset, .unset, .unset, .unset, .unset] [(.ref b145)])) _
      refine XS.dup X145.here hx rfl (hb hby at_43) rfl rfl ?_
      show Steps p.tables e below (T145.setTop (mkF m 44 #[iv u0, iv u1, iv u2, .val (.long u3), .second, iv u4, .val (.long u5), .second, iv ((1 : Int32) + ((u0 &&& (255 : Int32)) % (3 : Int32))), iv ka, iv kb, .unset, .unset, .unset, .unset, .unset, .unset, .unset] [(.ref b145), (.ref b145)])) _
      refine XS.iconst X145.here hx rfl (hb hby at_44) ?_
      show Steps p.tables e below (T145.setTop (mkF m 45 #[iv u0, iv u1, iv u2, .val (.long u3), .second, iv u4, .val (.long u5), .second, iv ((1 : Int32) + ((u0 &&& (255 : Int32)) % (3 : Int32))), iv ka, iv kb, .unset, .unset, .unset, .unset, .unset, .unset, .unset] [(.int (0 : Int32)), (.ref b145), (.ref b145)])) _
      refine XS.iloadN X145.here hx rfl (hb hby at_45) rfl ?_
      show Steps p.tables e below (T145.setTop (mkF m 46 #[iv u0, iv u1, iv u2, .val (.long u3), .second, iv u4, .val (.long u5), .second, iv ((1 : Int32) + ((u0 &&& (255 : Int32)) % (3 : Int32))), iv ka, iv kb, .unset, .unset, .unset, .unset, .unset, .unset, .unset] [(.int u0), (.int (0 : Int32)), (.ref b145), (.ref b145)])) _
      refine XS.bipush X145.here hx rfl (hb hby at_46) ?_
      show Steps p.tables e below (T145.setTop (mkF m 48 #[iv u0, iv u1, iv u2, .val (.long u3), .second, iv u4, .val (.long u5), .second, iv ((1 : Int32) + ((u0 &&& (255 : Int32)) % (3 : Int32))), iv ka, iv kb, .unset, .unset, .unset, .unset, .unset, .unset, .unset] [(.int (16 : Int32)), (.int u0), (.int (0 : Int32)), (.ref b145), (.ref b145)])) _
      refine XS.iushr X145.here hx rfl (hb hby at_48) rfl ?_
      show Steps p.tables e below (T145.setTop (mkF m 49 #[iv u0, iv u1, iv u2, .val (.long u3), .second, iv u4, .val (.long u5), .second, iv ((1 : Int32) + ((u0 &&& (255 : Int32)) % (3 : Int32))), iv ka, iv kb, .unset, .unset, .unset, .unset, .unset, .unset, .unset] [(.int ((u0.toUInt32 >>> ((16 : Int32) &&& 31).toUInt32).toInt32)), (.int (0 : Int32)), (.ref b145), (.ref b145)])) _
      refine XS.i2b X145.here hx rfl (hb hby at_49) rfl ?_
      show Steps p.tables e below (T145.setTop (mkF m 50 #[iv u0, iv u1, iv u2, .val (.long u3), .second, iv u4, .val (.long u5), .second, iv ((1 : Int32) + ((u0 &&& (255 : Int32)) % (3 : Int32))), iv ka, iv kb, .unset, .unset, .unset, .unset, .unset, .unset, .unset] [(.int (((u0.toUInt32 >>> ((16 : Int32) &&& 31).toUInt32).toInt32).toInt8.toInt32)), (.int (0 : Int32)), (.ref b145), (.ref b145)])) _
      refine st147 _ ?_
      show Steps p.tables e below (T147.setTop (mkF m 51 #[iv u0, iv u1, iv u2, .val (.long u3), .second, iv u4, .val (.long u5), .second, iv ((1 : Int32) + ((u0 &&& (255 : Int32)) % (3 : Int32))), iv ka, iv kb, .unset, .unset, .unset, .unset, .unset, .unset, .unset] [(.ref b145)])) _
      refine XS.goto X147.here hx rfl (pc0 := 51) (pc' := 55) rfl (hb hby at_51) (by decide) (by decide) ?_
      show Steps p.tables e below (T147.setTop (mkF m 55 #[iv u0, iv u1, iv u2, .val (.long u3), .second, iv u4, .val (.long u5), .second, iv ((1 : Int32) + ((u0 &&& (255 : Int32)) % (3 : Int32))), iv ka, iv kb, .unset, .unset, .unset, .unset, .unset, .unset, .unset] [(.ref b145)])) _
      refine XS.astore X147.here hx rfl (hb hby at_55) rfl rfl (l' := #[iv u0, iv u1, iv u2, .val (.long u3), .second, iv u4, .val (.long u5), .second, iv ((1 : Int32) + ((u0 &&& (255 : Int32)) % (3 : Int32))), iv ka, iv kb, rv b145, .unset, .unset, .unset, .unset, .unset, .unset]) rfl ?_
      show Steps p.tables e below (T147.setTop (mkF m 57 #[iv u0, iv u1, iv u2, .val (.long u3), .second, iv u4, .val (.long u5), .second, iv ((1 : Int32) + ((u0 &&& (255 : Int32)) % (3 : Int32))), iv ka, iv kb, rv b145, .unset, .unset, .unset, .unset, .unset, .unset] [])) _
      refine XS.iloadN X147.here hx rfl (hb hby at_57) rfl ?_
      show Steps p.tables e below (T147.setTop (mkF m 58 #[iv u0, iv u1, iv u2, .val (.long u3), .second, iv u4, .val (.long u5), .second, iv ((1 : Int32) + ((u0 &&& (255 : Int32)) % (3 : Int32))), iv ka, iv kb, rv b145, .unset, .unset, .unset, .unset, .unset, .unset] [(.int u0)])) _
      refine XS.sipush X147.here hx rfl (hb hby at_58) ?_
      show Steps p.tables e below (T147.setTop (mkF m 61 #[iv u0, iv u1, iv u2, .val (.long u3), .second, iv u4, .val (.long u5), .second, iv ((1 : Int32) + ((u0 &&& (255 : Int32)) % (3 : Int32))), iv ka, iv kb, rv b145, .unset, .unset, .unset, .unset, .unset, .unset] [(.int (512 : Int32)), (.int u0)])) _
      refine XS.iand X147.here hx rfl (hb hby at_61) rfl ?_
      exact k
    by_cases hc152 : (u0 &&& (512 : Int32)) = (0 : Int32)
    · skip
      have S153 : ∀ t, Steps p.tables e below (T147.setTop (mkF m 87 #[iv u0, iv u1, iv u2, .val (.long u3), .second, iv u4, .val (.long u5), .second, iv ((1 : Int32) + ((u0 &&& (255 : Int32)) % (3 : Int32))), iv ka, iv kb, rv b145, .val .null, .unset, .unset, .unset, .unset, .unset] [])) t → Steps p.tables e below (s₁.setTop (entryFrame m #[(.int u0), (.int u1), (.int u2), (.long u3), (.int u4), (.long u5)] maxLocals)) t := by
        intro t k
        refine S151 t ?_
        show Steps p.tables e below (T147.setTop (mkF m 62 #[iv u0, iv u1, iv u2, .val (.long u3), .second, iv u4, .val (.long u5), .second, iv ((1 : Int32) + ((u0 &&& (255 : Int32)) % (3 : Int32))), iv ka, iv kb, rv b145, .unset, .unset, .unset, .unset, .unset, .unset] [(.int (u0 &&& (512 : Int32)))])) _
        refine XS.ifYes X147.here hx rfl (pc0 := 62) (pc' := 84) rfl (hb hby at_62) rfl ((if0 _ _).trans (teq hc152).1) (by decide) (by decide) ?_
        show Steps p.tables e below (T147.setTop (mkF m 84 #[iv u0, iv u1, iv u2, .val (.long u3), .second, iv u4, .val (.long u5), .second, iv ((1 : Int32) + ((u0 &&& (255 : Int32)) % (3 : Int32))), iv ka, iv kb, rv b145, .unset, .unset, .unset, .unset, .unset, .unset] [])) _
        refine XS.aconstNull X147.here hx rfl (hb hby at_84) ?_
        show Steps p.tables e below (T147.setTop (mkF m 85 #[iv u0, iv u1, iv u2, .val (.long u3), .second, iv u4, .val (.long u5), .second, iv ((1 : Int32) + ((u0 &&& (255 : Int32)) % (3 : Int32))), iv ka, iv kb, rv b145, .unset, .unset, .unset, .unset, .unset, .unset] [.null])) _
        refine XS.astore X147.here hx rfl (hb hby at_85) rfl rfl (l' := #[iv u0, iv u1, iv u2, .val (.long u3), .second, iv u4, .val (.long u5), .second, iv ((1 : Int32) + ((u0 &&& (255 : Int32)) % (3 : Int32))), iv ka, iv kb, rv b145, .val .null, .unset, .unset, .unset, .unset, .unset]) rfl ?_
        exact k
      rcases own_cap u0 with hcp | hcp | hcp
      · skip
        rw [hcp] at S153
        obtain ⟨T154, h154, X154, e154, E154, A154, D154, -, st154⟩ := newO X147 hx hZ hown (hw _ (List.mem_of_getElem? (i := 1) rfl)) (hw _ (List.mem_of_getElem? (i := 2) rfl)) (hw _ (List.mem_of_getElem? (i := 3) rfl)) e147 (g := (mkF m 87 #[iv u0, iv u1, iv u2, .val (.long u3), .second, iv u4, .val (.long u5), .second, iv (1 : Int32), iv ka, iv kb, rv b145, .val .null, .unset, .unset, .unset, .unset, .unset] [])) rfl (hb hby at_87) (by decide) (by decide)
        obtain ⟨b154, g154⟩ : ∃ z, z = h147.size := ⟨_, rfl⟩
        rw [← g154] at A154 D154 st154
        have ge_b154 : n0 ≤ b154 := Nat.le_trans Z147 (Nat.le_of_eq g154.symm)
        have ne_b145_b154 : b145 ≠ b154 := Nat.ne_of_lt (Nat.lt_of_lt_of_le (f150).lt (Nat.le_of_eq g154.symm))
        have f155 := f150.ext E154
        have F154_kinds : Fld Z h154 b154 "com/example/agouti/agouti/store/IndexBuilder$Notes" "kinds" "[B" .null := D154 (Or.inr (hw _ (List.mem_of_getElem? (i := 12) rfl))) (ty := (.array .byte)) (by decide)
        have F154_nodes : Fld Z h154 b154 "com/example/agouti/agouti/store/IndexBuilder$Notes" "nodes" "[I" .null := D154 (Or.inr (hw _ (List.mem_of_getElem? (i := 15) rfl))) (ty := (.array .int)) (by decide)
        have F154_values : Fld Z h154 b154 "com/example/agouti/agouti/store/IndexBuilder$Notes" "values" "[[B" .null := D154 (Or.inl (hw _ (List.mem_of_getElem? (i := 19) rfl))) (ty := (.array (.array .byte))) (by decide)
        have F154_hashes : Fld Z h154 b154 "com/example/agouti/agouti/store/IndexBuilder$Notes" "hashes" "[J" .null := D154 (Or.inr (hw _ (List.mem_of_getElem? (i := 22) rfl))) (ty := (.array .long)) (by decide)
        have F154_count : Fld Z h154 b154 "com/example/agouti/agouti/store/IndexBuilder$Notes" "count" "I" (.int (0 : Int32)) := D154 (Or.inl (hw _ (List.mem_of_getElem? (i := 29) rfl))) (ty := .int) (by decide)
        have Z154 : n0 ≤ h154.size := Nat.le_trans Z147 E154.1
        obtain ⟨_, _, ⟨T156, L156, k156, n156⟩, -, X156, ⟨Lc156, hQ156, l156, y156, z156⟩, st156⟩ := X154.specialBack hx (y := (⟨"com/example/agouti/agouti/store/IndexBuilder$Notes", "<init>", "(I)V"⟩ : MethodName)) rfl hown (mvT hZ (hw _ (List.mem_of_getElem? (i := 4) rfl))) (mvT hZ (hw _ (List.mem_of_getElem? (i := 5) rfl))) (mvT hZ (hw _ (List.mem_of_getElem? (i := 6) rfl))) (by decide) (backOf (W := 1) (rmI1 l Z a0 hw [] b154 h154 n0 Z154 A154 F154_count F154_kinds F154_nodes F154_values F154_hashes ge_b154) hZ (hw _ (List.mem_of_getElem? (i := 6) rfl)) (hw _ (List.mem_of_getElem? (i := 3) rfl)) (by decide) (by decide)) (g := (mkF m 93 #[iv u0, iv u1, iv u2, .val (.long u3), .second, iv u4, .val (.long u5), .second, iv (1 : Int32), iv ka, iv kb, rv b145, .val .null, .unset, .unset, .unset, .unset, .unset] [(.int (1 : Int32)), (.ref b154), (.ref b154)])) rfl (by rw [hml]; rfl) (Steps.refl _) (a := b154) (argsL := [(.int (1 : Int32))]) (rest := [(.ref b154)]) (lenOf pd_0 rfl) rfl (by show 2 * 0 + _ ≤ _; exact Nat.le_of_eq rfl) (hb hby at_93) (fun _ _ => ⟨rfl, e154, (by decide : 2 + 4 ≤ _), (by decide : 6 + 4 ≤ _)⟩)
        dsimp only [Pt.U, Pt.locs, Pt.cells, Pt.slots] at X156 l156 y156 z156 st156 hQ156
        subst y156 z156
        obtain ⟨rfl, Nq156, Zq156, Kq156, Bq156⟩ := hQ156
        have N156 : Fr n0 L156 := by rw [l156]; exact Fr.app N147 Nq156
        have f157 := f155.keep Kq156
        have f158 := A154.keep Kq156
        have oe156 := Bq156.1
        obtain ⟨cq164, kq164, q164a, q164b, q164c⟩ := isOf hZ rfl oe156
        obtain ⟨_, _, ⟨T164, L164, k164, n164⟩, -, X164, ⟨Lc164, hQ164, l164, y164, z164⟩, st164⟩ := X156.virtualBack hx (y := (⟨"com/example/agouti/agouti/store/IndexBuilder$Notes", "add", "(BI[BJ)Z"⟩ : MethodName)) (z := (⟨"com/example/agouti/agouti/store/IndexBuilder$Notes", "add", "(BI[BJ)Z"⟩ : MethodName)) hown (mvT hZ (hw _ (List.mem_of_getElem? (i := 23) rfl))) (mvT hZ (hw _ (List.mem_of_getElem? (i := 24) rfl))) (notFace_of_selects (args := #[]) (mvT hZ (hw _ (List.mem_of_getElem? (i := 26) rfl)))) (mvT hZ (hw _ (List.mem_of_getElem? (i := 26) rfl))) (mvT hZ (hw _ (List.mem_of_getElem? (i := 25) rfl))) (by decide) (backOf (W := 0) (rmAddR l Z a0 hw [] b154 ka u2 b145 u3 (1 : Int32) (0 : Int32) [0] [0] [.null] [0] T156.heap n0 Zq156 Bq156 ge_b154 (by decide) (by decide) (by rw [e_ka]; exact own_nb _) f157) hZ (hw _ (List.mem_of_getElem? (i := 27) rfl)) (hw _ (List.mem_of_getElem? (i := 3) rfl)) (by decide) (by decide)) q164a q164c (g := (mkF m 106 #[iv u0, iv u1, iv u2, .val (.long u3), .second, iv u4, .val (.long u5), .second, iv (1 : Int32), iv ka, iv kb, rv b145, .val .null, rv b154, .unset, .unset, .unset, .unset] [(.long u3), (.ref b145), (.int u2), (.int ka), (.ref b154)])) rfl (by rw [hml]; rfl) (Steps.refl _) (argsL := [(.int ka), (.int u2), (.ref b145), (.long u3)]) (rest := []) (lenOf pd_1 rfl) rfl (by show 2 * 0 + _ ≤ _; exact Nat.le_of_eq rfl) (hb hby at_106) (fun _ _ => ⟨rfl, rfl, (by decide : 6 + 0 ≤ _), (by decide : 10 + 0 ≤ _)⟩)
        dsimp only [Pt.U, Pt.locs, Pt.cells, Pt.slots] at X164 l164 y164 z164 st164 hQ164
        subst y164 z164
        obtain ⟨rfl, Nq164, Zq164, Kx164, Bq164⟩ := hQ164
        have N164 : Fr n0 L164 := by rw [l164]; exact Fr.app N156 Nq164
        obtain ⟨wsq164, Kq164⟩ := Kx164
        have f165 := f157.keep Kq164
        have f166 := oe156.keep Kq164
        have B164 : own_N Z T164.heap n0 b154 (1 : Int32) (1 : Int32) [ka] [u2] [(.ref b145)] [u3] := Bq164
        obtain ⟨cq167, kq167, q167a, q167b, q167c⟩ := isOf hZ rfl f166
        obtain ⟨_, _, ⟨T167, L167, k167, n167⟩, -, X167, ⟨Lc167, hQ167, l167, y167, z167⟩, st167⟩ := X164.virtualBack hx (y := (⟨"com/example/agouti/agouti/store/IndexBuilder$Notes", "count", "()I"⟩ : MethodName)) (z := (⟨"com/example/agouti/agouti/store/IndexBuilder$Notes", "count", "()I"⟩ : MethodName)) hown (mvT hZ (hw _ (List.mem_of_getElem? (i := 30) rfl))) (mvT hZ (hw _ (List.mem_of_getElem? (i := 31) rfl))) (notFace_of_selects (args := #[]) (mvT hZ (hw _ (List.mem_of_getElem? (i := 33) rfl)))) (mvT hZ (hw _ (List.mem_of_getElem? (i := 33) rfl))) (mvT hZ (hw _ (List.mem_of_getElem? (i := 32) rfl))) (by decide) (backOf (W := 0) (rmCount l Z a0 hw [] b154 (1 : Int32) (1 : Int32) [ka] [u2] [(.ref b145)] [u3] T164.heap n0 Zq164 B164) hZ (hw _ (List.mem_of_getElem? (i := 34) rfl)) (hw _ (List.mem_of_getElem? (i := 3) rfl)) (by decide) (by decide)) q167a q167c (g := (mkF m 196 #[iv u0, iv u1, iv u2, .val (.long u3), .second, iv u4, .val (.long u5), .second, iv (1 : Int32), iv ka, iv kb, rv b145, .val .null, rv b154, iv (1 : Int32), iv (1 : Int32), iv (1 : Int32), .unset] [(.ref b154)])) rfl (by rw [hml]; rfl) (Steps.refl _) (argsL := []) (rest := []) (lenOf pd_2 rfl) rfl (by show 2 * 0 + _ ≤ _; exact Nat.le_of_eq rfl) (hb hby at_196) (fun _ _ => ⟨rfl, rfl, (by decide : 6 + 0 ≤ _), (by decide : 10 + 0 ≤ _)⟩)
        dsimp only [Pt.U, Pt.locs, Pt.cells, Pt.slots] at X167 l167 y167 z167 st167 hQ167
        subst y167 z167
        obtain ⟨rfl, Nq167, eq167⟩ := hQ167
        have N167 : Fr n0 L167 := by rw [l167]; exact Fr.app N164 Nq167
        obtain ⟨cq168, kq168, q168a, q168b, q168c⟩ := isOf hZ eq167 f166
        obtain ⟨_, _, ⟨T168, L168, k168, n168⟩, -, X168, ⟨Lc168, hQ168, l168, y168, z168⟩, st168⟩ := X167.virtualBack hx (y := (⟨"com/example/agouti/agouti/store/IndexBuilder$Notes", "kind", "(I)B"⟩ : MethodName)) (z := (⟨"com/example/agouti/agouti/store/IndexBuilder$Notes", "kind", "(I)B"⟩ : MethodName)) hown (mvT hZ (hw _ (List.mem_of_getElem? (i := 35) rfl))) (mvT hZ (hw _ (List.mem_of_getElem? (i := 36) rfl))) (notFace_of_selects (args := #[]) (mvT hZ (hw _ (List.mem_of_getElem? (i := 38) rfl)))) (mvT hZ (hw _ (List.mem_of_getElem? (i := 38) rfl))) (mvT hZ (hw _ (List.mem_of_getElem? (i := 37) rfl))) (by decide) (backOf (W := 0) (rmKind l Z a0 hw [] b154 (0 : Int32) (1 : Int32) (1 : Int32) [ka] [u2] [(.ref b145)] [u3] ka T164.heap n0 Zq164 B164 (by decide) (by decide) rfl (by rw [e_ka]; exact own_nb _)) hZ (hw _ (List.mem_of_getElem? (i := 39) rfl)) (hw _ (List.mem_of_getElem? (i := 3) rfl)) (by decide) (by decide)) q168a q168c (g := (mkF m 219 #[iv u0, iv u1, iv u2, .val (.long u3), .second, iv u4, .val (.long u5), .second, iv (1 : Int32), iv ka, iv kb, rv b145, .val .null, rv b154, iv (1 : Int32), iv (1 : Int32), iv (1 : Int32), .unset] [(.int (0 : Int32)), (.ref b154)])) rfl (by rw [hml]; rfl) (Steps.refl _) (argsL := [(.int (0 : Int32))]) (rest := []) (lenOf pd_3 rfl) rfl (by show 2 * 0 + _ ≤ _; exact Nat.le_of_eq rfl) (hb hby at_219) (fun _ _ => ⟨rfl, eq167, (by decide : 6 + 0 ≤ _), (by decide : 10 + 0 ≤ _)⟩)
        dsimp only [Pt.U, Pt.locs, Pt.cells, Pt.slots] at X168 l168 y168 z168 st168 hQ168
        subst y168 z168
        obtain ⟨rfl, Nq168, eq168⟩ := hQ168
        have N168 : Fr n0 L168 := by rw [l168]; exact Fr.app N167 Nq168
        obtain ⟨cq169, kq169, q169a, q169b, q169c⟩ := isOf hZ eq168 f166
        obtain ⟨_, _, ⟨T169, L169, k169, n169⟩, -, X169, ⟨Lc169, hQ169, l169, y169, z169⟩, st169⟩ := X168.virtualBack hx (y := (⟨"com/example/agouti/agouti/store/IndexBuilder$Notes", "node", "(I)I"⟩ : MethodName)) (z := (⟨"com/example/agouti/agouti/store/IndexBuilder$Notes", "node", "(I)I"⟩ : MethodName)) hown (mvT hZ (hw _ (List.mem_of_getElem? (i := 40) rfl))) (mvT hZ (hw _ (List.mem_of_getElem? (i := 41) rfl))) (notFace_of_selects (args := #[]) (mvT hZ (hw _ (List.mem_of_getElem? (i := 43) rfl)))) (mvT hZ (hw _ (List.mem_of_getElem? (i := 43) rfl))) (mvT hZ (hw _ (List.mem_of_getElem? (i := 42) rfl))) (by decide) (backOf (W := 0) (rmNode l Z a0 hw [] b154 (0 : Int32) (1 : Int32) (1 : Int32) [ka] [u2] [(.ref b145)] [u3] u2 T164.heap n0 Zq164 B164 (by decide) (by decide) rfl) hZ (hw _ (List.mem_of_getElem? (i := 44) rfl)) (hw _ (List.mem_of_getElem? (i := 3) rfl)) (by decide) (by decide)) q169a q169c (g := (mkF m 230 #[iv u0, iv u1, iv u2, .val (.long u3), .second, iv u4, .val (.long u5), .second, iv (1 : Int32), iv ka, iv kb, rv b145, .val .null, rv b154, iv (1 : Int32), iv (1 : Int32), iv (1 : Int32), .unset] [(.int (0 : Int32)), (.ref b154)])) rfl (by rw [hml]; rfl) (Steps.refl _) (argsL := [(.int (0 : Int32))]) (rest := []) (lenOf pd_4 rfl) rfl (by show 2 * 0 + _ ≤ _; exact Nat.le_of_eq rfl) (hb hby at_230) (fun _ _ => ⟨rfl, eq168, (by decide : 6 + 0 ≤ _), (by decide : 10 + 0 ≤ _)⟩)
        dsimp only [Pt.U, Pt.locs, Pt.cells, Pt.slots] at X169 l169 y169 z169 st169 hQ169
        subst y169 z169
        obtain ⟨rfl, Nq169, eq169⟩ := hQ169
        have N169 : Fr n0 L169 := by rw [l169]; exact Fr.app N168 Nq169
        obtain ⟨cq170, kq170, q170a, q170b, q170c⟩ := isOf hZ eq169 f166
        obtain ⟨_, _, ⟨T170, L170, k170, n170⟩, -, X170, ⟨Lc170, hQ170, l170, y170, z170⟩, st170⟩ := X169.virtualBack hx (y := (⟨"com/example/agouti/agouti/store/IndexBuilder$Notes", "value", "(I)[B"⟩ : MethodName)) (z := (⟨"com/example/agouti/agouti/store/IndexBuilder$Notes", "value", "(I)[B"⟩ : MethodName)) hown (mvT hZ (hw _ (List.mem_of_getElem? (i := 45) rfl))) (mvT hZ (hw _ (List.mem_of_getElem? (i := 46) rfl))) (notFace_of_selects (args := #[]) (mvT hZ (hw _ (List.mem_of_getElem? (i := 48) rfl)))) (mvT hZ (hw _ (List.mem_of_getElem? (i := 48) rfl))) (mvT hZ (hw _ (List.mem_of_getElem? (i := 47) rfl))) (by decide) (backOf (W := 0) (rmVal1 l Z a0 hw [] b154 (0 : Int32) (1 : Int32) (1 : Int32) [ka] [u2] [(.ref b145)] [u3] b145 T164.heap n0 Zq164 B164 (by decide) (by decide) rfl) hZ (hw _ (List.mem_of_getElem? (i := 49) rfl)) (hw _ (List.mem_of_getElem? (i := 3) rfl)) (by decide) (by decide)) q170a q170c (g := (mkF m 240 #[iv u0, iv u1, iv u2, .val (.long u3), .second, iv u4, .val (.long u5), .second, iv (1 : Int32), iv ka, iv kb, rv b145, .val .null, rv b154, iv (1 : Int32), iv (1 : Int32), iv (1 : Int32), .unset] [(.int (0 : Int32)), (.ref b154)])) rfl (by rw [hml]; rfl) (Steps.refl _) (argsL := [(.int (0 : Int32))]) (rest := []) (lenOf pd_5 rfl) rfl (by show 2 * 0 + _ ≤ _; exact Nat.le_of_eq rfl) (hb hby at_240) (fun _ _ => ⟨rfl, eq169, (by decide : 6 + 0 ≤ _), (by decide : 10 + 0 ≤ _)⟩)
        dsimp only [Pt.U, Pt.locs, Pt.cells, Pt.slots] at X170 l170 y170 z170 st170 hQ170
        subst y170 z170
        obtain ⟨rfl, Nq170, eq170⟩ := hQ170
        have N170 : Fr n0 L170 := by rw [l170]; exact Fr.app N169 Nq170
        obtain ⟨cq171, kq171, q171a, q171b, q171c⟩ := isOf hZ eq170 f166
        obtain ⟨_, _, ⟨T171, L171, k171, n171⟩, -, X171, ⟨Lc171, hQ171, l171, y171, z171⟩, st171⟩ := X170.virtualBack hx (y := (⟨"com/example/agouti/agouti/store/IndexBuilder$Notes", "hash", "(I)J"⟩ : MethodName)) (z := (⟨"com/example/agouti/agouti/store/IndexBuilder$Notes", "hash", "(I)J"⟩ : MethodName)) hown (mvT hZ (hw _ (List.mem_of_getElem? (i := 50) rfl))) (mvT hZ (hw _ (List.mem_of_getElem? (i := 51) rfl))) (notFace_of_selects (args := #[]) (mvT hZ (hw _ (List.mem_of_getElem? (i := 53) rfl)))) (mvT hZ (hw _ (List.mem_of_getElem? (i := 53) rfl))) (mvT hZ (hw _ (List.mem_of_getElem? (i := 52) rfl))) (by decide) (backOf (W := 0) (rmHash l Z a0 hw [] b154 (0 : Int32) (1 : Int32) (1 : Int32) [ka] [u2] [(.ref b145)] [u3] u3 T164.heap n0 Zq164 B164 (by decide) (by decide) rfl) hZ (hw _ (List.mem_of_getElem? (i := 54) rfl)) (hw _ (List.mem_of_getElem? (i := 3) rfl)) (by decide) (by decide)) q171a q171c (g := (mkF m 251 #[iv u0, iv u1, iv u2, .val (.long u3), .second, iv u4, .val (.long u5), .second, iv (1 : Int32), iv ka, iv kb, rv b145, .val .null, rv b154, iv (1 : Int32), iv (1 : Int32), iv (1 : Int32), .unset] [(.int (0 : Int32)), (.ref b154)])) rfl (by rw [hml]; rfl) (Steps.refl _) (argsL := [(.int (0 : Int32))]) (rest := []) (lenOf pd_6 rfl) rfl (by show 2 * 0 + _ ≤ _; exact Nat.le_of_eq rfl) (hb hby at_251) (fun _ _ => ⟨rfl, eq170, (by decide : 6 + 0 ≤ _), (by decide : 10 + 0 ≤ _)⟩)
        dsimp only [Pt.U, Pt.locs, Pt.cells, Pt.slots] at X171 l171 y171 z171 st171 hQ171
        subst y171 z171
        obtain ⟨rfl, Nq171, eq171⟩ := hQ171
        have N171 : Fr n0 L171 := by rw [l171]; exact Fr.app N170 Nq171
        obtain ⟨fs, hr, hrun, hended, hW, hsame⟩ := X171.leave (v := some (.int (1 : Int32))) (fun h => by rw [Bd.returns] at h; cases h)
        refine ⟨_, _, S153 _ ?_, hrun, hended, _, _, rfl, ?_, ⟨_, rfl⟩, hW, hsame.mono (by decide) (by decide)⟩
        · skip
          show Steps p.tables e below (T147.setTop (mkF m 87 #[iv u0, iv u1, iv u2, .val (.long u3), .second, iv u4, .val (.long u5), .second, iv (1 : Int32), iv ka, iv kb, rv b145, .val .null, .unset, .unset, .unset, .unset, .unset] [])) _
          refine st154 _ ?_
          show Steps p.tables e below (T154.setTop (mkF m 90 #[iv u0, iv u1, iv u2, .val (.long u3), .second, iv u4, .val (.long u5), .second, iv (1 : Int32), iv ka, iv kb, rv b145, .val .null, .unset, .unset, .unset, .unset, .unset] [(.ref b154)])) _
          refine XS.dup X154.here hx rfl (hb hby at_90) rfl rfl ?_
          show Steps p.tables e below (T154.setTop (mkF m 91 #[iv u0, iv u1, iv u2, .val (.long u3), .second, iv u4, .val (.long u5), .second, iv (1 : Int32), iv ka, iv kb, rv b145, .val .null, .unset, .unset, .unset, .unset, .unset] [(.ref b154), (.ref b154)])) _
          refine XS.iload X154.here hx rfl (hb hby at_91) rfl ?_
          show Steps p.tables e below (T154.setTop (mkF m 93 #[iv u0, iv u1, iv u2, .val (.long u3), .second, iv u4, .val (.long u5), .second, iv (1 : Int32), iv ka, iv kb, rv b145, .val .null, .unset, .unset, .unset, .unset, .unset] [(.int (1 : Int32)), (.ref b154), (.ref b154)])) _
          refine st156.trans ?_
          show Steps p.tables e below (T156.setTop (mkF m 96 #[iv u0, iv u1, iv u2, .val (.long u3), .second, iv u4, .val (.long u5), .second, iv (1 : Int32), iv ka, iv kb, rv b145, .val .null, .unset, .unset, .unset, .unset, .unset] [(.ref b154)])) _
          refine XS.astore X156.here hx rfl (hb hby at_96) rfl rfl (l' := #[iv u0, iv u1, iv u2, .val (.long u3), .second, iv u4, .val (.long u5), .second, iv (1 : Int32), iv ka, iv kb, rv b145, .val .null, rv b154, .unset, .unset, .unset, .unset]) rfl ?_
          show Steps p.tables e below (T156.setTop (mkF m 98 #[iv u0, iv u1, iv u2, .val (.long u3), .second, iv u4, .val (.long u5), .second, iv (1 : Int32), iv ka, iv kb, rv b145, .val .null, rv b154, .unset, .unset, .unset, .unset] [])) _
          refine XS.aload X156.here hx rfl (hb hby at_98) rfl rfl ?_
          show Steps p.tables e below (T156.setTop (mkF m 100 #[iv u0, iv u1, iv u2, .val (.long u3), .second, iv u4, .val (.long u5), .second, iv (1 : Int32), iv ka, iv kb, rv b145, .val .null, rv b154, .unset, .unset, .unset, .unset] [(.ref b154)])) _
          refine XS.iload X156.here hx rfl (hb hby at_100) rfl ?_
          show Steps p.tables e below (T156.setTop (mkF m 102 #[iv u0, iv u1, iv u2, .val (.long u3), .second, iv u4, .val (.long u5), .second, iv (1 : Int32), iv ka, iv kb, rv b145, .val .null, rv b154, .unset, .unset, .unset, .unset] [(.int ka), (.ref b154)])) _
          refine XS.iloadN X156.here hx rfl (hb hby at_102) rfl ?_
          show Steps p.tables e below (T156.setTop (mkF m 103 #[iv u0, iv u1, iv u2, .val (.long u3), .second, iv u4, .val (.long u5), .second, iv (1 : Int32), iv ka, iv kb, rv b145, .val .null, rv b154, .unset, .unset, .unset, .unset] [(.int u2), (.int ka), (.ref b154)])) _
          refine XS.aload X156.here hx rfl (hb hby at_103) rfl rfl ?_
          show Steps p.tables e below (T156.setTop (mkF m 105 #[iv u0, iv u1, iv u2, .val (.long u3), .second, iv u4, .val (.long u5), .second, iv (1 : Int32), iv ka, iv kb, rv b145, .val .null, rv b154, .unset, .unset, .unset, .unset] [(.ref b145), (.int u2), (.int ka), (.ref b154)])) _
          refine XS.lloadN X156.here hx rfl (hb hby at_105) rfl ?_
          show Steps p.tables e below (T156.setTop (mkF m 106 #[iv u0, iv u1, iv u2, .val (.long u3), .second, iv u4, .val (.long u5), .second, iv (1 : Int32), iv ka, iv kb, rv b145, .val .null, rv b154, .unset, .unset, .unset, .unset] [(.long u3), (.ref b145), (.int u2), (.int ka), (.ref b154)])) _
          refine st164.trans ?_
          show Steps p.tables e below (T164.setTop (mkF m 109 #[iv u0, iv u1, iv u2, .val (.long u3), .second, iv u4, .val (.long u5), .second, iv (1 : Int32), iv ka, iv kb, rv b145, .val .null, rv b154, .unset, .unset, .unset, .unset] [(.int (1 : Int32))])) _
          refine XS.istore X164.here hx rfl (hb hby at_109) rfl (l' := #[iv u0, iv u1, iv u2, .val (.long u3), .second, iv u4, .val (.long u5), .second, iv (1 : Int32), iv ka, iv kb, rv b145, .val .null, rv b154, iv (1 : Int32), .unset, .unset, .unset]) rfl ?_
          show Steps p.tables e below (T164.setTop (mkF m 111 #[iv u0, iv u1, iv u2, .val (.long u3), .second, iv u4, .val (.long u5), .second, iv (1 : Int32), iv ka, iv kb, rv b145, .val .null, rv b154, iv (1 : Int32), .unset, .unset, .unset] [])) _
          refine XS.iload X164.here hx rfl (hb hby at_111) rfl ?_
          show Steps p.tables e below (T164.setTop (mkF m 113 #[iv u0, iv u1, iv u2, .val (.long u3), .second, iv u4, .val (.long u5), .second, iv (1 : Int32), iv ka, iv kb, rv b145, .val .null, rv b154, iv (1 : Int32), .unset, .unset, .unset] [(.int (1 : Int32))])) _
          refine XS.iload X164.here hx rfl (hb hby at_113) rfl ?_
          show Steps p.tables e below (T164.setTop (mkF m 115 #[iv u0, iv u1, iv u2, .val (.long u3), .second, iv u4, .val (.long u5), .second, iv (1 : Int32), iv ka, iv kb, rv b145, .val .null, rv b154, iv (1 : Int32), .unset, .unset, .unset] [(.int (1 : Int32)), (.int (1 : Int32))])) _
          refine XS.iconst X164.here hx rfl (hb hby at_115) ?_
          show Steps p.tables e below (T164.setTop (mkF m 116 #[iv u0, iv u1, iv u2, .val (.long u3), .second, iv u4, .val (.long u5), .second, iv (1 : Int32), iv ka, iv kb, rv b145, .val .null, rv b154, iv (1 : Int32), .unset, .unset, .unset] [(.int (1 : Int32)), (.int (1 : Int32)), (.int (1 : Int32))])) _
          refine XS.icmpNo X164.here hx rfl (hb hby at_116) rfl (teq (by decide : (1 : Int32) = (1 : Int32))).2 ?_
          show Steps p.tables e below (T164.setTop (mkF m 119 #[iv u0, iv u1, iv u2, .val (.long u3), .second, iv u4, .val (.long u5), .second, iv (1 : Int32), iv ka, iv kb, rv b145, .val .null, rv b154, iv (1 : Int32), .unset, .unset, .unset] [(.int (1 : Int32))])) _
          refine XS.iconst X164.here hx rfl (hb hby at_119) ?_
          show Steps p.tables e below (T164.setTop (mkF m 120 #[iv u0, iv u1, iv u2, .val (.long u3), .second, iv u4, .val (.long u5), .second, iv (1 : Int32), iv ka, iv kb, rv b145, .val .null, rv b154, iv (1 : Int32), .unset, .unset, .unset] [(.int (1 : Int32)), (.int (1 : Int32))])) _
          refine XS.goto X164.here hx rfl (pc0 := 120) (pc' := 124) rfl (hb hby at_120) (by decide) (by decide) ?_
          show Steps p.tables e below (T164.setTop (mkF m 124 #[iv u0, iv u1, iv u2, .val (.long u3), .second, iv u4, .val (.long u5), .second, iv (1 : Int32), iv ka, iv kb, rv b145, .val .null, rv b154, iv (1 : Int32), .unset, .unset, .unset] [(.int (1 : Int32)), (.int (1 : Int32))])) _
          refine XS.icmpNo X164.here hx rfl (hb hby at_124) rfl (teq (by decide : (1 : Int32) = (1 : Int32))).2 ?_
          show Steps p.tables e below (T164.setTop (mkF m 127 #[iv u0, iv u1, iv u2, .val (.long u3), .second, iv u4, .val (.long u5), .second, iv (1 : Int32), iv ka, iv kb, rv b145, .val .null, rv b154, iv (1 : Int32), .unset, .unset, .unset] [])) _
          refine XS.iconst X164.here hx rfl (hb hby at_127) ?_
          show Steps p.tables e below (T164.setTop (mkF m 128 #[iv u0, iv u1, iv u2, .val (.long u3), .second, iv u4, .val (.long u5), .second, iv (1 : Int32), iv ka, iv kb, rv b145, .val .null, rv b154, iv (1 : Int32), .unset, .unset, .unset] [(.int (1 : Int32))])) _
          refine XS.goto X164.here hx rfl (pc0 := 128) (pc' := 132) rfl (hb hby at_128) (by decide) (by decide) ?_
          show Steps p.tables e below (T164.setTop (mkF m 132 #[iv u0, iv u1, iv u2, .val (.long u3), .second, iv u4, .val (.long u5), .second, iv (1 : Int32), iv ka, iv kb, rv b145, .val .null, rv b154, iv (1 : Int32), .unset, .unset, .unset] [(.int (1 : Int32))])) _
          refine XS.istore X164.here hx rfl (hb hby at_132) rfl (l' := #[iv u0, iv u1, iv u2, .val (.long u3), .second, iv u4, .val (.long u5), .second, iv (1 : Int32), iv ka, iv kb, rv b145, .val .null, rv b154, iv (1 : Int32), iv (1 : Int32), .unset, .unset]) rfl ?_
          show Steps p.tables e below (T164.setTop (mkF m 134 #[iv u0, iv u1, iv u2, .val (.long u3), .second, iv u4, .val (.long u5), .second, iv (1 : Int32), iv ka, iv kb, rv b145, .val .null, rv b154, iv (1 : Int32), iv (1 : Int32), .unset, .unset] [])) _
          refine XS.iconst X164.here hx rfl (hb hby at_134) ?_
          show Steps p.tables e below (T164.setTop (mkF m 135 #[iv u0, iv u1, iv u2, .val (.long u3), .second, iv u4, .val (.long u5), .second, iv (1 : Int32), iv ka, iv kb, rv b145, .val .null, rv b154, iv (1 : Int32), iv (1 : Int32), .unset, .unset] [(.int (1 : Int32))])) _
          refine XS.istore X164.here hx rfl (hb hby at_135) rfl (l' := #[iv u0, iv u1, iv u2, .val (.long u3), .second, iv u4, .val (.long u5), .second, iv (1 : Int32), iv ka, iv kb, rv b145, .val .null, rv b154, iv (1 : Int32), iv (1 : Int32), iv (1 : Int32), .unset]) rfl ?_
          show Steps p.tables e below (T164.setTop (mkF m 137 #[iv u0, iv u1, iv u2, .val (.long u3), .second, iv u4, .val (.long u5), .second, iv (1 : Int32), iv ka, iv kb, rv b145, .val .null, rv b154, iv (1 : Int32), iv (1 : Int32), iv (1 : Int32), .unset] [])) _
          refine XS.iload X164.here hx rfl (hb hby at_137) rfl ?_
          show Steps p.tables e below (T164.setTop (mkF m 139 #[iv u0, iv u1, iv u2, .val (.long u3), .second, iv u4, .val (.long u5), .second, iv (1 : Int32), iv ka, iv kb, rv b145, .val .null, rv b154, iv (1 : Int32), iv (1 : Int32), iv (1 : Int32), .unset] [(.int (1 : Int32))])) _
          refine XS.iconst X164.here hx rfl (hb hby at_139) ?_
          show Steps p.tables e below (T164.setTop (mkF m 140 #[iv u0, iv u1, iv u2, .val (.long u3), .second, iv u4, .val (.long u5), .second, iv (1 : Int32), iv ka, iv kb, rv b145, .val .null, rv b154, iv (1 : Int32), iv (1 : Int32), iv (1 : Int32), .unset] [(.int (2 : Int32)), (.int (1 : Int32))])) _
          refine XS.icmpYes X164.here hx rfl (pc0 := 140) (pc' := 189) rfl (hb hby at_140) rfl (tlt (by decide : (1 : Int32) < (2 : Int32))).1 (by decide) (by decide) ?_
          show Steps p.tables e below (T164.setTop (mkF m 189 #[iv u0, iv u1, iv u2, .val (.long u3), .second, iv u4, .val (.long u5), .second, iv (1 : Int32), iv ka, iv kb, rv b145, .val .null, rv b154, iv (1 : Int32), iv (1 : Int32), iv (1 : Int32), .unset] [])) _
          refine XS.iload X164.here hx rfl (hb hby at_189) rfl ?_
          show Steps p.tables e below (T164.setTop (mkF m 191 #[iv u0, iv u1, iv u2, .val (.long u3), .second, iv u4, .val (.long u5), .second, iv (1 : Int32), iv ka, iv kb, rv b145, .val .null, rv b154, iv (1 : Int32), iv (1 : Int32), iv (1 : Int32), .unset] [(.int (1 : Int32))])) _
          refine XS.ifNo X164.here hx rfl (hb hby at_191) rfl ((if0 _ _).trans (feq (by decide : ¬ ((1 : Int32) = (0 : Int32)))).1) ?_
          show Steps p.tables e below (T164.setTop (mkF m 194 #[iv u0, iv u1, iv u2, .val (.long u3), .second, iv u4, .val (.long u5), .second, iv (1 : Int32), iv ka, iv kb, rv b145, .val .null, rv b154, iv (1 : Int32), iv (1 : Int32), iv (1 : Int32), .unset] [])) _
          refine XS.aload X164.here hx rfl (hb hby at_194) rfl rfl ?_
          show Steps p.tables e below (T164.setTop (mkF m 196 #[iv u0, iv u1, iv u2, .val (.long u3), .second, iv u4, .val (.long u5), .second, iv (1 : Int32), iv ka, iv kb, rv b145, .val .null, rv b154, iv (1 : Int32), iv (1 : Int32), iv (1 : Int32), .unset] [(.ref b154)])) _
          refine st167.trans ?_
          show Steps p.tables e below (T167.setTop (mkF m 199 #[iv u0, iv u1, iv u2, .val (.long u3), .second, iv u4, .val (.long u5), .second, iv (1 : Int32), iv ka, iv kb, rv b145, .val .null, rv b154, iv (1 : Int32), iv (1 : Int32), iv (1 : Int32), .unset] [(.int (1 : Int32))])) _
          refine XS.iload X167.here hx rfl (hb hby at_199) rfl ?_
          show Steps p.tables e below (T167.setTop (mkF m 201 #[iv u0, iv u1, iv u2, .val (.long u3), .second, iv u4, .val (.long u5), .second, iv (1 : Int32), iv ka, iv kb, rv b145, .val .null, rv b154, iv (1 : Int32), iv (1 : Int32), iv (1 : Int32), .unset] [(.int (1 : Int32)), (.int (1 : Int32))])) _
          refine XS.icmpNo X167.here hx rfl (hb hby at_201) rfl (teq (by decide : (1 : Int32) = (1 : Int32))).2 ?_
          show Steps p.tables e below (T167.setTop (mkF m 204 #[iv u0, iv u1, iv u2, .val (.long u3), .second, iv u4, .val (.long u5), .second, iv (1 : Int32), iv ka, iv kb, rv b145, .val .null, rv b154, iv (1 : Int32), iv (1 : Int32), iv (1 : Int32), .unset] [])) _
          refine XS.iconst X167.here hx rfl (hb hby at_204) ?_
          show Steps p.tables e below (T167.setTop (mkF m 205 #[iv u0, iv u1, iv u2, .val (.long u3), .second, iv u4, .val (.long u5), .second, iv (1 : Int32), iv ka, iv kb, rv b145, .val .null, rv b154, iv (1 : Int32), iv (1 : Int32), iv (1 : Int32), .unset] [(.int (1 : Int32))])) _
          refine XS.goto X167.here hx rfl (pc0 := 205) (pc' := 209) rfl (hb hby at_205) (by decide) (by decide) ?_
          show Steps p.tables e below (T167.setTop (mkF m 209 #[iv u0, iv u1, iv u2, .val (.long u3), .second, iv u4, .val (.long u5), .second, iv (1 : Int32), iv ka, iv kb, rv b145, .val .null, rv b154, iv (1 : Int32), iv (1 : Int32), iv (1 : Int32), .unset] [(.int (1 : Int32))])) _
          refine XS.istore X167.here hx rfl (hb hby at_209) rfl (l' := #[iv u0, iv u1, iv u2, .val (.long u3), .second, iv u4, .val (.long u5), .second, iv (1 : Int32), iv ka, iv kb, rv b145, .val .null, rv b154, iv (1 : Int32), iv (1 : Int32), iv (1 : Int32), .unset]) rfl ?_
          show Steps p.tables e below (T167.setTop (mkF m 211 #[iv u0, iv u1, iv u2, .val (.long u3), .second, iv u4, .val (.long u5), .second, iv (1 : Int32), iv ka, iv kb, rv b145, .val .null, rv b154, iv (1 : Int32), iv (1 : Int32), iv (1 : Int32), .unset] [])) _
          refine XS.iload X167.here hx rfl (hb hby at_211) rfl ?_
          show Steps p.tables e below (T167.setTop (mkF m 213 #[iv u0, iv u1, iv u2, .val (.long u3), .second, iv u4, .val (.long u5), .second, iv (1 : Int32), iv ka, iv kb, rv b145, .val .null, rv b154, iv (1 : Int32), iv (1 : Int32), iv (1 : Int32), .unset] [(.int (1 : Int32))])) _
          refine XS.ifNo X167.here hx rfl (hb hby at_213) rfl ((if0 _ _).trans (feq (by decide : ¬ ((1 : Int32) = (0 : Int32)))).1) ?_
          show Steps p.tables e below (T167.setTop (mkF m 216 #[iv u0, iv u1, iv u2, .val (.long u3), .second, iv u4, .val (.long u5), .second, iv (1 : Int32), iv ka, iv kb, rv b145, .val .null, rv b154, iv (1 : Int32), iv (1 : Int32), iv (1 : Int32), .unset] [])) _
          refine XS.aload X167.here hx rfl (hb hby at_216) rfl rfl ?_
          show Steps p.tables e below (T167.setTop (mkF m 218 #[iv u0, iv u1, iv u2, .val (.long u3), .second, iv u4, .val (.long u5), .second, iv (1 : Int32), iv ka, iv kb, rv b145, .val .null, rv b154, iv (1 : Int32), iv (1 : Int32), iv (1 : Int32), .unset] [(.ref b154)])) _
          refine XS.iconst X167.here hx rfl (hb hby at_218) ?_
          show Steps p.tables e below (T167.setTop (mkF m 219 #[iv u0, iv u1, iv u2, .val (.long u3), .second, iv u4, .val (.long u5), .second, iv (1 : Int32), iv ka, iv kb, rv b145, .val .null, rv b154, iv (1 : Int32), iv (1 : Int32), iv (1 : Int32), .unset] [(.int (0 : Int32)), (.ref b154)])) _
          refine st168.trans ?_
          show Steps p.tables e below (T168.setTop (mkF m 222 #[iv u0, iv u1, iv u2, .val (.long u3), .second, iv u4, .val (.long u5), .second, iv (1 : Int32), iv ka, iv kb, rv b145, .val .null, rv b154, iv (1 : Int32), iv (1 : Int32), iv (1 : Int32), .unset] [(.int ka)])) _
          refine XS.iload X168.here hx rfl (hb hby at_222) rfl ?_
          show Steps p.tables e below (T168.setTop (mkF m 224 #[iv u0, iv u1, iv u2, .val (.long u3), .second, iv u4, .val (.long u5), .second, iv (1 : Int32), iv ka, iv kb, rv b145, .val .null, rv b154, iv (1 : Int32), iv (1 : Int32), iv (1 : Int32), .unset] [(.int ka), (.int ka)])) _
          refine XS.icmpNo X168.here hx rfl (hb hby at_224) rfl (teq rfl).2 ?_
          show Steps p.tables e below (T168.setTop (mkF m 227 #[iv u0, iv u1, iv u2, .val (.long u3), .second, iv u4, .val (.long u5), .second, iv (1 : Int32), iv ka, iv kb, rv b145, .val .null, rv b154, iv (1 : Int32), iv (1 : Int32), iv (1 : Int32), .unset] [])) _
          refine XS.aload X168.here hx rfl (hb hby at_227) rfl rfl ?_
          show Steps p.tables e below (T168.setTop (mkF m 229 #[iv u0, iv u1, iv u2, .val (.long u3), .second, iv u4, .val (.long u5), .second, iv (1 : Int32), iv ka, iv kb, rv b145, .val .null, rv b154, iv (1 : Int32), iv (1 : Int32), iv (1 : Int32), .unset] [(.ref b154)])) _
          refine XS.iconst X168.here hx rfl (hb hby at_229) ?_
          show Steps p.tables e below (T168.setTop (mkF m 230 #[iv u0, iv u1, iv u2, .val (.long u3), .second, iv u4, .val (.long u5), .second, iv (1 : Int32), iv ka, iv kb, rv b145, .val .null, rv b154, iv (1 : Int32), iv (1 : Int32), iv (1 : Int32), .unset] [(.int (0 : Int32)), (.ref b154)])) _
          refine st169.trans ?_
          show Steps p.tables e below (T169.setTop (mkF m 233 #[iv u0, iv u1, iv u2, .val (.long u3), .second, iv u4, .val (.long u5), .second, iv (1 : Int32), iv ka, iv kb, rv b145, .val .null, rv b154, iv (1 : Int32), iv (1 : Int32), iv (1 : Int32), .unset] [(.int u2)])) _
          refine XS.iloadN X169.here hx rfl (hb hby at_233) rfl ?_
          show Steps p.tables e below (T169.setTop (mkF m 234 #[iv u0, iv u1, iv u2, .val (.long u3), .second, iv u4, .val (.long u5), .second, iv (1 : Int32), iv ka, iv kb, rv b145, .val .null, rv b154, iv (1 : Int32), iv (1 : Int32), iv (1 : Int32), .unset] [(.int u2), (.int u2)])) _
          refine XS.icmpNo X169.here hx rfl (hb hby at_234) rfl (teq rfl).2 ?_
          show Steps p.tables e below (T169.setTop (mkF m 237 #[iv u0, iv u1, iv u2, .val (.long u3), .second, iv u4, .val (.long u5), .second, iv (1 : Int32), iv ka, iv kb, rv b145, .val .null, rv b154, iv (1 : Int32), iv (1 : Int32), iv (1 : Int32), .unset] [])) _
          refine XS.aload X169.here hx rfl (hb hby at_237) rfl rfl ?_
          show Steps p.tables e below (T169.setTop (mkF m 239 #[iv u0, iv u1, iv u2, .val (.long u3), .second, iv u4, .val (.long u5), .second, iv (1 : Int32), iv ka, iv kb, rv b145, .val .null, rv b154, iv (1 : Int32), iv (1 : Int32), iv (1 : Int32), .unset] [(.ref b154)])) _
          refine XS.iconst X169.here hx rfl (hb hby at_239) ?_
          show Steps p.tables e below (T169.setTop (mkF m 240 #[iv u0, iv u1, iv u2, .val (.long u3), .second, iv u4, .val (.long u5), .second, iv (1 : Int32), iv ka, iv kb, rv b145, .val .null, rv b154, iv (1 : Int32), iv (1 : Int32), iv (1 : Int32), .unset] [(.int (0 : Int32)), (.ref b154)])) _
          refine st170.trans ?_
          show Steps p.tables e below (T170.setTop (mkF m 243 #[iv u0, iv u1, iv u2, .val (.long u3), .second, iv u4, .val (.long u5), .second, iv (1 : Int32), iv ka, iv kb, rv b145, .val .null, rv b154, iv (1 : Int32), iv (1 : Int32), iv (1 : Int32), .unset] [(.ref b145)])) _
          refine XS.aload X170.here hx rfl (hb hby at_243) rfl rfl ?_
          show Steps p.tables e below (T170.setTop (mkF m 245 #[iv u0, iv u1, iv u2, .val (.long u3), .second, iv u4, .val (.long u5), .second, iv (1 : Int32), iv ka, iv kb, rv b145, .val .null, rv b154, iv (1 : Int32), iv (1 : Int32), iv (1 : Int32), .unset] [(.ref b145), (.ref b145)])) _
          refine Jvm.RoadKit.acmp (g := (mkF m 245 #[iv u0, iv u1, iv u2, .val (.long u3), .second, iv u4, .val (.long u5), .second, iv (1 : Int32), iv ka, iv kb, rv b145, .val .null, rv b154, iv (1 : Int32), iv (1 : Int32), iv (1 : Int32), .unset] [(.ref b145), (.ref b145)])) X170 hx rfl rfl rfl (pc0 := 245) (pc' := 248) (same := true) rfl (hb hby at_245) rfl (decide_eq_true rfl) (by decide) (by decide) ?_
          show Steps p.tables e below (T170.setTop (mkF m 248 #[iv u0, iv u1, iv u2, .val (.long u3), .second, iv u4, .val (.long u5), .second, iv (1 : Int32), iv ka, iv kb, rv b145, .val .null, rv b154, iv (1 : Int32), iv (1 : Int32), iv (1 : Int32), .unset] [])) _
          refine XS.aload X170.here hx rfl (hb hby at_248) rfl rfl ?_
          show Steps p.tables e below (T170.setTop (mkF m 250 #[iv u0, iv u1, iv u2, .val (.long u3), .second, iv u4, .val (.long u5), .second, iv (1 : Int32), iv ka, iv kb, rv b145, .val .null, rv b154, iv (1 : Int32), iv (1 : Int32), iv (1 : Int32), .unset] [(.ref b154)])) _
          refine XS.iconst X170.here hx rfl (hb hby at_250) ?_
          show Steps p.tables e below (T170.setTop (mkF m 251 #[iv u0, iv u1, iv u2, .val (.long u3), .second, iv u4, .val (.long u5), .second, iv (1 : Int32), iv ka, iv kb, rv b145, .val .null, rv b154, iv (1 : Int32), iv (1 : Int32), iv (1 : Int32), .unset] [(.int (0 : Int32)), (.ref b154)])) _
          refine st171.trans ?_
          show Steps p.tables e below (T171.setTop (mkF m 254 #[iv u0, iv u1, iv u2, .val (.long u3), .second, iv u4, .val (.long u5), .second, iv (1 : Int32), iv ka, iv kb, rv b145, .val .null, rv b154, iv (1 : Int32), iv (1 : Int32), iv (1 : Int32), .unset] [(.long u3)])) _
          refine XS.lloadN X171.here hx rfl (hb hby at_254) rfl ?_
          show Steps p.tables e below (T171.setTop (mkF m 255 #[iv u0, iv u1, iv u2, .val (.long u3), .second, iv u4, .val (.long u5), .second, iv (1 : Int32), iv ka, iv kb, rv b145, .val .null, rv b154, iv (1 : Int32), iv (1 : Int32), iv (1 : Int32), .unset] [(.long u3), (.long u3)])) _
          refine XS.lcmp X171.here hx rfl (hb hby at_255) rfl ?_
          show Steps p.tables e below (T171.setTop (mkF m 256 #[iv u0, iv u1, iv u2, .val (.long u3), .second, iv u4, .val (.long u5), .second, iv (1 : Int32), iv ka, iv kb, rv b145, .val .null, rv b154, iv (1 : Int32), iv (1 : Int32), iv (1 : Int32), .unset] [(.int (lcmpW u3 u3))])) _
          refine XS.ifNo X171.here hx rfl (hb hby at_256) rfl ((if0 _ _).trans (teq ((lw_eq _ _).mpr rfl)).2) ?_
          show Steps p.tables e below (T171.setTop (mkF m 259 #[iv u0, iv u1, iv u2, .val (.long u3), .second, iv u4, .val (.long u5), .second, iv (1 : Int32), iv ka, iv kb, rv b145, .val .null, rv b154, iv (1 : Int32), iv (1 : Int32), iv (1 : Int32), .unset] [])) _
          refine XS.iconst X171.here hx rfl (hb hby at_259) ?_
          show Steps p.tables e below (T171.setTop (mkF m 260 #[iv u0, iv u1, iv u2, .val (.long u3), .second, iv u4, .val (.long u5), .second, iv (1 : Int32), iv ka, iv kb, rv b145, .val .null, rv b154, iv (1 : Int32), iv (1 : Int32), iv (1 : Int32), .unset] [(.int (1 : Int32))])) _
          refine XS.goto X171.here hx rfl (pc0 := 260) (pc' := 264) rfl (hb hby at_260) (by decide) (by decide) ?_
          show Steps p.tables e below (T171.setTop (mkF m 264 #[iv u0, iv u1, iv u2, .val (.long u3), .second, iv u4, .val (.long u5), .second, iv (1 : Int32), iv ka, iv kb, rv b145, .val .null, rv b154, iv (1 : Int32), iv (1 : Int32), iv (1 : Int32), .unset] [(.int (1 : Int32))])) _
          refine XS.istore X171.here hx rfl (hb hby at_264) rfl (l' := #[iv u0, iv u1, iv u2, .val (.long u3), .second, iv u4, .val (.long u5), .second, iv (1 : Int32), iv ka, iv kb, rv b145, .val .null, rv b154, iv (1 : Int32), iv (1 : Int32), iv (1 : Int32), .unset]) rfl ?_
          show Steps p.tables e below (T171.setTop (mkF m 266 #[iv u0, iv u1, iv u2, .val (.long u3), .second, iv u4, .val (.long u5), .second, iv (1 : Int32), iv ka, iv kb, rv b145, .val .null, rv b154, iv (1 : Int32), iv (1 : Int32), iv (1 : Int32), .unset] [])) _
          refine XS.iload X171.here hx rfl (hb hby at_266) rfl ?_
          show Steps p.tables e below (T171.setTop (mkF m 268 #[iv u0, iv u1, iv u2, .val (.long u3), .second, iv u4, .val (.long u5), .second, iv (1 : Int32), iv ka, iv kb, rv b145, .val .null, rv b154, iv (1 : Int32), iv (1 : Int32), iv (1 : Int32), .unset] [(.int (1 : Int32))])) _
          refine XS.iconst X171.here hx rfl (hb hby at_268) ?_
          show Steps p.tables e below (T171.setTop (mkF m 269 #[iv u0, iv u1, iv u2, .val (.long u3), .second, iv u4, .val (.long u5), .second, iv (1 : Int32), iv ka, iv kb, rv b145, .val .null, rv b154, iv (1 : Int32), iv (1 : Int32), iv (1 : Int32), .unset] [(.int (2 : Int32)), (.int (1 : Int32))])) _
          refine XS.icmpYes X171.here hx rfl (pc0 := 269) (pc' := 329) rfl (hb hby at_269) rfl (tlt (by decide : (1 : Int32) < (2 : Int32))).1 (by decide) (by decide) ?_
          show Steps p.tables e below (T171.setTop (mkF m 329 #[iv u0, iv u1, iv u2, .val (.long u3), .second, iv u4, .val (.long u5), .second, iv (1 : Int32), iv ka, iv kb, rv b145, .val .null, rv b154, iv (1 : Int32), iv (1 : Int32), iv (1 : Int32), .unset] [])) _
          refine XS.iload X171.here hx rfl (hb hby at_329) rfl ?_
          show Steps p.tables e below (T171.setTop (mkF m 331 #[iv u0, iv u1, iv u2, .val (.long u3), .second, iv u4, .val (.long u5), .second, iv (1 : Int32), iv ka, iv kb, rv b145, .val .null, rv b154, iv (1 : Int32), iv (1 : Int32), iv (1 : Int32), .unset] [(.int (1 : Int32))])) _
          exact retN X171 hx (t := .boolean) Bd.returns (by simp) (hb hby at_331) hr
        · show Q0 Z u0 u1 u2 u3 u4 u5 h0 n0 _ T171.heap _
          rw [eq171]
          exact ⟨rfl, N171⟩
      · skip
        rw [hcp] at S153
        obtain ⟨T172, h172, X172, e172, E172, A172, D172, -, st172⟩ := newO X147 hx hZ hown (hw _ (List.mem_of_getElem? (i := 1) rfl)) (hw _ (List.mem_of_getElem? (i := 2) rfl)) (hw _ (List.mem_of_getElem? (i := 3) rfl)) e147 (g := (mkF m 87 #[iv u0, iv u1, iv u2, .val (.long u3), .second, iv u4, .val (.long u5), .second, iv (2 : Int32), iv ka, iv kb, rv b145, .val .null, .unset, .unset, .unset, .unset, .unset] [])) rfl (hb hby at_87) (by decide) (by decide)
        obtain ⟨b172, g172⟩ : ∃ z, z = h147.size := ⟨_, rfl⟩
        rw [← g172] at A172 D172 st172
        have ge_b172 : n0 ≤ b172 := Nat.le_trans Z147 (Nat.le_of_eq g172.symm)
        have ne_b145_b172 : b145 ≠ b172 := Nat.ne_of_lt (Nat.lt_of_lt_of_le (f150).lt (Nat.le_of_eq g172.symm))
        have f173 := f150.ext E172
        have F172_kinds : Fld Z h172 b172 "com/example/agouti/agouti/store/IndexBuilder$Notes" "kinds" "[B" .null := D172 (Or.inr (hw _ (List.mem_of_getElem? (i := 12) rfl))) (ty := (.array .byte)) (by decide)
        have F172_nodes : Fld Z h172 b172 "com/example/agouti/agouti/store/IndexBuilder$Notes" "nodes" "[I" .null := D172 (Or.inr (hw _ (List.mem_of_getElem? (i := 15) rfl))) (ty := (.array .int)) (by decide)
        have F172_values : Fld Z h172 b172 "com/example/agouti/agouti/store/IndexBuilder$Notes" "values" "[[B" .null := D172 (Or.inl (hw _ (List.mem_of_getElem? (i := 19) rfl))) (ty := (.array (.array .byte))) (by decide)
        have F172_hashes : Fld Z h172 b172 "com/example/agouti/agouti/store/IndexBuilder$Notes" "hashes" "[J" .null := D172 (Or.inr (hw _ (List.mem_of_getElem? (i := 22) rfl))) (ty := (.array .long)) (by decide)
        have F172_count : Fld Z h172 b172 "com/example/agouti/agouti/store/IndexBuilder$Notes" "count" "I" (.int (0 : Int32)) := D172 (Or.inl (hw _ (List.mem_of_getElem? (i := 29) rfl))) (ty := .int) (by decide)
        have Z172 : n0 ≤ h172.size := Nat.le_trans Z147 E172.1
        obtain ⟨_, _, ⟨T174, L174, k174, n174⟩, -, X174, ⟨Lc174, hQ174, l174, y174, z174⟩, st174⟩ := X172.specialBack hx (y := (⟨"com/example/agouti/agouti/store/IndexBuilder$Notes", "<init>", "(I)V"⟩ : MethodName)) rfl hown (mvT hZ (hw _ (List.mem_of_getElem? (i := 4) rfl))) (mvT hZ (hw _ (List.mem_of_getElem? (i := 5) rfl))) (mvT hZ (hw _ (List.mem_of_getElem? (i := 6) rfl))) (by decide) (backOf (W := 1) (rmI2 l Z a0 hw [] b172 h172 n0 Z172 A172 F172_count F172_kinds F172_nodes F172_values F172_hashes ge_b172) hZ (hw _ (List.mem_of_getElem? (i := 6) rfl)) (hw _ (List.mem_of_getElem? (i := 3) rfl)) (by decide) (by decide)) (g := (mkF m 93 #[iv u0, iv u1, iv u2, .val (.long u3), .second, iv u4, .val (.long u5), .second, iv (2 : Int32), iv ka, iv kb, rv b145, .val .null, .unset, .unset, .unset, .unset, .unset] [(.int (2 : Int32)), (.ref b172), (.ref b172)])) rfl (by rw [hml]; rfl) (Steps.refl _) (a := b172) (argsL := [(.int (2 : Int32))]) (rest := [(.ref b172)]) (lenOf pd_0 rfl) rfl (by show 2 * 0 + _ ≤ _; exact Nat.le_of_eq rfl) (hb hby at_93) (fun _ _ => ⟨rfl, e172, (by decide : 2 + 4 ≤ _), (by decide : 6 + 8 ≤ _)⟩)
        dsimp only [Pt.U, Pt.locs, Pt.cells, Pt.slots] at X174 l174 y174 z174 st174 hQ174
        subst y174 z174
        obtain ⟨rfl, Nq174, Zq174, Kq174, Bq174⟩ := hQ174
        have N174 : Fr n0 L174 := by rw [l174]; exact Fr.app N147 Nq174
        have f175 := f173.keep Kq174
        have f176 := A172.keep Kq174
        have oe174 := Bq174.1
        obtain ⟨cq182, kq182, q182a, q182b, q182c⟩ := isOf hZ rfl oe174
        obtain ⟨_, _, ⟨T182, L182, k182, n182⟩, -, X182, ⟨Lc182, hQ182, l182, y182, z182⟩, st182⟩ := X174.virtualBack hx (y := (⟨"com/example/agouti/agouti/store/IndexBuilder$Notes", "add", "(BI[BJ)Z"⟩ : MethodName)) (z := (⟨"com/example/agouti/agouti/store/IndexBuilder$Notes", "add", "(BI[BJ)Z"⟩ : MethodName)) hown (mvT hZ (hw _ (List.mem_of_getElem? (i := 23) rfl))) (mvT hZ (hw _ (List.mem_of_getElem? (i := 24) rfl))) (notFace_of_selects (args := #[]) (mvT hZ (hw _ (List.mem_of_getElem? (i := 26) rfl)))) (mvT hZ (hw _ (List.mem_of_getElem? (i := 26) rfl))) (mvT hZ (hw _ (List.mem_of_getElem? (i := 25) rfl))) (by decide) (backOf (W := 0) (rmAddR l Z a0 hw [] b172 ka u2 b145 u3 (2 : Int32) (0 : Int32) [0, 0] [0, 0] [.null, .null] [0, 0] T174.heap n0 Zq174 Bq174 ge_b172 (by decide) (by decide) (by rw [e_ka]; exact own_nb _) f175) hZ (hw _ (List.mem_of_getElem? (i := 27) rfl)) (hw _ (List.mem_of_getElem? (i := 3) rfl)) (by decide) (by decide)) q182a q182c (g := (mkF m 106 #[iv u0, iv u1, iv u2, .val (.long u3), .second, iv u4, .val (.long u5), .second, iv (2 : Int32), iv ka, iv kb, rv b145, .val .null, rv b172, .unset, .unset, .unset, .unset] [(.long u3), (.ref b145), (.int u2), (.int ka), (.ref b172)])) rfl (by rw [hml]; rfl) (Steps.refl _) (argsL := [(.int ka), (.int u2), (.ref b145), (.long u3)]) (rest := []) (lenOf pd_1 rfl) rfl (by show 2 * 0 + _ ≤ _; exact Nat.le_of_eq rfl) (hb hby at_106) (fun _ _ => ⟨rfl, rfl, (by decide : 6 + 0 ≤ _), (by decide : 14 + 0 ≤ _)⟩)
        dsimp only [Pt.U, Pt.locs, Pt.cells, Pt.slots] at X182 l182 y182 z182 st182 hQ182
        subst y182 z182
        obtain ⟨rfl, Nq182, Zq182, Kx182, Bq182⟩ := hQ182
        have N182 : Fr n0 L182 := by rw [l182]; exact Fr.app N174 Nq182
        obtain ⟨wsq182, Kq182⟩ := Kx182
        have f183 := f175.keep Kq182
        have f184 := oe174.keep Kq182
        have B182 : own_N Z T182.heap n0 b172 (2 : Int32) (1 : Int32) [ka, 0] [u2, 0] [(.ref b145), .null] [u3, 0] := Bq182
        obtain ⟨cq185, kq185, q185a, q185b, q185c⟩ := isOf hZ rfl f184
        obtain ⟨_, _, ⟨T185, L185, k185, n185⟩, -, X185, ⟨Lc185, hQ185, l185, y185, z185⟩, st185⟩ := X182.virtualBack hx (y := (⟨"com/example/agouti/agouti/store/IndexBuilder$Notes", "add", "(BI[BJ)Z"⟩ : MethodName)) (z := (⟨"com/example/agouti/agouti/store/IndexBuilder$Notes", "add", "(BI[BJ)Z"⟩ : MethodName)) hown (mvT hZ (hw _ (List.mem_of_getElem? (i := 23) rfl))) (mvT hZ (hw _ (List.mem_of_getElem? (i := 24) rfl))) (notFace_of_selects (args := #[]) (mvT hZ (hw _ (List.mem_of_getElem? (i := 26) rfl)))) (mvT hZ (hw _ (List.mem_of_getElem? (i := 26) rfl))) (mvT hZ (hw _ (List.mem_of_getElem? (i := 25) rfl))) (by decide) (backOf (W := 0) (rmAddN l Z a0 hw [] b172 kb u4 u5 (2 : Int32) (1 : Int32) [ka, 0] [u2, 0] [(.ref b145), .null] [u3, 0] T182.heap n0 Zq182 B182 ge_b172 (by decide) (by decide) (by rw [e_kb]; exact own_nb _)) hZ (hw _ (List.mem_of_getElem? (i := 27) rfl)) (hw _ (List.mem_of_getElem? (i := 3) rfl)) (by decide) (by decide)) q185a q185c (g := (mkF m 153 #[iv u0, iv u1, iv u2, .val (.long u3), .second, iv u4, .val (.long u5), .second, iv (2 : Int32), iv ka, iv kb, rv b145, .val .null, rv b172, iv (0 : Int32), iv (1 : Int32), iv (1 : Int32), .unset] [(.long u5), .null, (.int u4), (.int kb), (.ref b172)])) rfl (by rw [hml]; rfl) (Steps.refl _) (argsL := [(.int kb), (.int u4), .null, (.long u5)]) (rest := []) (lenOf pd_1 rfl) rfl (by show 2 * 0 + _ ≤ _; exact Nat.le_of_eq rfl) (hb hby at_153) (fun _ _ => ⟨rfl, rfl, (by decide : 6 + 0 ≤ _), (by decide : 14 + 0 ≤ _)⟩)
        dsimp only [Pt.U, Pt.locs, Pt.cells, Pt.slots] at X185 l185 y185 z185 st185 hQ185
        subst y185 z185
        obtain ⟨rfl, Nq185, Zq185, Kx185, Bq185⟩ := hQ185
        have N185 : Fr n0 L185 := by rw [l185]; exact Fr.app N182 Nq185
        obtain ⟨wsq185, Kq185⟩ := Kx185
        have f186 := f183.keep Kq185
        have f187 := f184.keep Kq185
        have B185 : own_N Z T185.heap n0 b172 (2 : Int32) (2 : Int32) [ka, kb] [u2, u4] [(.ref b145), .null] [u3, u5] := Bq185
        obtain ⟨cq188, kq188, q188a, q188b, q188c⟩ := isOf hZ rfl f187
        obtain ⟨_, _, ⟨T188, L188, k188, n188⟩, -, X188, ⟨Lc188, hQ188, l188, y188, z188⟩, st188⟩ := X185.virtualBack hx (y := (⟨"com/example/agouti/agouti/store/IndexBuilder$Notes", "count", "()I"⟩ : MethodName)) (z := (⟨"com/example/agouti/agouti/store/IndexBuilder$Notes", "count", "()I"⟩ : MethodName)) hown (mvT hZ (hw _ (List.mem_of_getElem? (i := 30) rfl))) (mvT hZ (hw _ (List.mem_of_getElem? (i := 31) rfl))) (notFace_of_selects (args := #[]) (mvT hZ (hw _ (List.mem_of_getElem? (i := 33) rfl)))) (mvT hZ (hw _ (List.mem_of_getElem? (i := 33) rfl))) (mvT hZ (hw _ (List.mem_of_getElem? (i := 32) rfl))) (by decide) (backOf (W := 0) (rmCount l Z a0 hw [] b172 (2 : Int32) (2 : Int32) [ka, kb] [u2, u4] [(.ref b145), .null] [u3, u5] T185.heap n0 Zq185 B185) hZ (hw _ (List.mem_of_getElem? (i := 34) rfl)) (hw _ (List.mem_of_getElem? (i := 3) rfl)) (by decide) (by decide)) q188a q188c (g := (mkF m 196 #[iv u0, iv u1, iv u2, .val (.long u3), .second, iv u4, .val (.long u5), .second, iv (2 : Int32), iv ka, iv kb, rv b145, .val .null, rv b172, iv (0 : Int32), iv (1 : Int32), iv (2 : Int32), iv (1 : Int32)] [(.ref b172)])) rfl (by rw [hml]; rfl) (Steps.refl _) (argsL := []) (rest := []) (lenOf pd_2 rfl) rfl (by show 2 * 0 + _ ≤ _; exact Nat.le_of_eq rfl) (hb hby at_196) (fun _ _ => ⟨rfl, rfl, (by decide : 6 + 0 ≤ _), (by decide : 14 + 0 ≤ _)⟩)
        dsimp only [Pt.U, Pt.locs, Pt.cells, Pt.slots] at X188 l188 y188 z188 st188 hQ188
        subst y188 z188
        obtain ⟨rfl, Nq188, eq188⟩ := hQ188
        have N188 : Fr n0 L188 := by rw [l188]; exact Fr.app N185 Nq188
        obtain ⟨cq189, kq189, q189a, q189b, q189c⟩ := isOf hZ eq188 f187
        obtain ⟨_, _, ⟨T189, L189, k189, n189⟩, -, X189, ⟨Lc189, hQ189, l189, y189, z189⟩, st189⟩ := X188.virtualBack hx (y := (⟨"com/example/agouti/agouti/store/IndexBuilder$Notes", "kind", "(I)B"⟩ : MethodName)) (z := (⟨"com/example/agouti/agouti/store/IndexBuilder$Notes", "kind", "(I)B"⟩ : MethodName)) hown (mvT hZ (hw _ (List.mem_of_getElem? (i := 35) rfl))) (mvT hZ (hw _ (List.mem_of_getElem? (i := 36) rfl))) (notFace_of_selects (args := #[]) (mvT hZ (hw _ (List.mem_of_getElem? (i := 38) rfl)))) (mvT hZ (hw _ (List.mem_of_getElem? (i := 38) rfl))) (mvT hZ (hw _ (List.mem_of_getElem? (i := 37) rfl))) (by decide) (backOf (W := 0) (rmKind l Z a0 hw [] b172 (0 : Int32) (2 : Int32) (2 : Int32) [ka, kb] [u2, u4] [(.ref b145), .null] [u3, u5] ka T185.heap n0 Zq185 B185 (by decide) (by decide) rfl (by rw [e_ka]; exact own_nb _)) hZ (hw _ (List.mem_of_getElem? (i := 39) rfl)) (hw _ (List.mem_of_getElem? (i := 3) rfl)) (by decide) (by decide)) q189a q189c (g := (mkF m 219 #[iv u0, iv u1, iv u2, .val (.long u3), .second, iv u4, .val (.long u5), .second, iv (2 : Int32), iv ka, iv kb, rv b145, .val .null, rv b172, iv (0 : Int32), iv (1 : Int32), iv (2 : Int32), iv (1 : Int32)] [(.int (0 : Int32)), (.ref b172)])) rfl (by rw [hml]; rfl) (Steps.refl _) (argsL := [(.int (0 : Int32))]) (rest := []) (lenOf pd_3 rfl) rfl (by show 2 * 0 + _ ≤ _; exact Nat.le_of_eq rfl) (hb hby at_219) (fun _ _ => ⟨rfl, eq188, (by decide : 6 + 0 ≤ _), (by decide : 14 + 0 ≤ _)⟩)
        dsimp only [Pt.U, Pt.locs, Pt.cells, Pt.slots] at X189 l189 y189 z189 st189 hQ189
        subst y189 z189
        obtain ⟨rfl, Nq189, eq189⟩ := hQ189
        have N189 : Fr n0 L189 := by rw [l189]; exact Fr.app N188 Nq189
        obtain ⟨cq190, kq190, q190a, q190b, q190c⟩ := isOf hZ eq189 f187
        obtain ⟨_, _, ⟨T190, L190, k190, n190⟩, -, X190, ⟨Lc190, hQ190, l190, y190, z190⟩, st190⟩ := X189.virtualBack hx (y := (⟨"com/example/agouti/agouti/store/IndexBuilder$Notes", "node", "(I)I"⟩ : MethodName)) (z := (⟨"com/example/agouti/agouti/store/IndexBuilder$Notes", "node", "(I)I"⟩ : MethodName)) hown (mvT hZ (hw _ (List.mem_of_getElem? (i := 40) rfl))) (mvT hZ (hw _ (List.mem_of_getElem? (i := 41) rfl))) (notFace_of_selects (args := #[]) (mvT hZ (hw _ (List.mem_of_getElem? (i := 43) rfl)))) (mvT hZ (hw _ (List.mem_of_getElem? (i := 43) rfl))) (mvT hZ (hw _ (List.mem_of_getElem? (i := 42) rfl))) (by decide) (backOf (W := 0) (rmNode l Z a0 hw [] b172 (0 : Int32) (2 : Int32) (2 : Int32) [ka, kb] [u2, u4] [(.ref b145), .null] [u3, u5] u2 T185.heap n0 Zq185 B185 (by decide) (by decide) rfl) hZ (hw _ (List.mem_of_getElem? (i := 44) rfl)) (hw _ (List.mem_of_getElem? (i := 3) rfl)) (by decide) (by decide)) q190a q190c (g := (mkF m 230 #[iv u0, iv u1, iv u2, .val (.long u3), .second, iv u4, .val (.long u5), .second, iv (2 : Int32), iv ka, iv kb, rv b145, .val .null, rv b172, iv (0 : Int32), iv (1 : Int32), iv (2 : Int32), iv (1 : Int32)] [(.int (0 : Int32)), (.ref b172)])) rfl (by rw [hml]; rfl) (Steps.refl _) (argsL := [(.int (0 : Int32))]) (rest := []) (lenOf pd_4 rfl) rfl (by show 2 * 0 + _ ≤ _; exact Nat.le_of_eq rfl) (hb hby at_230) (fun _ _ => ⟨rfl, eq189, (by decide : 6 + 0 ≤ _), (by decide : 14 + 0 ≤ _)⟩)
        dsimp only [Pt.U, Pt.locs, Pt.cells, Pt.slots] at X190 l190 y190 z190 st190 hQ190
        subst y190 z190
        obtain ⟨rfl, Nq190, eq190⟩ := hQ190
        have N190 : Fr n0 L190 := by rw [l190]; exact Fr.app N189 Nq190
        obtain ⟨cq191, kq191, q191a, q191b, q191c⟩ := isOf hZ eq190 f187
        obtain ⟨_, _, ⟨T191, L191, k191, n191⟩, -, X191, ⟨Lc191, hQ191, l191, y191, z191⟩, st191⟩ := X190.virtualBack hx (y := (⟨"com/example/agouti/agouti/store/IndexBuilder$Notes", "value", "(I)[B"⟩ : MethodName)) (z := (⟨"com/example/agouti/agouti/store/IndexBuilder$Notes", "value", "(I)[B"⟩ : MethodName)) hown (mvT hZ (hw _ (List.mem_of_getElem? (i := 45) rfl))) (mvT hZ (hw _ (List.mem_of_getElem? (i := 46) rfl))) (notFace_of_selects (args := #[]) (mvT hZ (hw _ (List.mem_of_getElem? (i := 48) rfl)))) (mvT hZ (hw _ (List.mem_of_getElem? (i := 48) rfl))) (mvT hZ (hw _ (List.mem_of_getElem? (i := 47) rfl))) (by decide) (backOf (W := 0) (rmVal1 l Z a0 hw [] b172 (0 : Int32) (2 : Int32) (2 : Int32) [ka, kb] [u2, u4] [(.ref b145), .null] [u3, u5] b145 T185.heap n0 Zq185 B185 (by decide) (by decide) rfl) hZ (hw _ (List.mem_of_getElem? (i := 49) rfl)) (hw _ (List.mem_of_getElem? (i := 3) rfl)) (by decide) (by decide)) q191a q191c (g := (mkF m 240 #[iv u0, iv u1, iv u2, .val (.long u3), .second, iv u4, .val (.long u5), .second, iv (2 : Int32), iv ka, iv kb, rv b145, .val .null, rv b172, iv (0 : Int32), iv (1 : Int32), iv (2 : Int32), iv (1 : Int32)] [(.int (0 : Int32)), (.ref b172)])) rfl (by rw [hml]; rfl) (Steps.refl _) (argsL := [(.int (0 : Int32))]) (rest := []) (lenOf pd_5 rfl) rfl (by show 2 * 0 + _ ≤ _; exact Nat.le_of_eq rfl) (hb hby at_240) (fun _ _ => ⟨rfl, eq190, (by decide : 6 + 0 ≤ _), (by decide : 14 + 0 ≤ _)⟩)
        dsimp only [Pt.U, Pt.locs, Pt.cells, Pt.slots] at X191 l191 y191 z191 st191 hQ191
        subst y191 z191
        obtain ⟨rfl, Nq191, eq191⟩ := hQ191
        have N191 : Fr n0 L191 := by rw [l191]; exact Fr.app N190 Nq191
        obtain ⟨cq192, kq192, q192a, q192b, q192c⟩ := isOf hZ eq191 f187
        obtain ⟨_, _, ⟨T192, L192, k192, n192⟩, -, X192, ⟨Lc192, hQ192, l192, y192, z192⟩, st192⟩ := X191.virtualBack hx (y := (⟨"com/example/agouti/agouti/store/IndexBuilder$Notes", "hash", "(I)J"⟩ : MethodName)) (z := (⟨"com/example/agouti/agouti/store/IndexBuilder$Notes", "hash", "(I)J"⟩ : MethodName)) hown (mvT hZ (hw _ (List.mem_of_getElem? (i := 50) rfl))) (mvT hZ (hw _ (List.mem_of_getElem? (i := 51) rfl))) (notFace_of_selects (args := #[]) (mvT hZ (hw _ (List.mem_of_getElem? (i := 53) rfl)))) (mvT hZ (hw _ (List.mem_of_getElem? (i := 53) rfl))) (mvT hZ (hw _ (List.mem_of_getElem? (i := 52) rfl))) (by decide) (backOf (W := 0) (rmHash l Z a0 hw [] b172 (0 : Int32) (2 : Int32) (2 : Int32) [ka, kb] [u2, u4] [(.ref b145), .null] [u3, u5] u3 T185.heap n0 Zq185 B185 (by decide) (by decide) rfl) hZ (hw _ (List.mem_of_getElem? (i := 54) rfl)) (hw _ (List.mem_of_getElem? (i := 3) rfl)) (by decide) (by decide)) q192a q192c (g := (mkF m 251 #[iv u0, iv u1, iv u2, .val (.long u3), .second, iv u4, .val (.long u5), .second, iv (2 : Int32), iv ka, iv kb, rv b145, .val .null, rv b172, iv (0 : Int32), iv (1 : Int32), iv (2 : Int32), iv (1 : Int32)] [(.int (0 : Int32)), (.ref b172)])) rfl (by rw [hml]; rfl) (Steps.refl _) (argsL := [(.int (0 : Int32))]) (rest := []) (lenOf pd_6 rfl) rfl (by show 2 * 0 + _ ≤ _; exact Nat.le_of_eq rfl) (hb hby at_251) (fun _ _ => ⟨rfl, eq191, (by decide : 6 + 0 ≤ _), (by decide : 14 + 0 ≤ _)⟩)
        dsimp only [Pt.U, Pt.locs, Pt.cells, Pt.slots] at X192 l192 y192 z192 st192 hQ192
        subst y192 z192
        obtain ⟨rfl, Nq192, eq192⟩ := hQ192
        have N192 : Fr n0 L192 := by rw [l192]; exact Fr.app N191 Nq192
        obtain ⟨cq193, kq193, q193a, q193b, q193c⟩ := isOf hZ eq192 f187
        obtain ⟨_, _, ⟨T193, L193, k193, n193⟩, -, X193, ⟨Lc193, hQ193, l193, y193, z193⟩, st193⟩ := X192.virtualBack hx (y := (⟨"com/example/agouti/agouti/store/IndexBuilder$Notes", "kind", "(I)B"⟩ : MethodName)) (z := (⟨"com/example/agouti/agouti/store/IndexBuilder$Notes", "kind", "(I)B"⟩ : MethodName)) hown (mvT hZ (hw _ (List.mem_of_getElem? (i := 35) rfl))) (mvT hZ (hw _ (List.mem_of_getElem? (i := 36) rfl))) (notFace_of_selects (args := #[]) (mvT hZ (hw _ (List.mem_of_getElem? (i := 38) rfl)))) (mvT hZ (hw _ (List.mem_of_getElem? (i := 38) rfl))) (mvT hZ (hw _ (List.mem_of_getElem? (i := 37) rfl))) (by decide) (backOf (W := 0) (rmKind l Z a0 hw [] b172 (1 : Int32) (2 : Int32) (2 : Int32) [ka, kb] [u2, u4] [(.ref b145), .null] [u3, u5] kb T185.heap n0 Zq185 B185 (by decide) (by decide) rfl (by rw [e_kb]; exact own_nb _)) hZ (hw _ (List.mem_of_getElem? (i := 39) rfl)) (hw _ (List.mem_of_getElem? (i := 3) rfl)) (by decide) (by decide)) q193a q193c (g := (mkF m 280 #[iv u0, iv u1, iv u2, .val (.long u3), .second, iv u4, .val (.long u5), .second, iv (2 : Int32), iv ka, iv kb, rv b145, .val .null, rv b172, iv (0 : Int32), iv (1 : Int32), iv (2 : Int32), iv (1 : Int32)] [(.int (1 : Int32)), (.ref b172)])) rfl (by rw [hml]; rfl) (Steps.refl _) (argsL := [(.int (1 : Int32))]) (rest := []) (lenOf pd_3 rfl) rfl (by show 2 * 0 + _ ≤ _; exact Nat.le_of_eq rfl) (hb hby at_280) (fun _ _ => ⟨rfl, eq192, (by decide : 6 + 0 ≤ _), (by decide : 14 + 0 ≤ _)⟩)
        dsimp only [Pt.U, Pt.locs, Pt.cells, Pt.slots] at X193 l193 y193 z193 st193 hQ193
        subst y193 z193
        obtain ⟨rfl, Nq193, eq193⟩ := hQ193
        have N193 : Fr n0 L193 := by rw [l193]; exact Fr.app N192 Nq193
        obtain ⟨cq194, kq194, q194a, q194b, q194c⟩ := isOf hZ eq193 f187
        obtain ⟨_, _, ⟨T194, L194, k194, n194⟩, -, X194, ⟨Lc194, hQ194, l194, y194, z194⟩, st194⟩ := X193.virtualBack hx (y := (⟨"com/example/agouti/agouti/store/IndexBuilder$Notes", "node", "(I)I"⟩ : MethodName)) (z := (⟨"com/example/agouti/agouti/store/IndexBuilder$Notes", "node", "(I)I"⟩ : MethodName)) hown (mvT hZ (hw _ (List.mem_of_getElem? (i := 40) rfl))) (mvT hZ (hw _ (List.mem_of_getElem? (i := 41) rfl))) (notFace_of_selects (args := #[]) (mvT hZ (hw _ (List.mem_of_getElem? (i := 43) rfl)))) (mvT hZ (hw _ (List.mem_of_getElem? (i := 43) rfl))) (mvT hZ (hw _ (List.mem_of_getElem? (i := 42) rfl))) (by decide) (backOf (W := 0) (rmNode l Z a0 hw [] b172 (1 : Int32) (2 : Int32) (2 : Int32) [ka, kb] [u2, u4] [(.ref b145), .null] [u3, u5] u4 T185.heap n0 Zq185 B185 (by decide) (by decide) rfl) hZ (hw _ (List.mem_of_getElem? (i := 44) rfl)) (hw _ (List.mem_of_getElem? (i := 3) rfl)) (by decide) (by decide)) q194a q194c (g := (mkF m 291 #[iv u0, iv u1, iv u2, .val (.long u3), .second, iv u4, .val (.long u5), .second, iv (2 : Int32), iv ka, iv kb, rv b145, .val .null, rv b172, iv (0 : Int32), iv (1 : Int32), iv (2 : Int32), iv (1 : Int32)] [(.int (1 : Int32)), (.ref b172)])) rfl (by rw [hml]; rfl) (Steps.refl _) (argsL := [(.int (1 : Int32))]) (rest := []) (lenOf pd_4 rfl) rfl (by show 2 * 0 + _ ≤ _; exact Nat.le_of_eq rfl) (hb hby at_291) (fun _ _ => ⟨rfl, eq193, (by decide : 6 + 0 ≤ _), (by decide : 14 + 0 ≤ _)⟩)
        dsimp only [Pt.U, Pt.locs, Pt.cells, Pt.slots] at X194 l194 y194 z194 st194 hQ194
        subst y194 z194
        obtain ⟨rfl, Nq194, eq194⟩ := hQ194
        have N194 : Fr n0 L194 := by rw [l194]; exact Fr.app N193 Nq194
        obtain ⟨cq195, kq195, q195a, q195b, q195c⟩ := isOf hZ eq194 f187
        obtain ⟨_, _, ⟨T195, L195, k195, n195⟩, -, X195, ⟨Lc195, hQ195, l195, y195, z195⟩, st195⟩ := X194.virtualBack hx (y := (⟨"com/example/agouti/agouti/store/IndexBuilder$Notes", "value", "(I)[B"⟩ : MethodName)) (z := (⟨"com/example/agouti/agouti/store/IndexBuilder$Notes", "value", "(I)[B"⟩ : MethodName)) hown (mvT hZ (hw _ (List.mem_of_getElem? (i := 45) rfl))) (mvT hZ (hw _ (List.mem_of_getElem? (i := 46) rfl))) (notFace_of_selects (args := #[]) (mvT hZ (hw _ (List.mem_of_getElem? (i := 48) rfl)))) (mvT hZ (hw _ (List.mem_of_getElem? (i := 48) rfl))) (mvT hZ (hw _ (List.mem_of_getElem? (i := 47) rfl))) (by decide) (backOf (W := 0) (rmVal0 l Z a0 hw [] b172 (1 : Int32) (2 : Int32) (2 : Int32) [ka, kb] [u2, u4] [(.ref b145), .null] [u3, u5] T185.heap n0 Zq185 B185 (by decide) (by decide) rfl) hZ (hw _ (List.mem_of_getElem? (i := 49) rfl)) (hw _ (List.mem_of_getElem? (i := 3) rfl)) (by decide) (by decide)) q195a q195c (g := (mkF m 302 #[iv u0, iv u1, iv u2, .val (.long u3), .second, iv u4, .val (.long u5), .second, iv (2 : Int32), iv ka, iv kb, rv b145, .val .null, rv b172, iv (0 : Int32), iv (1 : Int32), iv (2 : Int32), iv (1 : Int32)] [(.int (1 : Int32)), (.ref b172)])) rfl (by rw [hml]; rfl) (Steps.refl _) (argsL := [(.int (1 : Int32))]) (rest := []) (lenOf pd_5 rfl) rfl (by show 2 * 0 + _ ≤ _; exact Nat.le_of_eq rfl) (hb hby at_302) (fun _ _ => ⟨rfl, eq194, (by decide : 6 + 0 ≤ _), (by decide : 14 + 0 ≤ _)⟩)
        dsimp only [Pt.U, Pt.locs, Pt.cells, Pt.slots] at X195 l195 y195 z195 st195 hQ195
        subst y195 z195
        obtain ⟨rfl, Nq195, eq195⟩ := hQ195
        have N195 : Fr n0 L195 := by rw [l195]; exact Fr.app N194 Nq195
        obtain ⟨cq196, kq196, q196a, q196b, q196c⟩ := isOf hZ eq195 f187
        obtain ⟨_, _, ⟨T196, L196, k196, n196⟩, -, X196, ⟨Lc196, hQ196, l196, y196, z196⟩, st196⟩ := X195.virtualBack hx (y := (⟨"com/example/agouti/agouti/store/IndexBuilder$Notes", "hash", "(I)J"⟩ : MethodName)) (z := (⟨"com/example/agouti/agouti/store/IndexBuilder$Notes", "hash", "(I)J"⟩ : MethodName)) hown (mvT hZ (hw _ (List.mem_of_getElem? (i := 50) rfl))) (mvT hZ (hw _ (List.mem_of_getElem? (i := 51) rfl))) (notFace_of_selects (args := #[]) (mvT hZ (hw _ (List.mem_of_getElem? (i := 53) rfl)))) (mvT hZ (hw _ (List.mem_of_getElem? (i := 53) rfl))) (mvT hZ (hw _ (List.mem_of_getElem? (i := 52) rfl))) (by decide) (backOf (W := 0) (rmHash l Z a0 hw [] b172 (1 : Int32) (2 : Int32) (2 : Int32) [ka, kb] [u2, u4] [(.ref b145), .null] [u3, u5] u5 T185.heap n0 Zq185 B185 (by decide) (by decide) rfl) hZ (hw _ (List.mem_of_getElem? (i := 54) rfl)) (hw _ (List.mem_of_getElem? (i := 3) rfl)) (by decide) (by decide)) q196a q196c (g := (mkF m 313 #[iv u0, iv u1, iv u2, .val (.long u3), .second, iv u4, .val (.long u5), .second, iv (2 : Int32), iv ka, iv kb, rv b145, .val .null, rv b172, iv (0 : Int32), iv (1 : Int32), iv (2 : Int32), iv (1 : Int32)] [(.int (1 : Int32)), (.ref b172)])) rfl (by rw [hml]; rfl) (Steps.refl _) (argsL := [(.int (1 : Int32))]) (rest := []) (lenOf pd_6 rfl) rfl (by show 2 * 0 + _ ≤ _; exact Nat.le_of_eq rfl) (hb hby at_313) (fun _ _ => ⟨rfl, eq195, (by decide : 6 + 0 ≤ _), (by decide : 14 + 0 ≤ _)⟩)
        dsimp only [Pt.U, Pt.locs, Pt.cells, Pt.slots] at X196 l196 y196 z196 st196 hQ196
        subst y196 z196
        obtain ⟨rfl, Nq196, eq196⟩ := hQ196
        have N196 : Fr n0 L196 := by rw [l196]; exact Fr.app N195 Nq196
        obtain ⟨fs, hr, hrun, hended, hW, hsame⟩ := X196.leave (v := some (.int (1 : Int32))) (fun h => by rw [Bd.returns] at h; cases h)
        refine ⟨_, _, S153 _ ?_, hrun, hended, _, _, rfl, ?_, ⟨_, rfl⟩, hW, hsame.mono (by decide) (by decide)⟩
        · skip
          show Steps p.tables e below (T147.setTop (mkF m 87 #[iv u0, iv u1, iv u2, .val (.long u3), .second, iv u4, .val (.long u5), .second, iv (2 : Int32), iv ka, iv kb, rv b145, .val .null, .unset, .unset, .unset, .unset, .unset] [])) _
          refine st172 _ ?_
          show Steps p.tables e below (T172.setTop (mkF m 90 #[iv u0, iv u1, iv u2, .val (.long u3), .second, iv u4, .val (.long u5), .second, iv (2 : Int32), iv ka, iv kb, rv b145, .val .null, .unset, .unset, .unset, .unset, .unset] [(.ref b172)])) _
          refine XS.dup X172.here hx rfl (hb hby at_90) rfl rfl ?_
          show Steps p.tables e below (T172.setTop (mkF m 91 #[iv u0, iv u1, iv u2, .val (.long u3), .second, iv u4, .val (.long u5), .second, iv (2 : Int32), iv ka, iv kb, rv b145, .val .null, .unset, .unset, .unset, .unset, .unset] [(.ref b172), (.ref b172)])) _
          refine XS.iload X172.here hx rfl (hb hby at_91) rfl ?_
          show Steps p.tables e below (T172.setTop (mkF m 93 #[iv u0, iv u1, iv u2, .val (.long u3), .second, iv u4, .val (.long u5), .second, iv (2 : Int32), iv ka, iv kb, rv b145, .val .null, .unset, .unset, .unset, .unset, .unset] [(.int (2 : Int32)), (.ref b172), (.ref b172)])) _
          refine st174.trans ?_
          show Steps p.tables e below (T174.setTop (mkF m 96 #[iv u0, iv u1, iv u2, .val (.long u3), .second, iv u4, .val (.long u5), .second, iv (2 : Int32), iv ka, iv kb, rv b145, .val .null, .unset, .unset, .unset, .unset, .unset] [(.ref b172)])) _
          refine XS.astore X174.here hx rfl (hb hby at_96) rfl rfl (l' := #[iv u0, iv u1, iv u2, .val (.long u3), .second, iv u4, .val (.long u5), .second, iv (2 : Int32), iv ka, iv kb, rv b145, .val .null, rv b172, .unset, .unset, .unset, .unset]) rfl ?_
          show Steps p.tables e below (T174.setTop (mkF m 98 #[iv u0, iv u1, iv u2, .val (.long u3), .second, iv u4, .val (.long u5), .second, iv (2 : Int32), iv ka, iv kb, rv b145, .val .null, rv b172, .unset, .unset, .unset, .unset] [])) _
          refine XS.aload X174.here hx rfl (hb hby at_98) rfl rfl ?_
          show Steps p.tables e below (T174.setTop (mkF m 100 #[iv u0, iv u1, iv u2, .val (.long u3), .second, iv u4, .val (.long u5), .second, iv (2 : Int32), iv ka, iv kb, rv b145, .val .null, rv b172, .unset, .unset, .unset, .unset] [(.ref b172)])) _
          refine XS.iload X174.here hx rfl (hb hby at_100) rfl ?_
          show Steps p.tables e below (T174.setTop (mkF m 102 #[iv u0, iv u1, iv u2, .val (.long u3), .second, iv u4, .val (.long u5), .second, iv (2 : Int32), iv ka, iv kb, rv b145, .val .null, rv b172, .unset, .unset, .unset, .unset] [(.int ka), (.ref b172)])) _
          refine XS.iloadN X174.here hx rfl (hb hby at_102) rfl ?_
          show Steps p.tables e below (T174.setTop (mkF m 103 #[iv u0, iv u1, iv u2, .val (.long u3), .second, iv u4, .val (.long u5), .second, iv (2 : Int32), iv ka, iv kb, rv b145, .val .null, rv b172, .unset, .unset, .unset, .unset] [(.int u2), (.int ka), (.ref b172)])) _
          refine XS.aload X174.here hx rfl (hb hby at_103) rfl rfl ?_
          show Steps p.tables e below (T174.setTop (mkF m 105 #[iv u0, iv u1, iv u2, .val (.long u3), .second, iv u4, .val (.long u5), .second, iv (2 : Int32), iv ka, iv kb, rv b145, .val .null, rv b172, .unset, .unset, .unset, .unset] [(.ref b145), (.int u2), (.int ka), (.ref b172)])) _
          refine XS.lloadN X174.here hx rfl (hb hby at_105) rfl ?_
          show Steps p.tables e below (T174.setTop (mkF m 106 #[iv u0, iv u1, iv u2, .val (.long u3), .second, iv u4, .val (.long u5), .second, iv (2 : Int32), iv ka, iv kb, rv b145, .val .null, rv b172, .unset, .unset, .unset, .unset] [(.long u3), (.ref b145), (.int u2), (.int ka), (.ref b172)])) _
          refine st182.trans ?_
          show Steps p.tables e below (T182.setTop (mkF m 109 #[iv u0, iv u1, iv u2, .val (.long u3), .second, iv u4, .val (.long u5), .second, iv (2 : Int32), iv ka, iv kb, rv b145, .val .null, rv b172, .unset, .unset, .unset, .unset] [(.int (0 : Int32))])) _
          refine XS.istore X182.here hx rfl (hb hby at_109) rfl (l' := #[iv u0, iv u1, iv u2, .val (.long u3), .second, iv u4, .val (.long u5), .second, iv (2 : Int32), iv ka, iv kb, rv b145, .val .null, rv b172, iv (0 : Int32), .unset, .unset, .unset]) rfl ?_
          show Steps p.tables e below (T182.setTop (mkF m 111 #[iv u0, iv u1, iv u2, .val (.long u3), .second, iv u4, .val (.long u5), .second, iv (2 : Int32), iv ka, iv kb, rv b145, .val .null, rv b172, iv (0 : Int32), .unset, .unset, .unset] [])) _
          refine XS.iload X182.here hx rfl (hb hby at_111) rfl ?_
          show Steps p.tables e below (T182.setTop (mkF m 113 #[iv u0, iv u1, iv u2, .val (.long u3), .second, iv u4, .val (.long u5), .second, iv (2 : Int32), iv ka, iv kb, rv b145, .val .null, rv b172, iv (0 : Int32), .unset, .unset, .unset] [(.int (0 : Int32))])) _
          refine XS.iload X182.here hx rfl (hb hby at_113) rfl ?_
          show Steps p.tables e below (T182.setTop (mkF m 115 #[iv u0, iv u1, iv u2, .val (.long u3), .second, iv u4, .val (.long u5), .second, iv (2 : Int32), iv ka, iv kb, rv b145, .val .null, rv b172, iv (0 : Int32), .unset, .unset, .unset] [(.int (2 : Int32)), (.int (0 : Int32))])) _
          refine XS.iconst X182.here hx rfl (hb hby at_115) ?_
          show Steps p.tables e below (T182.setTop (mkF m 116 #[iv u0, iv u1, iv u2, .val (.long u3), .second, iv u4, .val (.long u5), .second, iv (2 : Int32), iv ka, iv kb, rv b145, .val .null, rv b172, iv (0 : Int32), .unset, .unset, .unset] [(.int (1 : Int32)), (.int (2 : Int32)), (.int (0 : Int32))])) _
          refine XS.icmpYes X182.here hx rfl (pc0 := 116) (pc' := 123) rfl (hb hby at_116) rfl (feq (by decide : ¬ ((2 : Int32) = (1 : Int32)))).2 (by decide) (by decide) ?_
          show Steps p.tables e below (T182.setTop (mkF m 123 #[iv u0, iv u1, iv u2, .val (.long u3), .second, iv u4, .val (.long u5), .second, iv (2 : Int32), iv ka, iv kb, rv b145, .val .null, rv b172, iv (0 : Int32), .unset, .unset, .unset] [(.int (0 : Int32))])) _
          refine XS.iconst X182.here hx rfl (hb hby at_123) ?_
          show Steps p.tables e below (T182.setTop (mkF m 124 #[iv u0, iv u1, iv u2, .val (.long u3), .second, iv u4, .val (.long u5), .second, iv (2 : Int32), iv ka, iv kb, rv b145, .val .null, rv b172, iv (0 : Int32), .unset, .unset, .unset] [(.int (0 : Int32)), (.int (0 : Int32))])) _
          refine XS.icmpNo X182.here hx rfl (hb hby at_124) rfl (teq (by decide : (0 : Int32) = (0 : Int32))).2 ?_
          show Steps p.tables e below (T182.setTop (mkF m 127 #[iv u0, iv u1, iv u2, .val (.long u3), .second, iv u4, .val (.long u5), .second, iv (2 : Int32), iv ka, iv kb, rv b145, .val .null, rv b172, iv (0 : Int32), .unset, .unset, .unset] [])) _
          refine XS.iconst X182.here hx rfl (hb hby at_127) ?_
          show Steps p.tables e below (T182.setTop (mkF m 128 #[iv u0, iv u1, iv u2, .val (.long u3), .second, iv u4, .val (.long u5), .second, iv (2 : Int32), iv ka, iv kb, rv b145, .val .null, rv b172, iv (0 : Int32), .unset, .unset, .unset] [(.int (1 : Int32))])) _
          refine XS.goto X182.here hx rfl (pc0 := 128) (pc' := 132) rfl (hb hby at_128) (by decide) (by decide) ?_
          show Steps p.tables e below (T182.setTop (mkF m 132 #[iv u0, iv u1, iv u2, .val (.long u3), .second, iv u4, .val (.long u5), .second, iv (2 : Int32), iv ka, iv kb, rv b145, .val .null, rv b172, iv (0 : Int32), .unset, .unset, .unset] [(.int (1 : Int32))])) _
          refine XS.istore X182.here hx rfl (hb hby at_132) rfl (l' := #[iv u0, iv u1, iv u2, .val (.long u3), .second, iv u4, .val (.long u5), .second, iv (2 : Int32), iv ka, iv kb, rv b145, .val .null, rv b172, iv (0 : Int32), iv (1 : Int32), .unset, .unset]) rfl ?_
          show Steps p.tables e below (T182.setTop (mkF m 134 #[iv u0, iv u1, iv u2, .val (.long u3), .second, iv u4, .val (.long u5), .second, iv (2 : Int32), iv ka, iv kb, rv b145, .val .null, rv b172, iv (0 : Int32), iv (1 : Int32), .unset, .unset] [])) _
          refine XS.iconst X182.here hx rfl (hb hby at_134) ?_
          show Steps p.tables e below (T182.setTop (mkF m 135 #[iv u0, iv u1, iv u2, .val (.long u3), .second, iv u4, .val (.long u5), .second, iv (2 : Int32), iv ka, iv kb, rv b145, .val .null, rv b172, iv (0 : Int32), iv (1 : Int32), .unset, .unset] [(.int (1 : Int32))])) _
          refine XS.istore X182.here hx rfl (hb hby at_135) rfl (l' := #[iv u0, iv u1, iv u2, .val (.long u3), .second, iv u4, .val (.long u5), .second, iv (2 : Int32), iv ka, iv kb, rv b145, .val .null, rv b172, iv (0 : Int32), iv (1 : Int32), iv (1 : Int32), .unset]) rfl ?_
          show Steps p.tables e below (T182.setTop (mkF m 137 #[iv u0, iv u1, iv u2, .val (.long u3), .second, iv u4, .val (.long u5), .second, iv (2 : Int32), iv ka, iv kb, rv b145, .val .null, rv b172, iv (0 : Int32), iv (1 : Int32), iv (1 : Int32), .unset] [])) _
          refine XS.iload X182.here hx rfl (hb hby at_137) rfl ?_
          show Steps p.tables e below (T182.setTop (mkF m 139 #[iv u0, iv u1, iv u2, .val (.long u3), .second, iv u4, .val (.long u5), .second, iv (2 : Int32), iv ka, iv kb, rv b145, .val .null, rv b172, iv (0 : Int32), iv (1 : Int32), iv (1 : Int32), .unset] [(.int (2 : Int32))])) _
          refine XS.iconst X182.here hx rfl (hb hby at_139) ?_
          show Steps p.tables e below (T182.setTop (mkF m 140 #[iv u0, iv u1, iv u2, .val (.long u3), .second, iv u4, .val (.long u5), .second, iv (2 : Int32), iv ka, iv kb, rv b145, .val .null, rv b172, iv (0 : Int32), iv (1 : Int32), iv (1 : Int32), .unset] [(.int (2 : Int32)), (.int (2 : Int32))])) _
          refine XS.icmpNo X182.here hx rfl (hb hby at_140) rfl (flt (by decide : ¬ ((2 : Int32) < (2 : Int32)))).1 ?_
          show Steps p.tables e below (T182.setTop (mkF m 143 #[iv u0, iv u1, iv u2, .val (.long u3), .second, iv u4, .val (.long u5), .second, iv (2 : Int32), iv ka, iv kb, rv b145, .val .null, rv b172, iv (0 : Int32), iv (1 : Int32), iv (1 : Int32), .unset] [])) _
          refine XS.aload X182.here hx rfl (hb hby at_143) rfl rfl ?_
          show Steps p.tables e below (T182.setTop (mkF m 145 #[iv u0, iv u1, iv u2, .val (.long u3), .second, iv u4, .val (.long u5), .second, iv (2 : Int32), iv ka, iv kb, rv b145, .val .null, rv b172, iv (0 : Int32), iv (1 : Int32), iv (1 : Int32), .unset] [(.ref b172)])) _
          refine XS.iload X182.here hx rfl (hb hby at_145) rfl ?_
          show Steps p.tables e below (T182.setTop (mkF m 147 #[iv u0, iv u1, iv u2, .val (.long u3), .second, iv u4, .val (.long u5), .second, iv (2 : Int32), iv ka, iv kb, rv b145, .val .null, rv b172, iv (0 : Int32), iv (1 : Int32), iv (1 : Int32), .unset] [(.int kb), (.ref b172)])) _
          refine XS.iload X182.here hx rfl (hb hby at_147) rfl ?_
          show Steps p.tables e below (T182.setTop (mkF m 149 #[iv u0, iv u1, iv u2, .val (.long u3), .second, iv u4, .val (.long u5), .second, iv (2 : Int32), iv ka, iv kb, rv b145, .val .null, rv b172, iv (0 : Int32), iv (1 : Int32), iv (1 : Int32), .unset] [(.int u4), (.int kb), (.ref b172)])) _
          refine XS.aload X182.here hx rfl (hb hby at_149) rfl rfl ?_
          show Steps p.tables e below (T182.setTop (mkF m 151 #[iv u0, iv u1, iv u2, .val (.long u3), .second, iv u4, .val (.long u5), .second, iv (2 : Int32), iv ka, iv kb, rv b145, .val .null, rv b172, iv (0 : Int32), iv (1 : Int32), iv (1 : Int32), .unset] [.null, (.int u4), (.int kb), (.ref b172)])) _
          refine XS.lload X182.here hx rfl (hb hby at_151) rfl ?_
          show Steps p.tables e below (T182.setTop (mkF m 153 #[iv u0, iv u1, iv u2, .val (.long u3), .second, iv u4, .val (.long u5), .second, iv (2 : Int32), iv ka, iv kb, rv b145, .val .null, rv b172, iv (0 : Int32), iv (1 : Int32), iv (1 : Int32), .unset] [(.long u5), .null, (.int u4), (.int kb), (.ref b172)])) _
          refine st185.trans ?_
          show Steps p.tables e below (T185.setTop (mkF m 156 #[iv u0, iv u1, iv u2, .val (.long u3), .second, iv u4, .val (.long u5), .second, iv (2 : Int32), iv ka, iv kb, rv b145, .val .null, rv b172, iv (0 : Int32), iv (1 : Int32), iv (1 : Int32), .unset] [(.int (1 : Int32))])) _
          refine XS.istore X185.here hx rfl (hb hby at_156) rfl (l' := #[iv u0, iv u1, iv u2, .val (.long u3), .second, iv u4, .val (.long u5), .second, iv (2 : Int32), iv ka, iv kb, rv b145, .val .null, rv b172, iv (0 : Int32), iv (1 : Int32), iv (1 : Int32), iv (1 : Int32)]) rfl ?_
          show Steps p.tables e below (T185.setTop (mkF m 158 #[iv u0, iv u1, iv u2, .val (.long u3), .second, iv u4, .val (.long u5), .second, iv (2 : Int32), iv ka, iv kb, rv b145, .val .null, rv b172, iv (0 : Int32), iv (1 : Int32), iv (1 : Int32), iv (1 : Int32)] [])) _
          refine XS.iload X185.here hx rfl (hb hby at_158) rfl ?_
          show Steps p.tables e below (T185.setTop (mkF m 160 #[iv u0, iv u1, iv u2, .val (.long u3), .second, iv u4, .val (.long u5), .second, iv (2 : Int32), iv ka, iv kb, rv b145, .val .null, rv b172, iv (0 : Int32), iv (1 : Int32), iv (1 : Int32), iv (1 : Int32)] [(.int (1 : Int32))])) _
          refine XS.ifNo X185.here hx rfl (hb hby at_160) rfl ((if0 _ _).trans (feq (by decide : ¬ ((1 : Int32) = (0 : Int32)))).1) ?_
          show Steps p.tables e below (T185.setTop (mkF m 163 #[iv u0, iv u1, iv u2, .val (.long u3), .second, iv u4, .val (.long u5), .second, iv (2 : Int32), iv ka, iv kb, rv b145, .val .null, rv b172, iv (0 : Int32), iv (1 : Int32), iv (1 : Int32), iv (1 : Int32)] [])) _
          refine XS.iload X185.here hx rfl (hb hby at_163) rfl ?_
          show Steps p.tables e below (T185.setTop (mkF m 165 #[iv u0, iv u1, iv u2, .val (.long u3), .second, iv u4, .val (.long u5), .second, iv (2 : Int32), iv ka, iv kb, rv b145, .val .null, rv b172, iv (0 : Int32), iv (1 : Int32), iv (1 : Int32), iv (1 : Int32)] [(.int (1 : Int32))])) _
          refine XS.iload X185.here hx rfl (hb hby at_165) rfl ?_
          show Steps p.tables e below (T185.setTop (mkF m 167 #[iv u0, iv u1, iv u2, .val (.long u3), .second, iv u4, .val (.long u5), .second, iv (2 : Int32), iv ka, iv kb, rv b145, .val .null, rv b172, iv (0 : Int32), iv (1 : Int32), iv (1 : Int32), iv (1 : Int32)] [(.int (2 : Int32)), (.int (1 : Int32))])) _
          refine XS.iconst X185.here hx rfl (hb hby at_167) ?_
          show Steps p.tables e below (T185.setTop (mkF m 168 #[iv u0, iv u1, iv u2, .val (.long u3), .second, iv u4, .val (.long u5), .second, iv (2 : Int32), iv ka, iv kb, rv b145, .val .null, rv b172, iv (0 : Int32), iv (1 : Int32), iv (1 : Int32), iv (1 : Int32)] [(.int (2 : Int32)), (.int (2 : Int32)), (.int (1 : Int32))])) _
          refine XS.icmpNo X185.here hx rfl (hb hby at_168) rfl (teq (by decide : (2 : Int32) = (2 : Int32))).2 ?_
          show Steps p.tables e below (T185.setTop (mkF m 171 #[iv u0, iv u1, iv u2, .val (.long u3), .second, iv u4, .val (.long u5), .second, iv (2 : Int32), iv ka, iv kb, rv b145, .val .null, rv b172, iv (0 : Int32), iv (1 : Int32), iv (1 : Int32), iv (1 : Int32)] [(.int (1 : Int32))])) _
          refine XS.iconst X185.here hx rfl (hb hby at_171) ?_
          show Steps p.tables e below (T185.setTop (mkF m 172 #[iv u0, iv u1, iv u2, .val (.long u3), .second, iv u4, .val (.long u5), .second, iv (2 : Int32), iv ka, iv kb, rv b145, .val .null, rv b172, iv (0 : Int32), iv (1 : Int32), iv (1 : Int32), iv (1 : Int32)] [(.int (1 : Int32)), (.int (1 : Int32))])) _
          refine XS.goto X185.here hx rfl (pc0 := 172) (pc' := 176) rfl (hb hby at_172) (by decide) (by decide) ?_
          show Steps p.tables e below (T185.setTop (mkF m 176 #[iv u0, iv u1, iv u2, .val (.long u3), .second, iv u4, .val (.long u5), .second, iv (2 : Int32), iv ka, iv kb, rv b145, .val .null, rv b172, iv (0 : Int32), iv (1 : Int32), iv (1 : Int32), iv (1 : Int32)] [(.int (1 : Int32)), (.int (1 : Int32))])) _
          refine XS.icmpNo X185.here hx rfl (hb hby at_176) rfl (teq (by decide : (1 : Int32) = (1 : Int32))).2 ?_
          show Steps p.tables e below (T185.setTop (mkF m 179 #[iv u0, iv u1, iv u2, .val (.long u3), .second, iv u4, .val (.long u5), .second, iv (2 : Int32), iv ka, iv kb, rv b145, .val .null, rv b172, iv (0 : Int32), iv (1 : Int32), iv (1 : Int32), iv (1 : Int32)] [])) _
          refine XS.iconst X185.here hx rfl (hb hby at_179) ?_
          show Steps p.tables e below (T185.setTop (mkF m 180 #[iv u0, iv u1, iv u2, .val (.long u3), .second, iv u4, .val (.long u5), .second, iv (2 : Int32), iv ka, iv kb, rv b145, .val .null, rv b172, iv (0 : Int32), iv (1 : Int32), iv (1 : Int32), iv (1 : Int32)] [(.int (1 : Int32))])) _
          refine XS.goto X185.here hx rfl (pc0 := 180) (pc' := 184) rfl (hb hby at_180) (by decide) (by decide) ?_
          show Steps p.tables e below (T185.setTop (mkF m 184 #[iv u0, iv u1, iv u2, .val (.long u3), .second, iv u4, .val (.long u5), .second, iv (2 : Int32), iv ka, iv kb, rv b145, .val .null, rv b172, iv (0 : Int32), iv (1 : Int32), iv (1 : Int32), iv (1 : Int32)] [(.int (1 : Int32))])) _
          refine XS.istore X185.here hx rfl (hb hby at_184) rfl (l' := #[iv u0, iv u1, iv u2, .val (.long u3), .second, iv u4, .val (.long u5), .second, iv (2 : Int32), iv ka, iv kb, rv b145, .val .null, rv b172, iv (0 : Int32), iv (1 : Int32), iv (1 : Int32), iv (1 : Int32)]) rfl ?_
          show Steps p.tables e below (T185.setTop (mkF m 186 #[iv u0, iv u1, iv u2, .val (.long u3), .second, iv u4, .val (.long u5), .second, iv (2 : Int32), iv ka, iv kb, rv b145, .val .null, rv b172, iv (0 : Int32), iv (1 : Int32), iv (1 : Int32), iv (1 : Int32)] [])) _
          refine XS.iconst X185.here hx rfl (hb hby at_186) ?_
          show Steps p.tables e below (T185.setTop (mkF m 187 #[iv u0, iv u1, iv u2, .val (.long u3), .second, iv u4, .val (.long u5), .second, iv (2 : Int32), iv ka, iv kb, rv b145, .val .null, rv b172, iv (0 : Int32), iv (1 : Int32), iv (1 : Int32), iv (1 : Int32)] [(.int (2 : Int32))])) _
          refine XS.istore X185.here hx rfl (hb hby at_187) rfl (l' := #[iv u0, iv u1, iv u2, .val (.long u3), .second, iv u4, .val (.long u5), .second, iv (2 : Int32), iv ka, iv kb, rv b145, .val .null, rv b172, iv (0 : Int32), iv (1 : Int32), iv (2 : Int32), iv (1 : Int32)]) rfl ?_
          show Steps p.tables e below (T185.setTop (mkF m 189 #[iv u0, iv u1, iv u2, .val (.long u3), .second, iv u4, .val (.long u5), .second, iv (2 : Int32), iv ka, iv kb, rv b145, .val .null, rv b172, iv (0 : Int32), iv (1 : Int32), iv (2 : Int32), iv (1 : Int32)] [])) _
          refine XS.iload X185.here hx rfl (hb hby at_189) rfl ?_
          show Steps p.tables e below (T185.setTop (mkF m 191 #[iv u0, iv u1, iv u2, .val (.long u3), .second, iv u4, .val (.long u5), .second, iv (2 : Int32), iv ka, iv kb, rv b145, .val .null, rv b172, iv (0 : Int32), iv (1 : Int32), iv (2 : Int32), iv (1 : Int32)] [(.int (1 : Int32))])) _
          refine XS.ifNo X185.here hx rfl (hb hby at_191) rfl ((if0 _ _).trans (feq (by decide : ¬ ((1 : Int32) = (0 : Int32)))).1) ?_
          show Steps p.tables e below (T185.setTop (mkF m 194 #[iv u0, iv u1, iv u2, .val (.long u3), .second, iv u4, .val (.long u5), .second, iv (2 : Int32), iv ka, iv kb, rv b145, .val .null, rv b172, iv (0 : Int32), iv (1 : Int32), iv (2 : Int32), iv (1 : Int32)] [])) _
          refine XS.aload X185.here hx rfl (hb hby at_194) rfl rfl ?_
          show Steps p.tables e below (T185.setTop (mkF m 196 #[iv u0, iv u1, iv u2, .val (.long u3), .second, iv u4, .val (.long u5), .second, iv (2 : Int32), iv ka, iv kb, rv b145, .val .null, rv b172, iv (0 : Int32), iv (1 : Int32), iv (2 : Int32), iv (1 : Int32)] [(.ref b172)])) _
          refine st188.trans ?_
          show Steps p.tables e below (T188.setTop (mkF m 199 #[iv u0, iv u1, iv u2, .val (.long u3), .second, iv u4, .val (.long u5), .second, iv (2 : Int32), iv ka, iv kb, rv b145, .val .null, rv b172, iv (0 : Int32), iv (1 : Int32), iv (2 : Int32), iv (1 : Int32)] [(.int (2 : Int32))])) _
          refine XS.iload X188.here hx rfl (hb hby at_199) rfl ?_
          show Steps p.tables e below (T188.setTop (mkF m 201 #[iv u0, iv u1, iv u2, .val (.long u3), .second, iv u4, .val (.long u5), .second, iv (2 : Int32), iv ka, iv kb, rv b145, .val .null, rv b172, iv (0 : Int32), iv (1 : Int32), iv (2 : Int32), iv (1 : Int32)] [(.int (2 : Int32)), (.int (2 : Int32))])) _
          refine XS.icmpNo X188.here hx rfl (hb hby at_201) rfl (teq (by decide : (2 : Int32) = (2 : Int32))).2 ?_
          show Steps p.tables e below (T188.setTop (mkF m 204 #[iv u0, iv u1, iv u2, .val (.long u3), .second, iv u4, .val (.long u5), .second, iv (2 : Int32), iv ka, iv kb, rv b145, .val .null, rv b172, iv (0 : Int32), iv (1 : Int32), iv (2 : Int32), iv (1 : Int32)] [])) _
          refine XS.iconst X188.here hx rfl (hb hby at_204) ?_
          show Steps p.tables e below (T188.setTop (mkF m 205 #[iv u0, iv u1, iv u2, .val (.long u3), .second, iv u4, .val (.long u5), .second, iv (2 : Int32), iv ka, iv kb, rv b145, .val .null, rv b172, iv (0 : Int32), iv (1 : Int32), iv (2 : Int32), iv (1 : Int32)] [(.int (1 : Int32))])) _
          refine XS.goto X188.here hx rfl (pc0 := 205) (pc' := 209) rfl (hb hby at_205) (by decide) (by decide) ?_
          show Steps p.tables e below (T188.setTop (mkF m 209 #[iv u0, iv u1, iv u2, .val (.long u3), .second, iv u4, .val (.long u5), .second, iv (2 : Int32), iv ka, iv kb, rv b145, .val .null, rv b172, iv (0 : Int32), iv (1 : Int32), iv (2 : Int32), iv (1 : Int32)] [(.int (1 : Int32))])) _
          refine XS.istore X188.here hx rfl (hb hby at_209) rfl (l' := #[iv u0, iv u1, iv u2, .val (.long u3), .second, iv u4, .val (.long u5), .second, iv (2 : Int32), iv ka, iv kb, rv b145, .val .null, rv b172, iv (0 : Int32), iv (1 : Int32), iv (2 : Int32), iv (1 : Int32)]) rfl ?_
          show Steps p.tables e below (T188.setTop (mkF m 211 #[iv u0, iv u1, iv u2, .val (.long u3), .second, iv u4, .val (.long u5), .second, iv (2 : Int32), iv ka, iv kb, rv b145, .val .null, rv b172, iv (0 : Int32), iv (1 : Int32), iv (2 : Int32), iv (1 : Int32)] [])) _
          refine XS.iload X188.here hx rfl (hb hby at_211) rfl ?_
          show Steps p.tables e below (T188.setTop (mkF m 213 #[iv u0, iv u1, iv u2, .val (.long u3), .second, iv u4, .val (.long u5), .second, iv (2 : Int32), iv ka, iv kb, rv b145, .val .null, rv b172, iv (0 : Int32), iv (1 : Int32), iv (2 : Int32), iv (1 : Int32)] [(.int (1 : Int32))])) _
          refine XS.ifNo X188.here hx rfl (hb hby at_213) rfl ((if0 _ _).trans (feq (by decide : ¬ ((1 : Int32) = (0 : Int32)))).1) ?_
          show Steps p.tables e below (T188.setTop (mkF m 216 #[iv u0, iv u1, iv u2, .val (.long u3), .second, iv u4, .val (.long u5), .second, iv (2 : Int32), iv ka, iv kb, rv b145, .val .null, rv b172, iv (0 : Int32), iv (1 : Int32), iv (2 : Int32), iv (1 : Int32)] [])) _
          refine XS.aload X188.here hx rfl (hb hby at_216) rfl rfl ?_
          show Steps p.tables e below (T188.setTop (mkF m 218 #[iv u0, iv u1, iv u2, .val (.long u3), .second, iv u4, .val (.long u5), .second, iv (2 : Int32), iv ka, iv kb, rv b145, .val .null, rv b172, iv (0 : Int32), iv (1 : Int32), iv (2 : Int32), iv (1 : Int32)] [(.ref b172)])) _
          refine XS.iconst X188.here hx rfl (hb hby at_218) ?_
          show Steps p.tables e below (T188.setTop (mkF m 219 #[iv u0, iv u1, iv u2, .val (.long u3), .second, iv u4, .val (.long u5), .second, iv (2 : Int32), iv ka, iv kb, rv b145, .val .null, rv b172, iv (0 : Int32), iv (1 : Int32), iv (2 : Int32), iv (1 : Int32)] [(.int (0 : Int32)), (.ref b172)])) _
          refine st189.trans ?_
          show Steps p.tables e below (T189.setTop (mkF m 222 #[iv u0, iv u1, iv u2, .val (.long u3), .second, iv u4, .val (.long u5), .second, iv (2 : Int32), iv ka, iv kb, rv b145, .val .null, rv b172, iv (0 : Int32), iv (1 : Int32), iv (2 : Int32), iv (1 : Int32)] [(.int ka)])) _
          refine XS.iload X189.here hx rfl (hb hby at_222) rfl ?_
          show Steps p.tables e below (T189.setTop (mkF m 224 #[iv u0, iv u1, iv u2, .val (.long u3), .second, iv u4, .val (.long u5), .second, iv (2 : Int32), iv ka, iv kb, rv b145, .val .null, rv b172, iv (0 : Int32), iv (1 : Int32), iv (2 : Int32), iv (1 : Int32)] [(.int ka), (.int ka)])) _
          refine XS.icmpNo X189.here hx rfl (hb hby at_224) rfl (teq rfl).2 ?_
          show Steps p.tables e below (T189.setTop (mkF m 227 #[iv u0, iv u1, iv u2, .val (.long u3), .second, iv u4, .val (.long u5), .second, iv (2 : Int32), iv ka, iv kb, rv b145, .val .null, rv b172, iv (0 : Int32), iv (1 : Int32), iv (2 : Int32), iv (1 : Int32)] [])) _
          refine XS.aload X189.here hx rfl (hb hby at_227) rfl rfl ?_
          show Steps p.tables e below (T189.setTop (mkF m 229 #[iv u0, iv u1, iv u2, .val (.long u3), .second, iv u4, .val (.long u5), .second, iv (2 : Int32), iv ka, iv kb, rv b145, .val .null, rv b172, iv (0 : Int32), iv (1 : Int32), iv (2 : Int32), iv (1 : Int32)] [(.ref b172)])) _
          refine XS.iconst X189.here hx rfl (hb hby at_229) ?_
          show Steps p.tables e below (T189.setTop (mkF m 230 #[iv u0, iv u1, iv u2, .val (.long u3), .second, iv u4, .val (.long u5), .second, iv (2 : Int32), iv ka, iv kb, rv b145, .val .null, rv b172, iv (0 : Int32), iv (1 : Int32), iv (2 : Int32), iv (1 : Int32)] [(.int (0 : Int32)), (.ref b172)])) _
          refine st190.trans ?_
          show Steps p.tables e below (T190.setTop (mkF m 233 #[iv u0, iv u1, iv u2, .val (.long u3), .second, iv u4, .val (.long u5), .second, iv (2 : Int32), iv ka, iv kb, rv b145, .val .null, rv b172, iv (0 : Int32), iv (1 : Int32), iv (2 : Int32), iv (1 : Int32)] [(.int u2)])) _
          refine XS.iloadN X190.here hx rfl (hb hby at_233) rfl ?_
          show Steps p.tables e below (T190.setTop (mkF m 234 #[iv u0, iv u1, iv u2, .val (.long u3), .second, iv u4, .val (.long u5), .second, iv (2 : Int32), iv ka, iv kb, rv b145, .val .null, rv b172, iv (0 : Int32), iv (1 : Int32), iv (2 : Int32), iv (1 : Int32)] [(.int u2), (.int u2)])) _
          refine XS.icmpNo X190.here hx rfl (hb hby at_234) rfl (teq rfl).2 ?_
          show Steps p.tables e below (T190.setTop (mkF m 237 #[iv u0, iv u1, iv u2, .val (.long u3), .second, iv u4, .val (.long u5), .second, iv (2 : Int32), iv ka, iv kb, rv b145, .val .null, rv b172, iv (0 : Int32), iv (1 : Int32), iv (2 : Int32), iv (1 : Int32)] [])) _
          refine XS.aload X190.here hx rfl (hb hby at_237) rfl rfl ?_
          show Steps p.tables e below (T190.setTop (mkF m 239 #[iv u0, iv u1, iv u2, .val (.long u3), .second, iv u4, .val (.long u5), .second, iv (2 : Int32), iv ka, iv kb, rv b145, .val .null, rv b172, iv (0 : Int32), iv (1 : Int32), iv (2 : Int32), iv (1 : Int32)] [(.ref b172)])) _
          refine XS.iconst X190.here hx rfl (hb hby at_239) ?_
          show Steps p.tables e below (T190.setTop (mkF m 240 #[iv u0, iv u1, iv u2, .val (.long u3), .second, iv u4, .val (.long u5), .second, iv (2 : Int32), iv ka, iv kb, rv b145, .val .null, rv b172, iv (0 : Int32), iv (1 : Int32), iv (2 : Int32), iv (1 : Int32)] [(.int (0 : Int32)), (.ref b172)])) _
          refine st191.trans ?_
          show Steps p.tables e below (T191.setTop (mkF m 243 #[iv u0, iv u1, iv u2, .val (.long u3), .second, iv u4, .val (.long u5), .second, iv (2 : Int32), iv ka, iv kb, rv b145, .val .null, rv b172, iv (0 : Int32), iv (1 : Int32), iv (2 : Int32), iv (1 : Int32)] [(.ref b145)])) _
          refine XS.aload X191.here hx rfl (hb hby at_243) rfl rfl ?_
          show Steps p.tables e below (T191.setTop (mkF m 245 #[iv u0, iv u1, iv u2, .val (.long u3), .second, iv u4, .val (.long u5), .second, iv (2 : Int32), iv ka, iv kb, rv b145, .val .null, rv b172, iv (0 : Int32), iv (1 : Int32), iv (2 : Int32), iv (1 : Int32)] [(.ref b145), (.ref b145)])) _
          refine Jvm.RoadKit.acmp (g := (mkF m 245 #[iv u0, iv u1, iv u2, .val (.long u3), .second, iv u4, .val (.long u5), .second, iv (2 : Int32), iv ka, iv kb, rv b145, .val .null, rv b172, iv (0 : Int32), iv (1 : Int32), iv (2 : Int32), iv (1 : Int32)] [(.ref b145), (.ref b145)])) X191 hx rfl rfl rfl (pc0 := 245) (pc' := 248) (same := true) rfl (hb hby at_245) rfl (decide_eq_true rfl) (by decide) (by decide) ?_
          show Steps p.tables e below (T191.setTop (mkF m 248 #[iv u0, iv u1, iv u2, .val (.long u3), .second, iv u4, .val (.long u5), .second, iv (2 : Int32), iv ka, iv kb, rv b145, .val .null, rv b172, iv (0 : Int32), iv (1 : Int32), iv (2 : Int32), iv (1 : Int32)] [])) _
          refine XS.aload X191.here hx rfl (hb hby at_248) rfl rfl ?_
          show Steps p.tables e below (T191.setTop (mkF m 250 #[iv u0, iv u1, iv u2, .val (.long u3), .second, iv u4, .val (.long u5), .second, iv (2 : Int32), iv ka, iv kb, rv b145, .val .null, rv b172, iv (0 : Int32), iv (1 : Int32), iv (2 : Int32), iv (1 : Int32)] [(.ref b172)])) _
          refine XS.iconst X191.here hx rfl (hb hby at_250) ?_
          show Steps p.tables e below (T191.setTop (mkF m 251 #[iv u0, iv u1, iv u2, .val (.long u3), .second, iv u4, .val (.long u5), .second, iv (2 : Int32), iv ka, iv kb, rv b145, .val .null, rv b172, iv (0 : Int32), iv (1 : Int32), iv (2 : Int32), iv (1 : Int32)] [(.int (0 : Int32)), (.ref b172)])) _
          refine st192.trans ?_
          show Steps p.tables e below (T192.setTop (mkF m 254 #[iv u0, iv u1, iv u2, .val (.long u3), .second, iv u4, .val (.long u5), .second, iv (2 : Int32), iv ka, iv kb, rv b145, .val .null, rv b172, iv (0 : Int32), iv (1 : Int32), iv (2 : Int32), iv (1 : Int32)] [(.long u3)])) _
          refine XS.lloadN X192.here hx rfl (hb hby at_254) rfl ?_
          show Steps p.tables e below (T192.setTop (mkF m 255 #[iv u0, iv u1, iv u2, .val (.long u3), .second, iv u4, .val (.long u5), .second, iv (2 : Int32), iv ka, iv kb, rv b145, .val .null, rv b172, iv (0 : Int32), iv (1 : Int32), iv (2 : Int32), iv (1 : Int32)] [(.long u3), (.long u3)])) _
          refine XS.lcmp X192.here hx rfl (hb hby at_255) rfl ?_
          show Steps p.tables e below (T192.setTop (mkF m 256 #[iv u0, iv u1, iv u2, .val (.long u3), .second, iv u4, .val (.long u5), .second, iv (2 : Int32), iv ka, iv kb, rv b145, .val .null, rv b172, iv (0 : Int32), iv (1 : Int32), iv (2 : Int32), iv (1 : Int32)] [(.int (lcmpW u3 u3))])) _
          refine XS.ifNo X192.here hx rfl (hb hby at_256) rfl ((if0 _ _).trans (teq ((lw_eq _ _).mpr rfl)).2) ?_
          show Steps p.tables e below (T192.setTop (mkF m 259 #[iv u0, iv u1, iv u2, .val (.long u3), .second, iv u4, .val (.long u5), .second, iv (2 : Int32), iv ka, iv kb, rv b145, .val .null, rv b172, iv (0 : Int32), iv (1 : Int32), iv (2 : Int32), iv (1 : Int32)] [])) _
          refine XS.iconst X192.here hx rfl (hb hby at_259) ?_
          show Steps p.tables e below (T192.setTop (mkF m 260 #[iv u0, iv u1, iv u2, .val (.long u3), .second, iv u4, .val (.long u5), .second, iv (2 : Int32), iv ka, iv kb, rv b145, .val .null, rv b172, iv (0 : Int32), iv (1 : Int32), iv (2 : Int32), iv (1 : Int32)] [(.int (1 : Int32))])) _
          refine XS.goto X192.here hx rfl (pc0 := 260) (pc' := 264) rfl (hb hby at_260) (by decide) (by decide) ?_
          show Steps p.tables e below (T192.setTop (mkF m 264 #[iv u0, iv u1, iv u2, .val (.long u3), .second, iv u4, .val (.long u5), .second, iv (2 : Int32), iv ka, iv kb, rv b145, .val .null, rv b172, iv (0 : Int32), iv (1 : Int32), iv (2 : Int32), iv (1 : Int32)] [(.int (1 : Int32))])) _
          refine XS.istore X192.here hx rfl (hb hby at_264) rfl (l' := #[iv u0, iv u1, iv u2, .val (.long u3), .second, iv u4, .val (.long u5), .second, iv (2 : Int32), iv ka, iv kb, rv b145, .val .null, rv b172, iv (0 : Int32), iv (1 : Int32), iv (2 : Int32), iv (1 : Int32)]) rfl ?_
          show Steps p.tables e below (T192.setTop (mkF m 266 #[iv u0, iv u1, iv u2, .val (.long u3), .second, iv u4, .val (.long u5), .second, iv (2 : Int32), iv ka, iv kb, rv b145, .val .null, rv b172, iv (0 : Int32), iv (1 : Int32), iv (2 : Int32), iv (1 : Int32)] [])) _
          refine XS.iload X192.here hx rfl (hb hby at_266) rfl ?_
          show Steps p.tables e below (T192.setTop (mkF m 268 #[iv u0, iv u1, iv u2, .val (.long u3), .second, iv u4, .val (.long u5), .second, iv (2 : Int32), iv ka, iv kb, rv b145, .val .null, rv b172, iv (0 : Int32), iv (1 : Int32), iv (2 : Int32), iv (1 : Int32)] [(.int (2 : Int32))])) _
          refine XS.iconst X192.here hx rfl (hb hby at_268) ?_
          show Steps p.tables e below (T192.setTop (mkF m 269 #[iv u0, iv u1, iv u2, .val (.long u3), .second, iv u4, .val (.long u5), .second, iv (2 : Int32), iv ka, iv kb, rv b145, .val .null, rv b172, iv (0 : Int32), iv (1 : Int32), iv (2 : Int32), iv (1 : Int32)] [(.int (2 : Int32)), (.int (2 : Int32))])) _
          refine XS.icmpNo X192.here hx rfl (hb hby at_269) rfl (flt (by decide : ¬ ((2 : Int32) < (2 : Int32)))).1 ?_
          show Steps p.tables e below (T192.setTop (mkF m 272 #[iv u0, iv u1, iv u2, .val (.long u3), .second, iv u4, .val (.long u5), .second, iv (2 : Int32), iv ka, iv kb, rv b145, .val .null, rv b172, iv (0 : Int32), iv (1 : Int32), iv (2 : Int32), iv (1 : Int32)] [])) _
          refine XS.iload X192.here hx rfl (hb hby at_272) rfl ?_
          show Steps p.tables e below (T192.setTop (mkF m 274 #[iv u0, iv u1, iv u2, .val (.long u3), .second, iv u4, .val (.long u5), .second, iv (2 : Int32), iv ka, iv kb, rv b145, .val .null, rv b172, iv (0 : Int32), iv (1 : Int32), iv (2 : Int32), iv (1 : Int32)] [(.int (1 : Int32))])) _
          refine XS.ifNo X192.here hx rfl (hb hby at_274) rfl ((if0 _ _).trans (feq (by decide : ¬ ((1 : Int32) = (0 : Int32)))).1) ?_
          show Steps p.tables e below (T192.setTop (mkF m 277 #[iv u0, iv u1, iv u2, .val (.long u3), .second, iv u4, .val (.long u5), .second, iv (2 : Int32), iv ka, iv kb, rv b145, .val .null, rv b172, iv (0 : Int32), iv (1 : Int32), iv (2 : Int32), iv (1 : Int32)] [])) _
          refine XS.aload X192.here hx rfl (hb hby at_277) rfl rfl ?_
          show Steps p.tables e below (T192.setTop (mkF m 279 #[iv u0, iv u1, iv u2, .val (.long u3), .second, iv u4, .val (.long u5), .second, iv (2 : Int32), iv ka, iv kb, rv b145, .val .null, rv b172, iv (0 : Int32), iv (1 : Int32), iv (2 : Int32), iv (1 : Int32)] [(.ref b172)])) _
          refine XS.iconst X192.here hx rfl (hb hby at_279) ?_
          show Steps p.tables e below (T192.setTop (mkF m 280 #[iv u0, iv u1, iv u2, .val (.long u3), .second, iv u4, .val (.long u5), .second, iv (2 : Int32), iv ka, iv kb, rv b145, .val .null, rv b172, iv (0 : Int32), iv (1 : Int32), iv (2 : Int32), iv (1 : Int32)] [(.int (1 : Int32)), (.ref b172)])) _
          refine st193.trans ?_
          show Steps p.tables e below (T193.setTop (mkF m 283 #[iv u0, iv u1, iv u2, .val (.long u3), .second, iv u4, .val (.long u5), .second, iv (2 : Int32), iv ka, iv kb, rv b145, .val .null, rv b172, iv (0 : Int32), iv (1 : Int32), iv (2 : Int32), iv (1 : Int32)] [(.int kb)])) _
          refine XS.iload X193.here hx rfl (hb hby at_283) rfl ?_
          show Steps p.tables e below (T193.setTop (mkF m 285 #[iv u0, iv u1, iv u2, .val (.long u3), .second, iv u4, .val (.long u5), .second, iv (2 : Int32), iv ka, iv kb, rv b145, .val .null, rv b172, iv (0 : Int32), iv (1 : Int32), iv (2 : Int32), iv (1 : Int32)] [(.int kb), (.int kb)])) _
          refine XS.icmpNo X193.here hx rfl (hb hby at_285) rfl (teq rfl).2 ?_
          show Steps p.tables e below (T193.setTop (mkF m 288 #[iv u0, iv u1, iv u2, .val (.long u3), .second, iv u4, .val (.long u5), .second, iv (2 : Int32), iv ka, iv kb, rv b145, .val .null, rv b172, iv (0 : Int32), iv (1 : Int32), iv (2 : Int32), iv (1 : Int32)] [])) _
          refine XS.aload X193.here hx rfl (hb hby at_288) rfl rfl ?_
          show Steps p.tables e below (T193.setTop (mkF m 290 #[iv u0, iv u1, iv u2, .val (.long u3), .second, iv u4, .val (.long u5), .second, iv (2 : Int32), iv ka, iv kb, rv b145, .val .null, rv b172, iv (0 : Int32), iv (1 : Int32), iv (2 : Int32), iv (1 : Int32)] [(.ref b172)])) _
          refine XS.iconst X193.here hx rfl (hb hby at_290) ?_
          show Steps p.tables e below (T193.setTop (mkF m 291 #[iv u0, iv u1, iv u2, .val (.long u3), .second, iv u4, .val (.long u5), .second, iv (2 : Int32), iv ka, iv kb, rv b145, .val .null, rv b172, iv (0 : Int32), iv (1 : Int32), iv (2 : Int32), iv (1 : Int32)] [(.int (1 : Int32)), (.ref b172)])) _
          refine st194.trans ?_
          show Steps p.tables e below (T194.setTop (mkF m 294 #[iv u0, iv u1, iv u2, .val (.long u3), .second, iv u4, .val (.long u5), .second, iv (2 : Int32), iv ka, iv kb, rv b145, .val .null, rv b172, iv (0 : Int32), iv (1 : Int32), iv (2 : Int32), iv (1 : Int32)] [(.int u4)])) _
          refine XS.iload X194.here hx rfl (hb hby at_294) rfl ?_
          show Steps p.tables e below (T194.setTop (mkF m 296 #[iv u0, iv u1, iv u2, .val (.long u3), .second, iv u4, .val (.long u5), .second, iv (2 : Int32), iv ka, iv kb, rv b145, .val .null, rv b172, iv (0 : Int32), iv (1 : Int32), iv (2 : Int32), iv (1 : Int32)] [(.int u4), (.int u4)])) _
          refine XS.icmpNo X194.here hx rfl (hb hby at_296) rfl (teq rfl).2 ?_
          show Steps p.tables e below (T194.setTop (mkF m 299 #[iv u0, iv u1, iv u2, .val (.long u3), .second, iv u4, .val (.long u5), .second, iv (2 : Int32), iv ka, iv kb, rv b145, .val .null, rv b172, iv (0 : Int32), iv (1 : Int32), iv (2 : Int32), iv (1 : Int32)] [])) _
          refine XS.aload X194.here hx rfl (hb hby at_299) rfl rfl ?_
          show Steps p.tables e below (T194.setTop (mkF m 301 #[iv u0, iv u1, iv u2, .val (.long u3), .second, iv u4, .val (.long u5), .second, iv (2 : Int32), iv ka, iv kb, rv b145, .val .null, rv b172, iv (0 : Int32), iv (1 : Int32), iv (2 : Int32), iv (1 : Int32)] [(.ref b172)])) _
          refine XS.iconst X194.here hx rfl (hb hby at_301) ?_
          show Steps p.tables e below (T194.setTop (mkF m 302 #[iv u0, iv u1, iv u2, .val (.long u3), .second, iv u4, .val (.long u5), .second, iv (2 : Int32), iv ka, iv kb, rv b145, .val .null, rv b172, iv (0 : Int32), iv (1 : Int32), iv (2 : Int32), iv (1 : Int32)] [(.int (1 : Int32)), (.ref b172)])) _
          refine st195.trans ?_
          show Steps p.tables e below (T195.setTop (mkF m 305 #[iv u0, iv u1, iv u2, .val (.long u3), .second, iv u4, .val (.long u5), .second, iv (2 : Int32), iv ka, iv kb, rv b145, .val .null, rv b172, iv (0 : Int32), iv (1 : Int32), iv (2 : Int32), iv (1 : Int32)] [.null])) _
          refine XS.aload X195.here hx rfl (hb hby at_305) rfl rfl ?_
          show Steps p.tables e below (T195.setTop (mkF m 307 #[iv u0, iv u1, iv u2, .val (.long u3), .second, iv u4, .val (.long u5), .second, iv (2 : Int32), iv ka, iv kb, rv b145, .val .null, rv b172, iv (0 : Int32), iv (1 : Int32), iv (2 : Int32), iv (1 : Int32)] [.null, .null])) _
          refine Jvm.RoadKit.acmp (g := (mkF m 307 #[iv u0, iv u1, iv u2, .val (.long u3), .second, iv u4, .val (.long u5), .second, iv (2 : Int32), iv ka, iv kb, rv b145, .val .null, rv b172, iv (0 : Int32), iv (1 : Int32), iv (2 : Int32), iv (1 : Int32)] [.null, .null])) X195 hx rfl rfl rfl (pc0 := 307) (pc' := 310) (same := true) rfl (hb hby at_307) rfl (decide_eq_true rfl) (by decide) (by decide) ?_
          show Steps p.tables e below (T195.setTop (mkF m 310 #[iv u0, iv u1, iv u2, .val (.long u3), .second, iv u4, .val (.long u5), .second, iv (2 : Int32), iv ka, iv kb, rv b145, .val .null, rv b172, iv (0 : Int32), iv (1 : Int32), iv (2 : Int32), iv (1 : Int32)] [])) _
          refine XS.aload X195.here hx rfl (hb hby at_310) rfl rfl ?_
          show Steps p.tables e below (T195.setTop (mkF m 312 #[iv u0, iv u1, iv u2, .val (.long u3), .second, iv u4, .val (.long u5), .second, iv (2 : Int32), iv ka, iv kb, rv b145, .val .null, rv b172, iv (0 : Int32), iv (1 : Int32), iv (2 : Int32), iv (1 : Int32)] [(.ref b172)])) _
          refine XS.iconst X195.here hx rfl (hb hby at_312) ?_
          show Steps p.tables e below (T195.setTop (mkF m 313 #[iv u0, iv u1, iv u2, .val (.long u3), .second, iv u4, .val (.long u5), .second, iv (2 : Int32), iv ka, iv kb, rv b145, .val .null, rv b172, iv (0 : Int32), iv (1 : Int32), iv (2 : Int32), iv (1 : Int32)] [(.int (1 : Int32)), (.ref b172)])) _
          refine st196.trans ?_
          show Steps p.tables e below (T196.setTop (mkF m 316 #[iv u0, iv u1, iv u2, .val (.long u3), .second, iv u4, .val (.long u5), .second, iv (2 : Int32), iv ka, iv kb, rv b145, .val .null, rv b172, iv (0 : Int32), iv (1 : Int32), iv (2 : Int32), iv (1 : Int32)] [(.long u5)])) _
          refine XS.lload X196.here hx rfl (hb hby at_316) rfl ?_
          show Steps p.tables e below (T196.setTop (mkF m 318 #[iv u0, iv u1, iv u2, .val (.long u3), .second, iv u4, .val (.long u5), .second, iv (2 : Int32), iv ka, iv kb, rv b145, .val .null, rv b172, iv (0 : Int32), iv (1 : Int32), iv (2 : Int32), iv (1 : Int32)] [(.long u5), (.long u5)])) _
          refine XS.lcmp X196.here hx rfl (hb hby at_318) rfl ?_
          show Steps p.tables e below (T196.setTop (mkF m 319 #[iv u0, iv u1, iv u2, .val (.long u3), .second, iv u4, .val (.long u5), .second, iv (2 : Int32), iv ka, iv kb, rv b145, .val .null, rv b172, iv (0 : Int32), iv (1 : Int32), iv (2 : Int32), iv (1 : Int32)] [(.int (lcmpW u5 u5))])) _
          refine XS.ifNo X196.here hx rfl (hb hby at_319) rfl ((if0 _ _).trans (teq ((lw_eq _ _).mpr rfl)).2) ?_
          show Steps p.tables e below (T196.setTop (mkF m 322 #[iv u0, iv u1, iv u2, .val (.long u3), .second, iv u4, .val (.long u5), .second, iv (2 : Int32), iv ka, iv kb, rv b145, .val .null, rv b172, iv (0 : Int32), iv (1 : Int32), iv (2 : Int32), iv (1 : Int32)] [])) _
          refine XS.iconst X196.here hx rfl (hb hby at_322) ?_
          show Steps p.tables e below (T196.setTop (mkF m 323 #[iv u0, iv u1, iv u2, .val (.long u3), .second, iv u4, .val (.long u5), .second, iv (2 : Int32), iv ka, iv kb, rv b145, .val .null, rv b172, iv (0 : Int32), iv (1 : Int32), iv (2 : Int32), iv (1 : Int32)] [(.int (1 : Int32))])) _
          refine XS.goto X196.here hx rfl (pc0 := 323) (pc' := 327) rfl (hb hby at_323) (by decide) (by decide) ?_
          show Steps p.tables e below (T196.setTop (mkF m 327 #[iv u0, iv u1, iv u2, .val (.long u3), .second, iv u4, .val (.long u5), .second, iv (2 : Int32), iv ka, iv kb, rv b145, .val .null, rv b172, iv (0 : Int32), iv (1 : Int32), iv (2 : Int32), iv (1 : Int32)] [(.int (1 : Int32))])) _
          refine XS.istore X196.here hx rfl (hb hby at_327) rfl (l' := #[iv u0, iv u1, iv u2, .val (.long u3), .second, iv u4, .val (.long u5), .second, iv (2 : Int32), iv ka, iv kb, rv b145, .val .null, rv b172, iv (0 : Int32), iv (1 : Int32), iv (2 : Int32), iv (1 : Int32)]) rfl ?_
          show Steps p.tables e below (T196.setTop (mkF m 329 #[iv u0, iv u1, iv u2, .val (.long u3), .second, iv u4, .val (.long u5), .second, iv (2 : Int32), iv ka, iv kb, rv b145, .val .null, rv b172, iv (0 : Int32), iv (1 : Int32), iv (2 : Int32), iv (1 : Int32)] [])) _
          refine XS.iload X196.here hx rfl (hb hby at_329) rfl ?_
          show Steps p.tables e below (T196.setTop (mkF m 331 #[iv u0, iv u1, iv u2, .val (.long u3), .second, iv u4, .val (.long u5), .second, iv (2 : Int32), iv ka, iv kb, rv b145, .val .null, rv b172, iv (0 : Int32), iv (1 : Int32), iv (2 : Int32), iv (1 : Int32)] [(.int (1 : Int32))])) _
          exact retN X196 hx (t := .boolean) Bd.returns (by simp) (hb hby at_331) hr
        · show Q0 Z u0 u1 u2 u3 u4 u5 h0 n0 _ T196.heap _
          rw [eq196]
          exact ⟨rfl, N196⟩
      · skip
        rw [hcp] at S153
        obtain ⟨T197, h197, X197, e197, E197, A197, D197, -, st197⟩ := newO X147 hx hZ hown (hw _ (List.mem_of_getElem? (i := 1) rfl)) (hw _ (List.mem_of_getElem? (i := 2) rfl)) (hw _ (List.mem_of_getElem? (i := 3) rfl)) e147 (g := (mkF m 87 #[iv u0, iv u1, iv u2, .val (.long u3), .second, iv u4, .val (.long u5), .second, iv (3 : Int32), iv ka, iv kb, rv b145, .val .null, .unset, .unset, .unset, .unset, .unset] [])) rfl (hb hby at_87) (by decide) (by decide)
        obtain ⟨b197, g197⟩ : ∃ z, z = h147.size := ⟨_, rfl⟩
        rw [← g197] at A197 D197 st197
        have ge_b197 : n0 ≤ b197 := Nat.le_trans Z147 (Nat.le_of_eq g197.symm)
        have ne_b145_b197 : b145 ≠ b197 := Nat.ne_of_lt (Nat.lt_of_lt_of_le (f150).lt (Nat.le_of_eq g197.symm))
        have f198 := f150.ext E197
        have F197_kinds : Fld Z h197 b197 "com/example/agouti/agouti/store/IndexBuilder$Notes" "kinds" "[B" .null := D197 (Or.inr (hw _ (List.mem_of_getElem? (i := 12) rfl))) (ty := (.array .byte)) (by decide)
        have F197_nodes : Fld Z h197 b197 "com/example/agouti/agouti/store/IndexBuilder$Notes" "nodes" "[I" .null := D197 (Or.inr (hw _ (List.mem_of_getElem? (i := 15) rfl))) (ty := (.array .int)) (by decide)
        have F197_values : Fld Z h197 b197 "com/example/agouti/agouti/store/IndexBuilder$Notes" "values" "[[B" .null := D197 (Or.inl (hw _ (List.mem_of_getElem? (i := 19) rfl))) (ty := (.array (.array .byte))) (by decide)
        have F197_hashes : Fld Z h197 b197 "com/example/agouti/agouti/store/IndexBuilder$Notes" "hashes" "[J" .null := D197 (Or.inr (hw _ (List.mem_of_getElem? (i := 22) rfl))) (ty := (.array .long)) (by decide)
        have F197_count : Fld Z h197 b197 "com/example/agouti/agouti/store/IndexBuilder$Notes" "count" "I" (.int (0 : Int32)) := D197 (Or.inl (hw _ (List.mem_of_getElem? (i := 29) rfl))) (ty := .int) (by decide)
        have Z197 : n0 ≤ h197.size := Nat.le_trans Z147 E197.1
        obtain ⟨_, _, ⟨T199, L199, k199, n199⟩, -, X199, ⟨Lc199, hQ199, l199, y199, z199⟩, st199⟩ := X197.specialBack hx (y := (⟨"com/example/agouti/agouti/store/IndexBuilder$Notes", "<init>", "(I)V"⟩ : MethodName)) rfl hown (mvT hZ (hw _ (List.mem_of_getElem? (i := 4) rfl))) (mvT hZ (hw _ (List.mem_of_getElem? (i := 5) rfl))) (mvT hZ (hw _ (List.mem_of_getElem? (i := 6) rfl))) (by decide) (backOf (W := 1) (rmI3 l Z a0 hw [] b197 h197 n0 Z197 A197 F197_count F197_kinds F197_nodes F197_values F197_hashes ge_b197) hZ (hw _ (List.mem_of_getElem? (i := 6) rfl)) (hw _ (List.mem_of_getElem? (i := 3) rfl)) (by decide) (by decide)) (g := (mkF m 93 #[iv u0, iv u1, iv u2, .val (.long u3), .second, iv u4, .val (.long u5), .second, iv (3 : Int32), iv ka, iv kb, rv b145, .val .null, .unset, .unset, .unset, .unset, .unset] [(.int (3 : Int32)), (.ref b197), (.ref b197)])) rfl (by rw [hml]; rfl) (Steps.refl _) (a := b197) (argsL := [(.int (3 : Int32))]) (rest := [(.ref b197)]) (lenOf pd_0 rfl) rfl (by show 2 * 0 + _ ≤ _; exact Nat.le_of_eq rfl) (hb hby at_93) (fun _ _ => ⟨rfl, e197, (by decide : 2 + 4 ≤ _), (by decide : 6 + 12 ≤ _)⟩)
        dsimp only [Pt.U, Pt.locs, Pt.cells, Pt.slots] at X199 l199 y199 z199 st199 hQ199
        subst y199 z199
        obtain ⟨rfl, Nq199, Zq199, Kq199, Bq199⟩ := hQ199
        have N199 : Fr n0 L199 := by rw [l199]; exact Fr.app N147 Nq199
        have f200 := f198.keep Kq199
        have f201 := A197.keep Kq199
        have oe199 := Bq199.1
        obtain ⟨cq207, kq207, q207a, q207b, q207c⟩ := isOf hZ rfl oe199
        obtain ⟨_, _, ⟨T207, L207, k207, n207⟩, -, X207, ⟨Lc207, hQ207, l207, y207, z207⟩, st207⟩ := X199.virtualBack hx (y := (⟨"com/example/agouti/agouti/store/IndexBuilder$Notes", "add", "(BI[BJ)Z"⟩ : MethodName)) (z := (⟨"com/example/agouti/agouti/store/IndexBuilder$Notes", "add", "(BI[BJ)Z"⟩ : MethodName)) hown (mvT hZ (hw _ (List.mem_of_getElem? (i := 23) rfl))) (mvT hZ (hw _ (List.mem_of_getElem? (i := 24) rfl))) (notFace_of_selects (args := #[]) (mvT hZ (hw _ (List.mem_of_getElem? (i := 26) rfl)))) (mvT hZ (hw _ (List.mem_of_getElem? (i := 26) rfl))) (mvT hZ (hw _ (List.mem_of_getElem? (i := 25) rfl))) (by decide) (backOf (W := 0) (rmAddR l Z a0 hw [] b197 ka u2 b145 u3 (3 : Int32) (0 : Int32) [0, 0, 0] [0, 0, 0] [.null, .null, .null] [0, 0, 0] T199.heap n0 Zq199 Bq199 ge_b197 (by decide) (by decide) (by rw [e_ka]; exact own_nb _) f200) hZ (hw _ (List.mem_of_getElem? (i := 27) rfl)) (hw _ (List.mem_of_getElem? (i := 3) rfl)) (by decide) (by decide)) q207a q207c (g := (mkF m 106 #[iv u0, iv u1, iv u2, .val (.long u3), .second, iv u4, .val (.long u5), .second, iv (3 : Int32), iv ka, iv kb, rv b145, .val .null, rv b197, .unset, .unset, .unset, .unset] [(.long u3), (.ref b145), (.int u2), (.int ka), (.ref b197)])) rfl (by rw [hml]; rfl) (Steps.refl _) (argsL := [(.int ka), (.int u2), (.ref b145), (.long u3)]) (rest := []) (lenOf pd_1 rfl) rfl (by show 2 * 0 + _ ≤ _; exact Nat.le_of_eq rfl) (hb hby at_106) (fun _ _ => ⟨rfl, rfl, (by decide : 6 + 0 ≤ _), (by decide : 18 + 0 ≤ _)⟩)
        dsimp only [Pt.U, Pt.locs, Pt.cells, Pt.slots] at X207 l207 y207 z207 st207 hQ207
        subst y207 z207
        obtain ⟨rfl, Nq207, Zq207, Kx207, Bq207⟩ := hQ207
        have N207 : Fr n0 L207 := by rw [l207]; exact Fr.app N199 Nq207
        obtain ⟨wsq207, Kq207⟩ := Kx207
        have f208 := f200.keep Kq207
        have f209 := oe199.keep Kq207
        have B207 : own_N Z T207.heap n0 b197 (3 : Int32) (1 : Int32) [ka, 0, 0] [u2, 0, 0] [(.ref b145), .null, .null] [u3, 0, 0] := Bq207
        obtain ⟨cq210, kq210, q210a, q210b, q210c⟩ := isOf hZ rfl f209
        obtain ⟨_, _, ⟨T210, L210, k210, n210⟩, -, X210, ⟨Lc210, hQ210, l210, y210, z210⟩, st210⟩ := X207.virtualBack hx (y := (⟨"com/example/agouti/agouti/store/IndexBuilder$Notes", "add", "(BI[BJ)Z"⟩ : MethodName)) (z := (⟨"com/example/agouti/agouti/store/IndexBuilder$Notes", "add", "(BI[BJ)Z"⟩ : MethodName)) hown (mvT hZ (hw _ (List.mem_of_getElem? (i := 23) rfl))) (mvT hZ (hw _ (List.mem_of_getElem? (i := 24) rfl))) (notFace_of_selects (args := #[]) (mvT hZ (hw _ (List.mem_of_getElem? (i := 26) rfl)))) (mvT hZ (hw _ (List.mem_of_getElem? (i := 26) rfl))) (mvT hZ (hw _ (List.mem_of_getElem? (i := 25) rfl))) (by decide) (backOf (W := 0) (rmAddN l Z a0 hw [] b197 kb u4 u5 (3 : Int32) (1 : Int32) [ka, 0, 0] [u2, 0, 0] [(.ref b145), .null, .null] [u3, 0, 0] T207.heap n0 Zq207 B207 ge_b197 (by decide) (by decide) (by rw [e_kb]; exact own_nb _)) hZ (hw _ (List.mem_of_getElem? (i := 27) rfl)) (hw _ (List.mem_of_getElem? (i := 3) rfl)) (by decide) (by decide)) q210a q210c (g := (mkF m 153 #[iv u0, iv u1, iv u2, .val (.long u3), .second, iv u4, .val (.long u5), .second, iv (3 : Int32), iv ka, iv kb, rv b145, .val .null, rv b197, iv (0 : Int32), iv (1 : Int32), iv (1 : Int32), .unset] [(.long u5), .null, (.int u4), (.int kb), (.ref b197)])) rfl (by rw [hml]; rfl) (Steps.refl _) (argsL := [(.int kb), (.int u4), .null, (.long u5)]) (rest := []) (lenOf pd_1 rfl) rfl (by show 2 * 0 + _ ≤ _; exact Nat.le_of_eq rfl) (hb hby at_153) (fun _ _ => ⟨rfl, rfl, (by decide : 6 + 0 ≤ _), (by decide : 18 + 0 ≤ _)⟩)
        dsimp only [Pt.U, Pt.locs, Pt.cells, Pt.slots] at X210 l210 y210 z210 st210 hQ210
        subst y210 z210
        obtain ⟨rfl, Nq210, Zq210, Kx210, Bq210⟩ := hQ210
        have N210 : Fr n0 L210 := by rw [l210]; exact Fr.app N207 Nq210
        obtain ⟨wsq210, Kq210⟩ := Kx210
        have f211 := f208.keep Kq210
        have f212 := f209.keep Kq210
        have B210 : own_N Z T210.heap n0 b197 (3 : Int32) (2 : Int32) [ka, kb, 0] [u2, u4, 0] [(.ref b145), .null, .null] [u3, u5, 0] := Bq210
        obtain ⟨cq213, kq213, q213a, q213b, q213c⟩ := isOf hZ rfl f212
        obtain ⟨_, _, ⟨T213, L213, k213, n213⟩, -, X213, ⟨Lc213, hQ213, l213, y213, z213⟩, st213⟩ := X210.virtualBack hx (y := (⟨"com/example/agouti/agouti/store/IndexBuilder$Notes", "count", "()I"⟩ : MethodName)) (z := (⟨"com/example/agouti/agouti/store/IndexBuilder$Notes", "count", "()I"⟩ : MethodName)) hown (mvT hZ (hw _ (List.mem_of_getElem? (i := 30) rfl))) (mvT hZ (hw _ (List.mem_of_getElem? (i := 31) rfl))) (notFace_of_selects (args := #[]) (mvT hZ (hw _ (List.mem_of_getElem? (i := 33) rfl)))) (mvT hZ (hw _ (List.mem_of_getElem? (i := 33) rfl))) (mvT hZ (hw _ (List.mem_of_getElem? (i := 32) rfl))) (by decide) (backOf (W := 0) (rmCount l Z a0 hw [] b197 (3 : Int32) (2 : Int32) [ka, kb, 0] [u2, u4, 0] [(.ref b145), .null, .null] [u3, u5, 0] T210.heap n0 Zq210 B210) hZ (hw _ (List.mem_of_getElem? (i := 34) rfl)) (hw _ (List.mem_of_getElem? (i := 3) rfl)) (by decide) (by decide)) q213a q213c (g := (mkF m 196 #[iv u0, iv u1, iv u2, .val (.long u3), .second, iv u4, .val (.long u5), .second, iv (3 : Int32), iv ka, iv kb, rv b145, .val .null, rv b197, iv (0 : Int32), iv (1 : Int32), iv (2 : Int32), iv (0 : Int32)] [(.ref b197)])) rfl (by rw [hml]; rfl) (Steps.refl _) (argsL := []) (rest := []) (lenOf pd_2 rfl) rfl (by show 2 * 0 + _ ≤ _; exact Nat.le_of_eq rfl) (hb hby at_196) (fun _ _ => ⟨rfl, rfl, (by decide : 6 + 0 ≤ _), (by decide : 18 + 0 ≤ _)⟩)
        dsimp only [Pt.U, Pt.locs, Pt.cells, Pt.slots] at X213 l213 y213 z213 st213 hQ213
        subst y213 z213
        obtain ⟨rfl, Nq213, eq213⟩ := hQ213
        have N213 : Fr n0 L213 := by rw [l213]; exact Fr.app N210 Nq213
        obtain ⟨cq214, kq214, q214a, q214b, q214c⟩ := isOf hZ eq213 f212
        obtain ⟨_, _, ⟨T214, L214, k214, n214⟩, -, X214, ⟨Lc214, hQ214, l214, y214, z214⟩, st214⟩ := X213.virtualBack hx (y := (⟨"com/example/agouti/agouti/store/IndexBuilder$Notes", "kind", "(I)B"⟩ : MethodName)) (z := (⟨"com/example/agouti/agouti/store/IndexBuilder$Notes", "kind", "(I)B"⟩ : MethodName)) hown (mvT hZ (hw _ (List.mem_of_getElem? (i := 35) rfl))) (mvT hZ (hw _ (List.mem_of_getElem? (i := 36) rfl))) (notFace_of_selects (args := #[]) (mvT hZ (hw _ (List.mem_of_getElem? (i := 38) rfl)))) (mvT hZ (hw _ (List.mem_of_getElem? (i := 38) rfl))) (mvT hZ (hw _ (List.mem_of_getElem? (i := 37) rfl))) (by decide) (backOf (W := 0) (rmKind l Z a0 hw [] b197 (0 : Int32) (3 : Int32) (2 : Int32) [ka, kb, 0] [u2, u4, 0] [(.ref b145), .null, .null] [u3, u5, 0] ka T210.heap n0 Zq210 B210 (by decide) (by decide) rfl (by rw [e_ka]; exact own_nb _)) hZ (hw _ (List.mem_of_getElem? (i := 39) rfl)) (hw _ (List.mem_of_getElem? (i := 3) rfl)) (by decide) (by decide)) q214a q214c (g := (mkF m 219 #[iv u0, iv u1, iv u2, .val (.long u3), .second, iv u4, .val (.long u5), .second, iv (3 : Int32), iv ka, iv kb, rv b145, .val .null, rv b197, iv (0 : Int32), iv (1 : Int32), iv (2 : Int32), iv (0 : Int32)] [(.int (0 : Int32)), (.ref b197)])) rfl (by rw [hml]; rfl) (Steps.refl _) (argsL := [(.int (0 : Int32))]) (rest := []) (lenOf pd_3 rfl) rfl (by show 2 * 0 + _ ≤ _; exact Nat.le_of_eq rfl) (hb hby at_219) (fun _ _ => ⟨rfl, eq213, (by decide : 6 + 0 ≤ _), (by decide : 18 + 0 ≤ _)⟩)
        dsimp only [Pt.U, Pt.locs, Pt.cells, Pt.slots] at X214 l214 y214 z214 st214 hQ214
        subst y214 z214
        obtain ⟨rfl, Nq214, eq214⟩ := hQ214
        have N214 : Fr n0 L214 := by rw [l214]; exact Fr.app N213 Nq214
        obtain ⟨cq215, kq215, q215a, q215b, q215c⟩ := isOf hZ eq214 f212
        obtain ⟨_, _, ⟨T215, L215, k215, n215⟩, -, X215, ⟨Lc215, hQ215, l215, y215, z215⟩, st215⟩ := X214.virtualBack hx (y := (⟨"com/example/agouti/agouti/store/IndexBuilder$Notes", "node", "(I)I"⟩ : MethodName)) (z := (⟨"com/example/agouti/agouti/store/IndexBuilder$Notes", "node", "(I)I"⟩ : MethodName)) hown (mvT hZ (hw _ (List.mem_of_getElem? (i := 40) rfl))) (mvT hZ (hw _ (List.mem_of_getElem? (i := 41) rfl))) (notFace_of_selects (args := #[]) (mvT hZ (hw _ (List.mem_of_getElem? (i := 43) rfl)))) (mvT hZ (hw _ (List.mem_of_getElem? (i := 43) rfl))) (mvT hZ (hw _ (List.mem_of_getElem? (i := 42) rfl))) (by decide) (backOf (W := 0) (rmNode l Z a0 hw [] b197 (0 : Int32) (3 : Int32) (2 : Int32) [ka, kb, 0] [u2, u4, 0] [(.ref b145), .null, .null] [u3, u5, 0] u2 T210.heap n0 Zq210 B210 (by decide) (by decide) rfl) hZ (hw _ (List.mem_of_getElem? (i := 44) rfl)) (hw _ (List.mem_of_getElem? (i := 3) rfl)) (by decide) (by decide)) q215a q215c (g := (mkF m 230 #[iv u0, iv u1, iv u2, .val (.long u3), .second, iv u4, .val (.long u5), .second, iv (3 : Int32), iv ka, iv kb, rv b145, .val .null, rv b197, iv (0 : Int32), iv (1 : Int32), iv (2 : Int32), iv (0 : Int32)] [(.int (0 : Int32)), (.ref b197)])) rfl (by rw [hml]; rfl) (Steps.refl _) (argsL := [(.int (0 : Int32))]) (rest := []) (lenOf pd_4 rfl) rfl (by show 2 * 0 + _ ≤ _; exact Nat.le_of_eq rfl) (hb hby at_230) (fun _ _ => ⟨rfl, eq214, (by decide : 6 + 0 ≤ _), (by decide : 18 + 0 ≤ _)⟩)
        dsimp only [Pt.U, Pt.locs, Pt.cells, Pt.slots] at X215 l215 y215 z215 st215 hQ215
        subst y215 z215
        obtain ⟨rfl, Nq215, eq215⟩ := hQ215
        have N215 : Fr n0 L215 := by rw [l215]; exact Fr.app N214 Nq215
        obtain ⟨cq216, kq216, q216a, q216b, q216c⟩ := isOf hZ eq215 f212
        obtain ⟨_, _, ⟨T216, L216, k216, n216⟩, -, X216, ⟨Lc216, hQ216, l216, y216, z216⟩, st216⟩ := X215.virtualBack hx (y := (⟨"com/example/agouti/agouti/store/IndexBuilder$Notes", "value", "(I)[B"⟩ : MethodName)) (z := (⟨"com/example/agouti/agouti/store/IndexBuilder$Notes", "value", "(I)[B"⟩ : MethodName)) hown (mvT hZ (hw _ (List.mem_of_getElem? (i := 45) rfl))) (mvT hZ (hw _ (List.mem_of_getElem? (i := 46) rfl))) (notFace_of_selects (args := #[]) (mvT hZ (hw _ (List.mem_of_getElem? (i := 48) rfl)))) (mvT hZ (hw _ (List.mem_of_getElem? (i := 48) rfl))) (mvT hZ (hw _ (List.mem_of_getElem? (i := 47) rfl))) (by decide) (backOf (W := 0) (rmVal1 l Z a0 hw [] b197 (0 : Int32) (3 : Int32) (2 : Int32) [ka, kb, 0] [u2, u4, 0] [(.ref b145), .null, .null] [u3, u5, 0] b145 T210.heap n0 Zq210 B210 (by decide) (by decide) rfl) hZ (hw _ (List.mem_of_getElem? (i := 49) rfl)) (hw _ (List.mem_of_getElem? (i := 3) rfl)) (by decide) (by decide)) q216a q216c (g := (mkF m 240 #[iv u0, iv u1, iv u2, .val (.long u3), .second, iv u4, .val (.long u5), .second, iv (3 : Int32), iv ka, iv kb, rv b145, .val .null, rv b197, iv (0 : Int32), iv (1 : Int32), iv (2 : Int32), iv (0 : Int32)] [(.int (0 : Int32)), (.ref b197)])) rfl (by rw [hml]; rfl) (Steps.refl _) (argsL := [(.int (0 : Int32))]) (rest := []) (lenOf pd_5 rfl) rfl (by show 2 * 0 + _ ≤ _; exact Nat.le_of_eq rfl) (hb hby at_240) (fun _ _ => ⟨rfl, eq215, (by decide : 6 + 0 ≤ _), (by decide : 18 + 0 ≤ _)⟩)
        dsimp only [Pt.U, Pt.locs, Pt.cells, Pt.slots] at X216 l216 y216 z216 st216 hQ216
        subst y216 z216
        obtain ⟨rfl, Nq216, eq216⟩ := hQ216
        have N216 : Fr n0 L216 := by rw [l216]; exact Fr.app N215 Nq216
        obtain ⟨cq217, kq217, q217a, q217b, q217c⟩ := isOf hZ eq216 f212
        obtain ⟨_, _, ⟨T217, L217, k217, n217⟩, -, X217, ⟨Lc217, hQ217, l217, y217, z217⟩, st217⟩ := X216.virtualBack hx (y := (⟨"com/example/agouti/agouti/store/IndexBuilder$Notes", "hash", "(I)J"⟩ : MethodName)) (z := (⟨"com/example/agouti/agouti/store/IndexBuilder$Notes", "hash", "(I)J"⟩ : MethodName)) hown (mvT hZ (hw _ (List.mem_of_getElem? (i := 50) rfl))) (mvT hZ (hw _ (List.mem_of_getElem? (i := 51) rfl))) (notFace_of_selects (args := #[]) (mvT hZ (hw _ (List.mem_of_getElem? (i := 53) rfl)))) (mvT hZ (hw _ (List.mem_of_getElem? (i := 53) rfl))) (mvT hZ (hw _ (List.mem_of_getElem? (i := 52) rfl))) (by decide) (backOf (W := 0) (rmHash l Z a0 hw [] b197 (0 : Int32) (3 : Int32) (2 : Int32) [ka, kb, 0] [u2, u4, 0] [(.ref b145), .null, .null] [u3, u5, 0] u3 T210.heap n0 Zq210 B210 (by decide) (by decide) rfl) hZ (hw _ (List.mem_of_getElem? (i := 54) rfl)) (hw _ (List.mem_of_getElem? (i := 3) rfl)) (by decide) (by decide)) q217a q217c (g := (mkF m 251 #[iv u0, iv u1, iv u2, .val (.long u3), .second, iv u4, .val (.long u5), .second, iv (3 : Int32), iv ka, iv kb, rv b145, .val .null, rv b197, iv (0 : Int32), iv (1 : Int32), iv (2 : Int32), iv (0 : Int32)] [(.int (0 : Int32)), (.ref b197)])) rfl (by rw [hml]; rfl) (Steps.refl _) (argsL := [(.int (0 : Int32))]) (rest := []) (lenOf pd_6 rfl) rfl (by show 2 * 0 + _ ≤ _; exact Nat.le_of_eq rfl) (hb hby at_251) (fun _ _ => ⟨rfl, eq216, (by decide : 6 + 0 ≤ _), (by decide : 18 + 0 ≤ _)⟩)
        dsimp only [Pt.U, Pt.locs, Pt.cells, Pt.slots] at X217 l217 y217 z217 st217 hQ217
        subst y217 z217
        obtain ⟨rfl, Nq217, eq217⟩ := hQ217
        have N217 : Fr n0 L217 := by rw [l217]; exact Fr.app N216 Nq217
        obtain ⟨cq218, kq218, q218a, q218b, q218c⟩ := isOf hZ eq217 f212
        obtain ⟨_, _, ⟨T218, L218, k218, n218⟩, -, X218, ⟨Lc218, hQ218, l218, y218, z218⟩, st218⟩ := X217.virtualBack hx (y := (⟨"com/example/agouti/agouti/store/IndexBuilder$Notes", "kind", "(I)B"⟩ : MethodName)) (z := (⟨"com/example/agouti/agouti/store/IndexBuilder$Notes", "kind", "(I)B"⟩ : MethodName)) hown (mvT hZ (hw _ (List.mem_of_getElem? (i := 35) rfl))) (mvT hZ (hw _ (List.mem_of_getElem? (i := 36) rfl))) (notFace_of_selects (args := #[]) (mvT hZ (hw _ (List.mem_of_getElem? (i := 38) rfl)))) (mvT hZ (hw _ (List.mem_of_getElem? (i := 38) rfl))) (mvT hZ (hw _ (List.mem_of_getElem? (i := 37) rfl))) (by decide) (backOf (W := 0) (rmKind l Z a0 hw [] b197 (1 : Int32) (3 : Int32) (2 : Int32) [ka, kb, 0] [u2, u4, 0] [(.ref b145), .null, .null] [u3, u5, 0] kb T210.heap n0 Zq210 B210 (by decide) (by decide) rfl (by rw [e_kb]; exact own_nb _)) hZ (hw _ (List.mem_of_getElem? (i := 39) rfl)) (hw _ (List.mem_of_getElem? (i := 3) rfl)) (by decide) (by decide)) q218a q218c (g := (mkF m 280 #[iv u0, iv u1, iv u2, .val (.long u3), .second, iv u4, .val (.long u5), .second, iv (3 : Int32), iv ka, iv kb, rv b145, .val .null, rv b197, iv (0 : Int32), iv (1 : Int32), iv (2 : Int32), iv (0 : Int32)] [(.int (1 : Int32)), (.ref b197)])) rfl (by rw [hml]; rfl) (Steps.refl _) (argsL := [(.int (1 : Int32))]) (rest := []) (lenOf pd_3 rfl) rfl (by show 2 * 0 + _ ≤ _; exact Nat.le_of_eq rfl) (hb hby at_280) (fun _ _ => ⟨rfl, eq217, (by decide : 6 + 0 ≤ _), (by decide : 18 + 0 ≤ _)⟩)
        dsimp only [Pt.U, Pt.locs, Pt.cells, Pt.slots] at X218 l218 y218 z218 st218 hQ218
        subst y218 z218
        obtain ⟨rfl, Nq218, eq218⟩ := hQ218
        have N218 : Fr n0 L218 := by rw [l218]; exact Fr.app N217 Nq218
        obtain ⟨cq219, kq219, q219a, q219b, q219c⟩ := isOf hZ eq218 f212
        obtain ⟨_, _, ⟨T219, L219, k219, n219⟩, -, X219, ⟨Lc219, hQ219, l219, y219, z219⟩, st219⟩ := X218.virtualBack hx (y := (⟨"com/example/agouti/agouti/store/IndexBuilder$Notes", "node", "(I)I"⟩ : MethodName)) (z := (⟨"com/example/agouti/agouti/store/IndexBuilder$Notes", "node", "(I)I"⟩ : MethodName)) hown (mvT hZ (hw _ (List.mem_of_getElem? (i := 40) rfl))) (mvT hZ (hw _ (List.mem_of_getElem? (i := 41) rfl))) (notFace_of_selects (args := #[]) (mvT hZ (hw _ (List.mem_of_getElem? (i := 43) rfl)))) (mvT hZ (hw _ (List.mem_of_getElem? (i := 43) rfl))) (mvT hZ (hw _ (List.mem_of_getElem? (i := 42) rfl))) (by decide) (backOf (W := 0) (rmNode l Z a0 hw [] b197 (1 : Int32) (3 : Int32) (2 : Int32) [ka, kb, 0] [u2, u4, 0] [(.ref b145), .null, .null] [u3, u5, 0] u4 T210.heap n0 Zq210 B210 (by decide) (by decide) rfl) hZ (hw _ (List.mem_of_getElem? (i := 44) rfl)) (hw _ (List.mem_of_getElem? (i := 3) rfl)) (by decide) (by decide)) q219a q219c (g := (mkF m 291 #[iv u0, iv u1, iv u2, .val (.long u3), .second, iv u4, .val (.long u5), .second, iv (3 : Int32), iv ka, iv kb, rv b145, .val .null, rv b197, iv (0 : Int32), iv (1 : Int32), iv (2 : Int32), iv (0 : Int32)] [(.int (1 : Int32)), (.ref b197)])) rfl (by rw [hml]; rfl) (Steps.refl _) (argsL := [(.int (1 : Int32))]) (rest := []) (lenOf pd_4 rfl) rfl (by show 2 * 0 + _ ≤ _; exact Nat.le_of_eq rfl) (hb hby at_291) (fun _ _ => ⟨rfl, eq218, (by decide : 6 + 0 ≤ _), (by decide : 18 + 0 ≤ _)⟩)
        dsimp only [Pt.U, Pt.locs, Pt.cells, Pt.slots] at X219 l219 y219 z219 st219 hQ219
        subst y219 z219
        obtain ⟨rfl, Nq219, eq219⟩ := hQ219
        have N219 : Fr n0 L219 := by rw [l219]; exact Fr.app N218 Nq219
        obtain ⟨cq220, kq220, q220a, q220b, q220c⟩ := isOf hZ eq219 f212
        obtain ⟨_, _, ⟨T220, L220, k220, n220⟩, -, X220, ⟨Lc220, hQ220, l220, y220, z220⟩, st220⟩ := X219.virtualBack hx (y := (⟨"com/example/agouti/agouti/store/IndexBuilder$Notes", "value", "(I)[B"⟩ : MethodName)) (z := (⟨"com/example/agouti/agouti/store/IndexBuilder$Notes", "value", "(I)[B"⟩ : MethodName)) hown (mvT hZ (hw _ (List.mem_of_getElem? (i := 45) rfl))) (mvT hZ (hw _ (List.mem_of_getElem? (i := 46) rfl))) (notFace_of_selects (args := #[]) (mvT hZ (hw _ (List.mem_of_getElem? (i := 48) rfl)))) (mvT hZ (hw _ (List.mem_of_getElem? (i := 48) rfl))) (mvT hZ (hw _ (List.mem_of_getElem? (i := 47) rfl))) (by decide) (backOf (W := 0) (rmVal0 l Z a0 hw [] b197 (1 : Int32) (3 : Int32) (2 : Int32) [ka, kb, 0] [u2, u4, 0] [(.ref b145), .null, .null] [u3, u5, 0] T210.heap n0 Zq210 B210 (by decide) (by decide) rfl) hZ (hw _ (List.mem_of_getElem? (i := 49) rfl)) (hw _ (List.mem_of_getElem? (i := 3) rfl)) (by decide) (by decide)) q220a q220c (g := (mkF m 302 #[iv u0, iv u1, iv u2, .val (.long u3), .second, iv u4, .val (.long u5), .second, iv (3 : Int32), iv ka, iv kb, rv b145, .val .null, rv b197, iv (0 : Int32), iv (1 : Int32), iv (2 : Int32), iv (0 : Int32)] [(.int (1 : Int32)), (.ref b197)])) rfl (by rw [hml]; rfl) (Steps.refl _) (argsL := [(.int (1 : Int32))]) (rest := []) (lenOf pd_5 rfl) rfl (by show 2 * 0 + _ ≤ _; exact Nat.le_of_eq rfl) (hb hby at_302) (fun _ _ => ⟨rfl, eq219, (by decide : 6 + 0 ≤ _), (by decide : 18 + 0 ≤ _)⟩)
        dsimp only [Pt.U, Pt.locs, Pt.cells, Pt.slots] at X220 l220 y220 z220 st220 hQ220
        subst y220 z220
        obtain ⟨rfl, Nq220, eq220⟩ := hQ220
        have N220 : Fr n0 L220 := by rw [l220]; exact Fr.app N219 Nq220
        obtain ⟨cq221, kq221, q221a, q221b, q221c⟩ := isOf hZ eq220 f212
        obtain ⟨_, _, ⟨T221, L221, k221, n221⟩, -, X221, ⟨Lc221, hQ221, l221, y221, z221⟩, st221⟩ := X220.virtualBack hx (y := (⟨"com/example/agouti/agouti/store/IndexBuilder$Notes", "hash", "(I)J"⟩ : MethodName)) (z := (⟨"com/example/agouti/agouti/store/IndexBuilder$Notes", "hash", "(I)J"⟩ : MethodName)) hown (mvT hZ (hw _ (List.mem_of_getElem? (i := 50) rfl))) (mvT hZ (hw _ (List.mem_of_getElem? (i := 51) rfl))) (notFace_of_selects (args := #[]) (mvT hZ (hw _ (List.mem_of_getElem? (i := 53) rfl)))) (mvT hZ (hw _ (List.mem_of_getElem? (i := 53) rfl))) (mvT hZ (hw _ (List.mem_of_getElem? (i := 52) rfl))) (by decide) (backOf (W := 0) (rmHash l Z a0 hw [] b197 (1 : Int32) (3 : Int32) (2 : Int32) [ka, kb, 0] [u2, u4, 0] [(.ref b145), .null, .null] [u3, u5, 0] u5 T210.heap n0 Zq210 B210 (by decide) (by decide) rfl) hZ (hw _ (List.mem_of_getElem? (i := 54) rfl)) (hw _ (List.mem_of_getElem? (i := 3) rfl)) (by decide) (by decide)) q221a q221c (g := (mkF m 313 #[iv u0, iv u1, iv u2, .val (.long u3), .second, iv u4, .val (.long u5), .second, iv (3 : Int32), iv ka, iv kb, rv b145, .val .null, rv b197, iv (0 : Int32), iv (1 : Int32), iv (2 : Int32), iv (0 : Int32)] [(.int (1 : Int32)), (.ref b197)])) rfl (by rw [hml]; rfl) (Steps.refl _) (argsL := [(.int (1 : Int32))]) (rest := []) (lenOf pd_6 rfl) rfl (by show 2 * 0 + _ ≤ _; exact Nat.le_of_eq rfl) (hb hby at_313) (fun _ _ => ⟨rfl, eq220, (by decide : 6 + 0 ≤ _), (by decide : 18 + 0 ≤ _)⟩)
        dsimp only [Pt.U, Pt.locs, Pt.cells, Pt.slots] at X221 l221 y221 z221 st221 hQ221
        subst y221 z221
        obtain ⟨rfl, Nq221, eq221⟩ := hQ221
        have N221 : Fr n0 L221 := by rw [l221]; exact Fr.app N220 Nq221
        obtain ⟨fs, hr, hrun, hended, hW, hsame⟩ := X221.leave (v := some (.int (1 : Int32))) (fun h => by rw [Bd.returns] at h; cases h)
        refine ⟨_, _, S153 _ ?_, hrun, hended, _, _, rfl, ?_, ⟨_, rfl⟩, hW, hsame.mono (by decide) (by decide)⟩
        · skip
          show Steps p.tables e below (T147.setTop (mkF m 87 #[iv u0, iv u1, iv u2, .val (.long u3), .second, iv u4, .val (.long u5), .second, iv (3 : Int32), iv ka, iv kb, rv b145, .val .null, .unset, .unset, .unset, .unset, .unset] [])) _
          refine st197 _ ?_
          show Steps p.tables e below (T197.setTop (mkF m 90 #[iv u0, iv u1, iv u2, .val (.long u3), .second, iv u4, .val (.long u5), .second, iv (3 : Int32), iv ka, iv kb, rv b145, .val .null, .unset, .unset, .unset, .unset, .unset] [(.ref b197)])) _
          refine XS.dup X197.here hx rfl (hb hby at_90) rfl rfl ?_
          show Steps p.tables e below (T197.setTop (mkF m 91 #[iv u0, iv u1, iv u2, .val (.long u3), .second, iv u4, .val (.long u5), .second, iv (3 : Int32), iv ka, iv kb, rv b145, .val .null, .unset, .unset, .unset, .unset, .unset] [(.ref b197), (.ref b197)])) _
          refine XS.iload X197.here hx rfl (hb hby at_91) rfl ?_
          show Steps p.tables e below (T197.setTop (mkF m 93 #[iv u0, iv u1, iv u2, .val (.long u3), .second, iv u4, .val (.long u5), .second, iv (3 : Int32), iv ka, iv kb, rv b145, .val .null, .unset, .unset, .unset, .unset, .unset] [(.int (3 : Int32)), (.ref b197), (.ref b197)])) _
          refine st199.trans ?_
          show Steps p.tables e below (T199.setTop (mkF m 96 #[iv u0, iv u1, iv u2, .val (.long u3), .second, iv u4, .val (.long u5), .second, iv (3 : Int32), iv ka, iv kb, rv b145, .val .null, .unset, .unset, .unset, .unset, .unset] [(.ref b197)])) _
          refine XS.astore X199.here hx rfl (hb hby at_96) rfl rfl (l' := #[iv u0, iv u1, iv u2, .val (.long u3), .second, iv u4, .val (.long u5), .second, iv (3 : Int32), iv ka, iv kb, rv b145, .val .null, rv b197, .unset, .unset, .unset, .unset]) rfl ?_
          show Steps p.tables e below (T199.setTop (mkF m 98 #[iv u0, iv u1, iv u2, .val (.long u3), .second, iv u4, .val (.long u5), .second, iv (3 : Int32), iv ka, iv kb, rv b145, .val .null, rv b197, .unset, .unset, .unset, .unset] [])) _
          refine XS.aload X199.here hx rfl (hb hby at_98) rfl rfl ?_
          show Steps p.tables e below (T199.setTop (mkF m 100 #[iv u0, iv u1, iv u2, .val (.long u3), .second, iv u4, .val (.long u5), .second, iv (3 : Int32), iv ka, iv kb, rv b145, .val .null, rv b197, .unset, .unset, .unset, .unset] [(.ref b197)])) _
          refine XS.iload X199.here hx rfl (hb hby at_100) rfl ?_
          show Steps p.tables e below (T199.setTop (mkF m 102 #[iv u0, iv u1, iv u2, .val (.long u3), .second, iv u4, .val (.long u5), .second, iv (3 : Int32), iv ka, iv kb, rv b145, .val .null, rv b197, .unset, .unset, .unset, .unset] [(.int ka), (.ref b197)])) _
          refine XS.iloadN X199.here hx rfl (hb hby at_102) rfl ?_
          show Steps p.tables e below (T199.setTop (mkF m 103 #[iv u0, iv u1, iv u2, .val (.long u3), .second, iv u4, .val (.long u5), .second, iv (3 : Int32), iv ka, iv kb, rv b145, .val .null, rv b197, .unset, .unset, .unset, .unset] [(.int u2), (.int ka), (.ref b197)])) _
          refine XS.aload X199.here hx rfl (hb hby at_103) rfl rfl ?_
          show Steps p.tables e below (T199.setTop (mkF m 105 #[iv u0, iv u1, iv u2, .val (.long u3), .second, iv u4, .val (.long u5), .second, iv (3 : Int32), iv ka, iv kb, rv b145, .val .null, rv b197, .unset, .unset, .unset, .unset] [(.ref b145), (.int u2), (.int ka), (.ref b197)])) _
          refine XS.lloadN X199.here hx rfl (hb hby at_105) rfl ?_
          show Steps p.tables e below (T199.setTop (mkF m 106 #[iv u0, iv u1, iv u2, .val (.long u3), .second, iv u4, .val (.long u5), .second, iv (3 : Int32), iv ka, iv kb, rv b145, .val .null, rv b197, .unset, .unset, .unset, .unset] [(.long u3), (.ref b145), (.int u2), (.int ka), (.ref b197)])) _
          refine st207.trans ?_
          show Steps p.tables e below (T207.setTop (mkF m 109 #[iv u0, iv u1, iv u2, .val (.long u3), .second, iv u4, .val (.long u5), .second, iv (3 : Int32), iv ka, iv kb, rv b145, .val .null, rv b197, .unset, .unset, .unset, .unset] [(.int (0 : Int32))])) _
          refine XS.istore X207.here hx rfl (hb hby at_109) rfl (l' := #[iv u0, iv u1, iv u2, .val (.long u3), .second, iv u4, .val (.long u5), .second, iv (3 : Int32), iv ka, iv kb, rv b145, .val .null, rv b197, iv (0 : Int32), .unset, .unset, .unset]) rfl ?_
          show Steps p.tables e below (T207.setTop (mkF m 111 #[iv u0, iv u1, iv u2, .val (.long u3), .second, iv u4, .val (.long u5), .second, iv (3 : Int32), iv ka, iv kb, rv b145, .val .null, rv b197, iv (0 : Int32), .unset, .unset, .unset] [])) _
          refine XS.iload X207.here hx rfl (hb hby at_111) rfl ?_
          show Steps p.tables e below (T207.setTop (mkF m 113 #[iv u0, iv u1, iv u2, .val (.long u3), .second, iv u4, .val (.long u5), .second, iv (3 : Int32), iv ka, iv kb, rv b145, .val .null, rv b197, iv (0 : Int32), .unset, .unset, .unset] [(.int (0 : Int32))])) _
          refine XS.iload X207.here hx rfl (hb hby at_113) rfl ?_
          show Steps p.tables e below (T207.setTop (mkF m 115 #[iv u0, iv u1, iv u2, .val (.long u3), .second, iv u4, .val (.long u5), .second, iv (3 : Int32), iv ka, iv kb, rv b145, .val .null, rv b197, iv (0 : Int32), .unset, .unset, .unset] [(.int (3 : Int32)), (.int (0 : Int32))])) _
          refine XS.iconst X207.here hx rfl (hb hby at_115) ?_
          show Steps p.tables e below (T207.setTop (mkF m 116 #[iv u0, iv u1, iv u2, .val (.long u3), .second, iv u4, .val (.long u5), .second, iv (3 : Int32), iv ka, iv kb, rv b145, .val .null, rv b197, iv (0 : Int32), .unset, .unset, .unset] [(.int (1 : Int32)), (.int (3 : Int32)), (.int (0 : Int32))])) _
          refine XS.icmpYes X207.here hx rfl (pc0 := 116) (pc' := 123) rfl (hb hby at_116) rfl (feq (by decide : ¬ ((3 : Int32) = (1 : Int32)))).2 (by decide) (by decide) ?_
          show Steps p.tables e below (T207.setTop (mkF m 123 #[iv u0, iv u1, iv u2, .val (.long u3), .second, iv u4, .val (.long u5), .second, iv (3 : Int32), iv ka, iv kb, rv b145, .val .null, rv b197, iv (0 : Int32), .unset, .unset, .unset] [(.int (0 : Int32))])) _
          refine XS.iconst X207.here hx rfl (hb hby at_123) ?_
          show Steps p.tables e below (T207.setTop (mkF m 124 #[iv u0, iv u1, iv u2, .val (.long u3), .second, iv u4, .val (.long u5), .second, iv (3 : Int32), iv ka, iv kb, rv b145, .val .null, rv b197, iv (0 : Int32), .unset, .unset, .unset] [(.int (0 : Int32)), (.int (0 : Int32))])) _
          refine XS.icmpNo X207.here hx rfl (hb hby at_124) rfl (teq (by decide : (0 : Int32) = (0 : Int32))).2 ?_
          show Steps p.tables e below (T207.setTop (mkF m 127 #[iv u0, iv u1, iv u2, .val (.long u3), .second, iv u4, .val (.long u5), .second, iv (3 : Int32), iv ka, iv kb, rv b145, .val .null, rv b197, iv (0 : Int32), .unset, .unset, .unset] [])) _
          refine XS.iconst X207.here hx rfl (hb hby at_127) ?_
          show Steps p.tables e below (T207.setTop (mkF m 128 #[iv u0, iv u1, iv u2, .val (.long u3), .second, iv u4, .val (.long u5), .second, iv (3 : Int32), iv ka, iv kb, rv b145, .val .null, rv b197, iv (0 : Int32), .unset, .unset, .unset] [(.int (1 : Int32))])) _
          refine XS.goto X207.here hx rfl (pc0 := 128) (pc' := 132) rfl (hb hby at_128) (by decide) (by decide) ?_
          show Steps p.tables e below (T207.setTop (mkF m 132 #[iv u0, iv u1, iv u2, .val (.long u3), .second, iv u4, .val (.long u5), .second, iv (3 : Int32), iv ka, iv kb, rv b145, .val .null, rv b197, iv (0 : Int32), .unset, .unset, .unset] [(.int (1 : Int32))])) _
          refine XS.istore X207.here hx rfl (hb hby at_132) rfl (l' := #[iv u0, iv u1, iv u2, .val (.long u3), .second, iv u4, .val (.long u5), .second, iv (3 : Int32), iv ka, iv kb, rv b145, .val .null, rv b197, iv (0 : Int32), iv (1 : Int32), .unset, .unset]) rfl ?_
          show Steps p.tables e below (T207.setTop (mkF m 134 #[iv u0, iv u1, iv u2, .val (.long u3), .second, iv u4, .val (.long u5), .second, iv (3 : Int32), iv ka, iv kb, rv b145, .val .null, rv b197, iv (0 : Int32), iv (1 : Int32), .unset, .unset] [])) _
          refine XS.iconst X207.here hx rfl (hb hby at_134) ?_
          show Steps p.tables e below (T207.setTop (mkF m 135 #[iv u0, iv u1, iv u2, .val (.long u3), .second, iv u4, .val (.long u5), .second, iv (3 : Int32), iv ka, iv kb, rv b145, .val .null, rv b197, iv (0 : Int32), iv (1 : Int32), .unset, .unset] [(.int (1 : Int32))])) _
          refine XS.istore X207.here hx rfl (hb hby at_135) rfl (l' := #[iv u0, iv u1, iv u2, .val (.long u3), .second, iv u4, .val (.long u5), .second, iv (3 : Int32), iv ka, iv kb, rv b145, .val .null, rv b197, iv (0 : Int32), iv (1 : Int32), iv (1 : Int32), .unset]) rfl ?_
          show Steps p.tables e below (T207.setTop (mkF m 137 #[iv u0, iv u1, iv u2, .val (.long u3), .second, iv u4, .val (.long u5), .second, iv (3 : Int32), iv ka, iv kb, rv b145, .val .null, rv b197, iv (0 : Int32), iv (1 : Int32), iv (1 : Int32), .unset] [])) _
          refine XS.iload X207.here hx rfl (hb hby at_137) rfl ?_
          show Steps p.tables e below (T207.setTop (mkF m 139 #[iv u0, iv u1, iv u2, .val (.long u3), .second, iv u4, .val (.long u5), .second, iv (3 : Int32), iv ka, iv kb, rv b145, .val .null, rv b197, iv (0 : Int32), iv (1 : Int32), iv (1 : Int32), .unset] [(.int (3 : Int32))])) _
          refine XS.iconst X207.here hx rfl (hb hby at_139) ?_
          show Steps p.tables e below (T207.setTop (mkF m 140 #[iv u0, iv u1, iv u2, .val (.long u3), .second, iv u4, .val (.long u5), .second, iv (3 : Int32), iv ka, iv kb, rv b145, .val .null, rv b197, iv (0 : Int32), iv (1 : Int32), iv (1 : Int32), .unset] [(.int (2 : Int32)), (.int (3 : Int32))])) _
          refine XS.icmpNo X207.here hx rfl (hb hby at_140) rfl (flt (by decide : ¬ ((3 : Int32) < (2 : Int32)))).1 ?_
          show Steps p.tables e below (T207.setTop (mkF m 143 #[iv u0, iv u1, iv u2, .val (.long u3), .second, iv u4, .val (.long u5), .second, iv (3 : Int32), iv ka, iv kb, rv b145, .val .null, rv b197, iv (0 : Int32), iv (1 : Int32), iv (1 : Int32), .unset] [])) _
          refine XS.aload X207.here hx rfl (hb hby at_143) rfl rfl ?_
          show Steps p.tables e below (T207.setTop (mkF m 145 #[iv u0, iv u1, iv u2, .val (.long u3), .second, iv u4, .val (.long u5), .second, iv (3 : Int32), iv ka, iv kb, rv b145, .val .null, rv b197, iv (0 : Int32), iv (1 : Int32), iv (1 : Int32), .unset] [(.ref b197)])) _
          refine XS.iload X207.here hx rfl (hb hby at_145) rfl ?_
          show Steps p.tables e below (T207.setTop (mkF m 147 #[iv u0, iv u1, iv u2, .val (.long u3), .second, iv u4, .val (.long u5), .second, iv (3 : Int32), iv ka, iv kb, rv b145, .val .null, rv b197, iv (0 : Int32), iv (1 : Int32), iv (1 : Int32), .unset] [(.int kb), (.ref b197)])) _
          refine XS.iload X207.here hx rfl (hb hby at_147) rfl ?_
          show Steps p.tables e below (T207.setTop (mkF m 149 #[iv u0, iv u1, iv u2, .val (.long u3), .second, iv u4, .val (.long u5), .second, iv (3 : Int32), iv ka, iv kb, rv b145, .val .null, rv b197, iv (0 : Int32), iv (1 : Int32), iv (1 : Int32), .unset] [(.int u4), (.int kb), (.ref b197)])) _
          refine XS.aload X207.here hx rfl (hb hby at_149) rfl rfl ?_
          show Steps p.tables e below (T207.setTop (mkF m 151 #[iv u0, iv u1, iv u2, .val (.long u3), .second, iv u4, .val (.long u5), .second, iv (3 : Int32), iv ka, iv kb, rv b145, .val .null, rv b197, iv (0 : Int32), iv (1 : Int32), iv (1 : Int32), .unset] [.null, (.int u4), (.int kb), (.ref b197)])) _
          refine XS.lload X207.here hx rfl (hb hby at_151) rfl ?_
          show Steps p.tables e below (T207.setTop (mkF m 153 #[iv u0, iv u1, iv u2, .val (.long u3), .second, iv u4, .val (.long u5), .second, iv (3 : Int32), iv ka, iv kb, rv b145, .val .null, rv b197, iv (0 : Int32), iv (1 : Int32), iv (1 : Int32), .unset] [(.long u5), .null, (.int u4), (.int kb), (.ref b197)])) _
          refine st210.trans ?_
          show Steps p.tables e below (T210.setTop (mkF m 156 #[iv u0, iv u1, iv u2, .val (.long u3), .second, iv u4, .val (.long u5), .second, iv (3 : Int32), iv ka, iv kb, rv b145, .val .null, rv b197, iv (0 : Int32), iv (1 : Int32), iv (1 : Int32), .unset] [(.int (0 : Int32))])) _
          refine XS.istore X210.here hx rfl (hb hby at_156) rfl (l' := #[iv u0, iv u1, iv u2, .val (.long u3), .second, iv u4, .val (.long u5), .second, iv (3 : Int32), iv ka, iv kb, rv b145, .val .null, rv b197, iv (0 : Int32), iv (1 : Int32), iv (1 : Int32), iv (0 : Int32)]) rfl ?_
          show Steps p.tables e below (T210.setTop (mkF m 158 #[iv u0, iv u1, iv u2, .val (.long u3), .second, iv u4, .val (.long u5), .second, iv (3 : Int32), iv ka, iv kb, rv b145, .val .null, rv b197, iv (0 : Int32), iv (1 : Int32), iv (1 : Int32), iv (0 : Int32)] [])) _
          refine XS.iload X210.here hx rfl (hb hby at_158) rfl ?_
          show Steps p.tables e below (T210.setTop (mkF m 160 #[iv u0, iv u1, iv u2, .val (.long u3), .second, iv u4, .val (.long u5), .second, iv (3 : Int32), iv ka, iv kb, rv b145, .val .null, rv b197, iv (0 : Int32), iv (1 : Int32), iv (1 : Int32), iv (0 : Int32)] [(.int (1 : Int32))])) _
          refine XS.ifNo X210.here hx rfl (hb hby at_160) rfl ((if0 _ _).trans (feq (by decide : ¬ ((1 : Int32) = (0 : Int32)))).1) ?_
          show Steps p.tables e below (T210.setTop (mkF m 163 #[iv u0, iv u1, iv u2, .val (.long u3), .second, iv u4, .val (.long u5), .second, iv (3 : Int32), iv ka, iv kb, rv b145, .val .null, rv b197, iv (0 : Int32), iv (1 : Int32), iv (1 : Int32), iv (0 : Int32)] [])) _
          refine XS.iload X210.here hx rfl (hb hby at_163) rfl ?_
          show Steps p.tables e below (T210.setTop (mkF m 165 #[iv u0, iv u1, iv u2, .val (.long u3), .second, iv u4, .val (.long u5), .second, iv (3 : Int32), iv ka, iv kb, rv b145, .val .null, rv b197, iv (0 : Int32), iv (1 : Int32), iv (1 : Int32), iv (0 : Int32)] [(.int (0 : Int32))])) _
          refine XS.iload X210.here hx rfl (hb hby at_165) rfl ?_
          show Steps p.tables e below (T210.setTop (mkF m 167 #[iv u0, iv u1, iv u2, .val (.long u3), .second, iv u4, .val (.long u5), .second, iv (3 : Int32), iv ka, iv kb, rv b145, .val .null, rv b197, iv (0 : Int32), iv (1 : Int32), iv (1 : Int32), iv (0 : Int32)] [(.int (3 : Int32)), (.int (0 : Int32))])) _
          refine XS.iconst X210.here hx rfl (hb hby at_167) ?_
          show Steps p.tables e below (T210.setTop (mkF m 168 #[iv u0, iv u1, iv u2, .val (.long u3), .second, iv u4, .val (.long u5), .second, iv (3 : Int32), iv ka, iv kb, rv b145, .val .null, rv b197, iv (0 : Int32), iv (1 : Int32), iv (1 : Int32), iv (0 : Int32)] [(.int (2 : Int32)), (.int (3 : Int32)), (.int (0 : Int32))])) _
          refine XS.icmpYes X210.here hx rfl (pc0 := 168) (pc' := 175) rfl (hb hby at_168) rfl (feq (by decide : ¬ ((3 : Int32) = (2 : Int32)))).2 (by decide) (by decide) ?_
          show Steps p.tables e below (T210.setTop (mkF m 175 #[iv u0, iv u1, iv u2, .val (.long u3), .second, iv u4, .val (.long u5), .second, iv (3 : Int32), iv ka, iv kb, rv b145, .val .null, rv b197, iv (0 : Int32), iv (1 : Int32), iv (1 : Int32), iv (0 : Int32)] [(.int (0 : Int32))])) _
          refine XS.iconst X210.here hx rfl (hb hby at_175) ?_
          show Steps p.tables e below (T210.setTop (mkF m 176 #[iv u0, iv u1, iv u2, .val (.long u3), .second, iv u4, .val (.long u5), .second, iv (3 : Int32), iv ka, iv kb, rv b145, .val .null, rv b197, iv (0 : Int32), iv (1 : Int32), iv (1 : Int32), iv (0 : Int32)] [(.int (0 : Int32)), (.int (0 : Int32))])) _
          refine XS.icmpNo X210.here hx rfl (hb hby at_176) rfl (teq (by decide : (0 : Int32) = (0 : Int32))).2 ?_
          show Steps p.tables e below (T210.setTop (mkF m 179 #[iv u0, iv u1, iv u2, .val (.long u3), .second, iv u4, .val (.long u5), .second, iv (3 : Int32), iv ka, iv kb, rv b145, .val .null, rv b197, iv (0 : Int32), iv (1 : Int32), iv (1 : Int32), iv (0 : Int32)] [])) _
          refine XS.iconst X210.here hx rfl (hb hby at_179) ?_
          show Steps p.tables e below (T210.setTop (mkF m 180 #[iv u0, iv u1, iv u2, .val (.long u3), .second, iv u4, .val (.long u5), .second, iv (3 : Int32), iv ka, iv kb, rv b145, .val .null, rv b197, iv (0 : Int32), iv (1 : Int32), iv (1 : Int32), iv (0 : Int32)] [(.int (1 : Int32))])) _
          refine XS.goto X210.here hx rfl (pc0 := 180) (pc' := 184) rfl (hb hby at_180) (by decide) (by decide) ?_
          show Steps p.tables e below (T210.setTop (mkF m 184 #[iv u0, iv u1, iv u2, .val (.long u3), .second, iv u4, .val (.long u5), .second, iv (3 : Int32), iv ka, iv kb, rv b145, .val .null, rv b197, iv (0 : Int32), iv (1 : Int32), iv (1 : Int32), iv (0 : Int32)] [(.int (1 : Int32))])) _
          refine XS.istore X210.here hx rfl (hb hby at_184) rfl (l' := #[iv u0, iv u1, iv u2, .val (.long u3), .second, iv u4, .val (.long u5), .second, iv (3 : Int32), iv ka, iv kb, rv b145, .val .null, rv b197, iv (0 : Int32), iv (1 : Int32), iv (1 : Int32), iv (0 : Int32)]) rfl ?_
          show Steps p.tables e below (T210.setTop (mkF m 186 #[iv u0, iv u1, iv u2, .val (.long u3), .second, iv u4, .val (.long u5), .second, iv (3 : Int32), iv ka, iv kb, rv b145, .val .null, rv b197, iv (0 : Int32), iv (1 : Int32), iv (1 : Int32), iv (0 : Int32)] [])) _
          refine XS.iconst X210.here hx rfl (hb hby at_186) ?_
          show Steps p.tables e below (T210.setTop (mkF m 187 #[iv u0, iv u1, iv u2, .val (.long u3), .second, iv u4, .val (.long u5), .second, iv (3 : Int32), iv ka, iv kb, rv b145, .val .null, rv b197, iv (0 : Int32), iv (1 : Int32), iv (1 : Int32), iv (0 : Int32)] [(.int (2 : Int32))])) _
          refine XS.istore X210.here hx rfl (hb hby at_187) rfl (l' := #[iv u0, iv u1, iv u2, .val (.long u3), .second, iv u4, .val (.long u5), .second, iv (3 : Int32), iv ka, iv kb, rv b145, .val .null, rv b197, iv (0 : Int32), iv (1 : Int32), iv (2 : Int32), iv (0 : Int32)]) rfl ?_
          show Steps p.tables e below (T210.setTop (mkF m 189 #[iv u0, iv u1, iv u2, .val (.long u3), .second, iv u4, .val (.long u5), .second, iv (3 : Int32), iv ka, iv kb, rv b145, .val .null, rv b197, iv (0 : Int32), iv (1 : Int32), iv (2 : Int32), iv (0 : Int32)] [])) _
          refine XS.iload X210.here hx rfl (hb hby at_189) rfl ?_
          show Steps p.tables e below (T210.setTop (mkF m 191 #[iv u0, iv u1, iv u2, .val (.long u3), .second, iv u4, .val (.long u5), .second, iv (3 : Int32), iv ka, iv kb, rv b145, .val .null, rv b197, iv (0 : Int32), iv (1 : Int32), iv (2 : Int32), iv (0 : Int32)] [(.int (1 : Int32))])) _
          refine XS.ifNo X210.here hx rfl (hb hby at_191) rfl ((if0 _ _).trans (feq (by decide : ¬ ((1 : Int32) = (0 : Int32)))).1) ?_
          show Steps p.tables e below (T210.setTop (mkF m 194 #[iv u0, iv u1, iv u2, .val (.long u3), .second, iv u4, .val (.long u5), .second, iv (3 : Int32), iv ka, iv kb, rv b145, .val .null, rv b197, iv (0 : Int32), iv (1 : Int32), iv (2 : Int32), iv (0 : Int32)] [])) _
          refine XS.aload X210.here hx rfl (hb hby at_194) rfl rfl ?_
          show Steps p.tables e below (T210.setTop (mkF m 196 #[iv u0, iv u1, iv u2, .val (.long u3), .second, iv u4, .val (.long u5), .second, iv (3 : Int32), iv ka, iv kb, rv b145, .val .null, rv b197, iv (0 : Int32), iv (1 : Int32), iv (2 : Int32), iv (0 : Int32)] [(.ref b197)])) _
          refine st213.trans ?_
          show Steps p.tables e below (T213.setTop (mkF m 199 #[iv u0, iv u1, iv u2, .val (.long u3), .second, iv u4, .val (.long u5), .second, iv (3 : Int32), iv ka, iv kb, rv b145, .val .null, rv b197, iv (0 : Int32), iv (1 : Int32), iv (2 : Int32), iv (0 : Int32)] [(.int (2 : Int32))])) _
          refine XS.iload X213.here hx rfl (hb hby at_199) rfl ?_
          show Steps p.tables e below (T213.setTop (mkF m 201 #[iv u0, iv u1, iv u2, .val (.long u3), .second, iv u4, .val (.long u5), .second, iv (3 : Int32), iv ka, iv kb, rv b145, .val .null, rv b197, iv (0 : Int32), iv (1 : Int32), iv (2 : Int32), iv (0 : Int32)] [(.int (2 : Int32)), (.int (2 : Int32))])) _
          refine XS.icmpNo X213.here hx rfl (hb hby at_201) rfl (teq (by decide : (2 : Int32) = (2 : Int32))).2 ?_
          show Steps p.tables e below (T213.setTop (mkF m 204 #[iv u0, iv u1, iv u2, .val (.long u3), .second, iv u4, .val (.long u5), .second, iv (3 : Int32), iv ka, iv kb, rv b145, .val .null, rv b197, iv (0 : Int32), iv (1 : Int32), iv (2 : Int32), iv (0 : Int32)] [])) _
          refine XS.iconst X213.here hx rfl (hb hby at_204) ?_
          show Steps p.tables e below (T213.setTop (mkF m 205 #[iv u0, iv u1, iv u2, .val (.long u3), .second, iv u4, .val (.long u5), .second, iv (3 : Int32), iv ka, iv kb, rv b145, .val .null, rv b197, iv (0 : Int32), iv (1 : Int32), iv (2 : Int32), iv (0 : Int32)] [(.int (1 : Int32))])) _
          refine XS.goto X213.here hx rfl (pc0 := 205) (pc' := 209) rfl (hb hby at_205) (by decide) (by decide) ?_
          show Steps p.tables e below (T213.setTop (mkF m 209 #[iv u0, iv u1, iv u2, .val (.long u3), .second, iv u4, .val (.long u5), .second, iv (3 : Int32), iv ka, iv kb, rv b145, .val .null, rv b197, iv (0 : Int32), iv (1 : Int32), iv (2 : Int32), iv (0 : Int32)] [(.int (1 : Int32))])) _
          refine XS.istore X213.here hx rfl (hb hby at_209) rfl (l' := #[iv u0, iv u1, iv u2, .val (.long u3), .second, iv u4, .val (.long u5), .second, iv (3 : Int32), iv ka, iv kb, rv b145, .val .null, rv b197, iv (0 : Int32), iv (1 : Int32), iv (2 : Int32), iv (0 : Int32)]) rfl ?_
          show Steps p.tables e below (T213.setTop (mkF m 211 #[iv u0, iv u1, iv u2, .val (.long u3), .second, iv u4, .val (.long u5), .second, iv (3 : Int32), iv ka, iv kb, rv b145, .val .null, rv b197, iv (0 : Int32), iv (1 : Int32), iv (2 : Int32), iv (0 : Int32)] [])) _
          refine XS.iload X213.here hx rfl (hb hby at_211) rfl ?_
          show Steps p.tables e below (T213.setTop (mkF m 213 #[iv u0, iv u1, iv u2, .val (.long u3), .second, iv u4, .val (.long u5), .second, iv (3 : Int32), iv ka, iv kb, rv b145, .val .null, rv b197, iv (0 : Int32), iv (1 : Int32), iv (2 : Int32), iv (0 : Int32)] [(.int (1 : Int32))])) _
          refine XS.ifNo X213.here hx rfl (hb hby at_213) rfl ((if0 _ _).trans (feq (by decide : ¬ ((1 : Int32) = (0 : Int32)))).1) ?_
          show Steps p.tables e below (T213.setTop (mkF m 216 #[iv u0, iv u1, iv u2, .val (.long u3), .second, iv u4, .val (.long u5), .second, iv (3 : Int32), iv ka, iv kb, rv b145, .val .null, rv b197, iv (0 : Int32), iv (1 : Int32), iv (2 : Int32), iv (0 : Int32)] [])) _
          refine XS.aload X213.here hx rfl (hb hby at_216) rfl rfl ?_
          show Steps p.tables e below (T213.setTop (mkF m 218 #[iv u0, iv u1, iv u2, .val (.long u3), .second, iv u4, .val (.long u5), .second, iv (3 : Int32), iv ka, iv kb, rv b145, .val .null, rv b197, iv (0 : Int32), iv (1 : Int32), iv (2 : Int32), iv (0 : Int32)] [(.ref b197)])) _
          refine XS.iconst X213.here hx rfl (hb hby at_218) ?_
          show Steps p.tables e below (T213.setTop (mkF m 219 #[iv u0, iv u1, iv u2, .val (.long u3), .second, iv u4, .val (.long u5), .second, iv (3 : Int32), iv ka, iv kb, rv b145, .val .null, rv b197, iv (0 : Int32), iv (1 : Int32), iv (2 : Int32), iv (0 : Int32)] [(.int (0 : Int32)), (.ref b197)])) _
          refine st214.trans ?_
          show Steps p.tables e below (T214.setTop (mkF m 222 #[iv u0, iv u1, iv u2, .val (.long u3), .second, iv u4, .val (.long u5), .second, iv (3 : Int32), iv ka, iv kb, rv b145, .val .null, rv b197, iv (0 : Int32), iv (1 : Int32), iv (2 : Int32), iv (0 : Int32)] [(.int ka)])) _
          refine XS.iload X214.here hx rfl (hb hby at_222) rfl ?_
          show Steps p.tables e below (T214.setTop (mkF m 224 #[iv u0, iv u1, iv u2, .val (.long u3), .second, iv u4, .val (.long u5), .second, iv (3 : Int32), iv ka, iv kb, rv b145, .val .null, rv b197, iv (0 : Int32), iv (1 : Int32), iv (2 : Int32), iv (0 : Int32)] [(.int ka), (.int ka)])) _
          refine XS.icmpNo X214.here hx rfl (hb hby at_224) rfl (teq rfl).2 ?_
          show Steps p.tables e below (T214.setTop (mkF m 227 #[iv u0, iv u1, iv u2, .val (.long u3), .second, iv u4, .val (.long u5), .second, iv (3 : Int32), iv ka, iv kb, rv b145, .val .null, rv b197, iv (0 : Int32), iv (1 : Int32), iv (2 : Int32), iv (0 : Int32)] [])) _
          refine XS.aload X214.here hx rfl (hb hby at_227) rfl rfl ?_
          show Steps p.tables e below (T214.setTop (mkF m 229 #[iv u0, iv u1, iv u2, .val (.long u3), .second, iv u4, .val (.long u5), .second, iv (3 : Int32), iv ka, iv kb, rv b145, .val .null, rv b197, iv (0 : Int32), iv (1 : Int32), iv (2 : Int32), iv (0 : Int32)] [(.ref b197)])) _
          refine XS.iconst X214.here hx rfl (hb hby at_229) ?_
          show Steps p.tables e below (T214.setTop (mkF m 230 #[iv u0, iv u1, iv u2, .val (.long u3), .second, iv u4, .val (.long u5), .second, iv (3 : Int32), iv ka, iv kb, rv b145, .val .null, rv b197, iv (0 : Int32), iv (1 : Int32), iv (2 : Int32), iv (0 : Int32)] [(.int (0 : Int32)), (.ref b197)])) _
          refine st215.trans ?_
          show Steps p.tables e below (T215.setTop (mkF m 233 #[iv u0, iv u1, iv u2, .val (.long u3), .second, iv u4, .val (.long u5), .second, iv (3 : Int32), iv ka, iv kb, rv b145, .val .null, rv b197, iv (0 : Int32), iv (1 : Int32), iv (2 : Int32), iv (0 : Int32)] [(.int u2)])) _
          refine XS.iloadN X215.here hx rfl (hb hby at_233) rfl ?_
          show Steps p.tables e below (T215.setTop (mkF m 234 #[iv u0, iv u1, iv u2, .val (.long u3), .second, iv u4, .val (.long u5), .second, iv (3 : Int32), iv ka, iv kb, rv b145, .val .null, rv b197, iv (0 : Int32), iv (1 : Int32), iv (2 : Int32), iv (0 : Int32)] [(.int u2), (.int u2)])) _
          refine XS.icmpNo X215.here hx rfl (hb hby at_234) rfl (teq rfl).2 ?_
          show Steps p.tables e below (T215.setTop (mkF m 237 #[iv u0, iv u1, iv u2, .val (.long u3), .second, iv u4, .val (.long u5), .second, iv (3 : Int32), iv ka, iv kb, rv b145, .val .null, rv b197, iv (0 : Int32), iv (1 : Int32), iv (2 : Int32), iv (0 : Int32)] [])) _
          refine XS.aload X215.here hx rfl (hb hby at_237) rfl rfl ?_
          show Steps p.tables e below (T215.setTop (mkF m 239 #[iv u0, iv u1, iv u2, .val (.long u3), .second, iv u4, .val (.long u5), .second, iv (3 : Int32), iv ka, iv kb, rv b145, .val .null, rv b197, iv (0 : Int32), iv (1 : Int32), iv (2 : Int32), iv (0 : Int32)] [(.ref b197)])) _
          refine XS.iconst X215.here hx rfl (hb hby at_239) ?_
          show Steps p.tables e below (T215.setTop (mkF m 240 #[iv u0, iv u1, iv u2, .val (.long u3), .second, iv u4, .val (.long u5), .second, iv (3 : Int32), iv ka, iv kb, rv b145, .val .null, rv b197, iv (0 : Int32), iv (1 : Int32), iv (2 : Int32), iv (0 : Int32)] [(.int (0 : Int32)), (.ref b197)])) _
          refine st216.trans ?_
          show Steps p.tables e below (T216.setTop (mkF m 243 #[iv u0, iv u1, iv u2, .val (.long u3), .second, iv u4, .val (.long u5), .second, iv (3 : Int32), iv ka, iv kb, rv b145, .val .null, rv b197, iv (0 : Int32), iv (1 : Int32), iv (2 : Int32), iv (0 : Int32)] [(.ref b145)])) _
          refine XS.aload X216.here hx rfl (hb hby at_243) rfl rfl ?_
          show Steps p.tables e below (T216.setTop (mkF m 245 #[iv u0, iv u1, iv u2, .val (.long u3), .second, iv u4, .val (.long u5), .second, iv (3 : Int32), iv ka, iv kb, rv b145, .val .null, rv b197, iv (0 : Int32), iv (1 : Int32), iv (2 : Int32), iv (0 : Int32)] [(.ref b145), (.ref b145)])) _
          refine Jvm.RoadKit.acmp (g := (mkF m 245 #[iv u0, iv u1, iv u2, .val (.long u3), .second, iv u4, .val (.long u5), .second, iv (3 : Int32), iv ka, iv kb, rv b145, .val .null, rv b197, iv (0 : Int32), iv (1 : Int32), iv (2 : Int32), iv (0 : Int32)] [(.ref b145), (.ref b145)])) X216 hx rfl rfl rfl (pc0 := 245) (pc' := 248) (same := true) rfl (hb hby at_245) rfl (decide_eq_true rfl) (by decide) (by decide) ?_
          show Steps p.tables e below (T216.setTop (mkF m 248 #[iv u0, iv u1, iv u2, .val (.long u3), .second, iv u4, .val (.long u5), .second, iv (3 : Int32), iv ka, iv kb, rv b145, .val .null, rv b197, iv (0 : Int32), iv (1 : Int32), iv (2 : Int32), iv (0 : Int32)] [])) _
          refine XS.aload X216.here hx rfl (hb hby at_248) rfl rfl ?_
          show Steps p.tables e below (T216.setTop (mkF m 250 #[iv u0, iv u1, iv u2, .val (.long u3), .second, iv u4, .val (.long u5), .second, iv (3 : Int32), iv ka, iv kb, rv b145, .val .null, rv b197, iv (0 : Int32), iv (1 : Int32), iv (2 : Int32), iv (0 : Int32)] [(.ref b197)])) _
          refine XS.iconst X216.here hx rfl (hb hby at_250) ?_
          show Steps p.tables e below (T216.setTop (mkF m 251 #[iv u0, iv u1, iv u2, .val (.long u3), .second, iv u4, .val (.long u5), .second, iv (3 : Int32), iv ka, iv kb, rv b145, .val .null, rv b197, iv (0 : Int32), iv (1 : Int32), iv (2 : Int32), iv (0 : Int32)] [(.int (0 : Int32)), (.ref b197)])) _
          refine st217.trans ?_
          show Steps p.tables e below (T217.setTop (mkF m 254 #[iv u0, iv u1, iv u2, .val (.long u3), .second, iv u4, .val (.long u5), .second, iv (3 : Int32), iv ka, iv kb, rv b145, .val .null, rv b197, iv (0 : Int32), iv (1 : Int32), iv (2 : Int32), iv (0 : Int32)] [(.long u3)])) _
          refine XS.lloadN X217.here hx rfl (hb hby at_254) rfl ?_
          show Steps p.tables e below (T217.setTop (mkF m 255 #[iv u0, iv u1, iv u2, .val (.long u3), .second, iv u4, .val (.long u5), .second, iv (3 : Int32), iv ka, iv kb, rv b145, .val .null, rv b197, iv (0 : Int32), iv (1 : Int32), iv (2 : Int32), iv (0 : Int32)] [(.long u3), (.long u3)])) _
          refine XS.lcmp X217.here hx rfl (hb hby at_255) rfl ?_
          show Steps p.tables e below (T217.setTop (mkF m 256 #[iv u0, iv u1, iv u2, .val (.long u3), .second, iv u4, .val (.long u5), .second, iv (3 : Int32), iv ka, iv kb, rv b145, .val .null, rv b197, iv (0 : Int32), iv (1 : Int32), iv (2 : Int32), iv (0 : Int32)] [(.int (lcmpW u3 u3))])) _
          refine XS.ifNo X217.here hx rfl (hb hby at_256) rfl ((if0 _ _).trans (teq ((lw_eq _ _).mpr rfl)).2) ?_
          show Steps p.tables e below (T217.setTop (mkF m 259 #[iv u0, iv u1, iv u2, .val (.long u3), .second, iv u4, .val (.long u5), .second, iv (3 : Int32), iv ka, iv kb, rv b145, .val .null, rv b197, iv (0 : Int32), iv (1 : Int32), iv (2 : Int32), iv (0 : Int32)] [])) _
          refine XS.iconst X217.here hx rfl (hb hby at_259) ?_
          show Steps p.tables e below (T217.setTop (mkF m 260 #[iv u0, iv u1, iv u2, .val (.long u3), .second, iv u4, .val (.long u5), .second, iv (3 : Int32), iv ka, iv kb, rv b145, .val .null, rv b197, iv (0 : Int32), iv (1 : Int32), iv (2 : Int32), iv (0 : Int32)] [(.int (1 : Int32))])) _
          refine XS.goto X217.here hx rfl (pc0 := 260) (pc' := 264) rfl (hb hby at_260) (by decide) (by decide) ?_
          show Steps p.tables e below (T217.setTop (mkF m 264 #[iv u0, iv u1, iv u2, .val (.long u3), .second, iv u4, .val (.long u5), .second, iv (3 : Int32), iv ka, iv kb, rv b145, .val .null, rv b197, iv (0 : Int32), iv (1 : Int32), iv (2 : Int32), iv (0 : Int32)] [(.int (1 : Int32))])) _
          refine XS.istore X217.here hx rfl (hb hby at_264) rfl (l' := #[iv u0, iv u1, iv u2, .val (.long u3), .second, iv u4, .val (.long u5), .second, iv (3 : Int32), iv ka, iv kb, rv b145, .val .null, rv b197, iv (0 : Int32), iv (1 : Int32), iv (2 : Int32), iv (0 : Int32)]) rfl ?_
          show Steps p.tables e below (T217.setTop (mkF m 266 #[iv u0, iv u1, iv u2, .val (.long u3), .second, iv u4, .val (.long u5), .second, iv (3 : Int32), iv ka, iv kb, rv b145, .val .null, rv b197, iv (0 : Int32), iv (1 : Int32), iv (2 : Int32), iv (0 : Int32)] [])) _
          refine XS.iload X217.here hx rfl (hb hby at_266) rfl ?_
          show Steps p.tables e below (T217.setTop (mkF m 268 #[iv u0, iv u1, iv u2, .val (.long u3), .second, iv u4, .val (.long u5), .second, iv (3 : Int32), iv ka, iv kb, rv b145, .val .null, rv b197, iv (0 : Int32), iv (1 : Int32), iv (2 : Int32), iv (0 : Int32)] [(.int (3 : Int32))])) _
          refine XS.iconst X217.here hx rfl (hb hby at_268) ?_
          show Steps p.tables e below (T217.setTop (mkF m 269 #[iv u0, iv u1, iv u2, .val (.long u3), .second, iv u4, .val (.long u5), .second, iv (3 : Int32), iv ka, iv kb, rv b145, .val .null, rv b197, iv (0 : Int32), iv (1 : Int32), iv (2 : Int32), iv (0 : Int32)] [(.int (2 : Int32)), (.int (3 : Int32))])) _
          refine XS.icmpNo X217.here hx rfl (hb hby at_269) rfl (flt (by decide : ¬ ((3 : Int32) < (2 : Int32)))).1 ?_
          show Steps p.tables e below (T217.setTop (mkF m 272 #[iv u0, iv u1, iv u2, .val (.long u3), .second, iv u4, .val (.long u5), .second, iv (3 : Int32), iv ka, iv kb, rv b145, .val .null, rv b197, iv (0 : Int32), iv (1 : Int32), iv (2 : Int32), iv (0 : Int32)] [])) _
          refine XS.iload X217.here hx rfl (hb hby at_272) rfl ?_
          show Steps p.tables e below (T217.setTop (mkF m 274 #[iv u0, iv u1, iv u2, .val (.long u3), .second, iv u4, .val (.long u5), .second, iv (3 : Int32), iv ka, iv kb, rv b145, .val .null, rv b197, iv (0 : Int32), iv (1 : Int32), iv (2 : Int32), iv (0 : Int32)] [(.int (1 : Int32))])) _
          refine XS.ifNo X217.here hx rfl (hb hby at_274) rfl ((if0 _ _).trans (feq (by decide : ¬ ((1 : Int32) = (0 : Int32)))).1) ?_
          show Steps p.tables e below (T217.setTop (mkF m 277 #[iv u0, iv u1, iv u2, .val (.long u3), .second, iv u4, .val (.long u5), .second, iv (3 : Int32), iv ka, iv kb, rv b145, .val .null, rv b197, iv (0 : Int32), iv (1 : Int32), iv (2 : Int32), iv (0 : Int32)] [])) _
          refine XS.aload X217.here hx rfl (hb hby at_277) rfl rfl ?_
          show Steps p.tables e below (T217.setTop (mkF m 279 #[iv u0, iv u1, iv u2, .val (.long u3), .second, iv u4, .val (.long u5), .second, iv (3 : Int32), iv ka, iv kb, rv b145, .val .null, rv b197, iv (0 : Int32), iv (1 : Int32), iv (2 : Int32), iv (0 : Int32)] [(.ref b197)])) _
          refine XS.iconst X217.here hx rfl (hb hby at_279) ?_
          show Steps p.tables e below (T217.setTop (mkF m 280 #[iv u0, iv u1, iv u2, .val (.long u3), .second, iv u4, .val (.long u5), .second, iv (3 : Int32), iv ka, iv kb, rv b145, .val .null, rv b197, iv (0 : Int32), iv (1 : Int32), iv (2 : Int32), iv (0 : Int32)] [(.int (1 : Int32)), (.ref b197)])) _
          refine st218.trans ?_
          show Steps p.tables e below (T218.setTop (mkF m 283 #[iv u0, iv u1, iv u2, .val (.long u3), .second, iv u4, .val (.long u5), .second, iv (3 : Int32), iv ka, iv kb, rv b145, .val .null, rv b197, iv (0 : Int32), iv (1 : Int32), iv (2 : Int32), iv (0 : Int32)] [(.int kb)])) _
          refine XS.iload X218.here hx rfl (hb hby at_283) rfl ?_
          show Steps p.tables e below (T218.setTop (mkF m 285 #[iv u0, iv u1, iv u2, .val (.long u3), .second, iv u4, .val (.long u5), .second, iv (3 : Int32), iv ka, iv kb, rv b145, .val .null, rv b197, iv (0 : Int32), iv (1 : Int32), iv (2 : Int32), iv (0 : Int32)] [(.int kb), (.int kb)])) _
          refine XS.icmpNo X218.here hx rfl (hb hby at_285) rfl (teq rfl).2 ?_
          show Steps p.tables e below (T218.setTop (mkF m 288 #[iv u0, iv u1, iv u2, .val (.long u3), .second, iv u4, .val (.long u5), .second, iv (3 : Int32), iv ka, iv kb, rv b145, .val .null, rv b197, iv (0 : Int32), iv (1 : Int32), iv (2 : Int32), iv (0 : Int32)] [])) _
          refine XS.aload X218.here hx rfl (hb hby at_288) rfl rfl ?_
          show Steps p.tables e below (T218.setTop (mkF m 290 #[iv u0, iv u1, iv u2, .val (.long u3), .second, iv u4, .val (.long u5), .second, iv (3 : Int32), iv ka, iv kb, rv b145, .val .null, rv b197, iv (0 : Int32), iv (1 : Int32), iv (2 : Int32), iv (0 : Int32)] [(.ref b197)])) _
          refine XS.iconst X218.here hx rfl (hb hby at_290) ?_
          show Steps p.tables e below (T218.setTop (mkF m 291 #[iv u0, iv u1, iv u2, .val (.long u3), .second, iv u4, .val (.long u5), .second, iv (3 : Int32), iv ka, iv kb, rv b145, .val .null, rv b197, iv (0 : Int32), iv (1 : Int32), iv (2 : Int32), iv (0 : Int32)] [(.int (1 : Int32)), (.ref b197)])) _
          refine st219.trans ?_
          show Steps p.tables e below (T219.setTop (mkF m 294 #[iv u0, iv u1, iv u2, .val (.long u3), .second, iv u4, .val (.long u5), .second, iv (3 : Int32), iv ka, iv kb, rv b145, .val .null, rv b197, iv (0 : Int32), iv (1 : Int32), iv (2 : Int32), iv (0 : Int32)] [(.int u4)])) _
          refine XS.iload X219.here hx rfl (hb hby at_294) rfl ?_
          show Steps p.tables e below (T219.setTop (mkF m 296 #[iv u0, iv u1, iv u2, .val (.long u3), .second, iv u4, .val (.long u5), .second, iv (3 : Int32), iv ka, iv kb, rv b145, .val .null, rv b197, iv (0 : Int32), iv (1 : Int32), iv (2 : Int32), iv (0 : Int32)] [(.int u4), (.int u4)])) _
          refine XS.icmpNo X219.here hx rfl (hb hby at_296) rfl (teq rfl).2 ?_
          show Steps p.tables e below (T219.setTop (mkF m 299 #[iv u0, iv u1, iv u2, .val (.long u3), .second, iv u4, .val (.long u5), .second, iv (3 : Int32), iv ka, iv kb, rv b145, .val .null, rv b197, iv (0 : Int32), iv (1 : Int32), iv (2 : Int32), iv (0 : Int32)] [])) _
          refine XS.aload X219.here hx rfl (hb hby at_299) rfl rfl ?_
          show Steps p.tables e below (T219.setTop (mkF m 301 #[iv u0, iv u1, iv u2, .val (.long u3), .second, iv u4, .val (.long u5), .second, iv (3 : Int32), iv ka, iv kb, rv b145, .val .null, rv b197, iv (0 : Int32), iv (1 : Int32), iv (2 : Int32), iv (0 : Int32)] [(.ref b197)])) _
          refine XS.iconst X219.here hx rfl (hb hby at_301) ?_
          show Steps p.tables e below (T219.setTop (mkF m 302 #[iv u0, iv u1, iv u2, .val (.long u3), .second, iv u4, .val (.long u5), .second, iv (3 : Int32), iv ka, iv kb, rv b145, .val .null, rv b197, iv (0 : Int32), iv (1 : Int32), iv (2 : Int32), iv (0 : Int32)] [(.int (1 : Int32)), (.ref b197)])) _
          refine st220.trans ?_
          show Steps p.tables e below (T220.setTop (mkF m 305 #[iv u0, iv u1, iv u2, .val (.long u3), .second, iv u4, .val (.long u5), .second, iv (3 : Int32), iv ka, iv kb, rv b145, .val .null, rv b197, iv (0 : Int32), iv (1 : Int32), iv (2 : Int32), iv (0 : Int32)] [.null])) _
          refine XS.aload X220.here hx rfl (hb hby at_305) rfl rfl ?_
          show Steps p.tables e below (T220.setTop (mkF m 307 #[iv u0, iv u1, iv u2, .val (.long u3), .second, iv u4, .val (.long u5), .second, iv (3 : Int32), iv ka, iv kb, rv b145, .val .null, rv b197, iv (0 : Int32), iv (1 : Int32), iv (2 : Int32), iv (0 : Int32)] [.null, .null])) _
          refine Jvm.RoadKit.acmp (g := (mkF m 307 #[iv u0, iv u1, iv u2, .val (.long u3), .second, iv u4, .val (.long u5), .second, iv (3 : Int32), iv ka, iv kb, rv b145, .val .null, rv b197, iv (0 : Int32), iv (1 : Int32), iv (2 : Int32), iv (0 : Int32)] [.null, .null])) X220 hx rfl rfl rfl (pc0 := 307) (pc' := 310) (same := true) rfl (hb hby at_307) rfl (decide_eq_true rfl) (by decide) (by decide) ?_
          show Steps p.tables e below (T220.setTop (mkF m 310 #[iv u0, iv u1, iv u2, .val (.long u3), .second, iv u4, .val (.long u5), .second, iv (3 : Int32), iv ka, iv kb, rv b145, .val .null, rv b197, iv (0 : Int32), iv (1 : Int32), iv (2 : Int32), iv (0 : Int32)] [])) _
          refine XS.aload X220.here hx rfl (hb hby at_310) rfl rfl ?_
          show Steps p.tables e below (T220.setTop (mkF m 312 #[iv u0, iv u1, iv u2, .val (.long u3), .second, iv u4, .val (.long u5), .second, iv (3 : Int32), iv ka, iv kb, rv b145, .val .null, rv b197, iv (0 : Int32), iv (1 : Int32), iv (2 : Int32), iv (0 : Int32)] [(.ref b197)])) _
          refine XS.iconst X220.here hx rfl (hb hby at_312) ?_
          show Steps p.tables e below (T220.setTop (mkF m 313 #[iv u0, iv u1, iv u2, .val (.long u3), .second, iv u4, .val (.long u5), .second, iv (3 : Int32), iv ka, iv kb, rv b145, .val .null, rv b197, iv (0 : Int32), iv (1 : Int32), iv (2 : Int32), iv (0 : Int32)] [(.int (1 : Int32)), (.ref b197)])) _
          refine st221.trans ?_
          show Steps p.tables e below (T221.setTop (mkF m 316 #[iv u0, iv u1, iv u2, .val (.long u3), .second, iv u4, .val (.long u5), .second, iv (3 : Int32), iv ka, iv kb, rv b145, .val .null, rv b197, iv (0 : Int32), iv (1 : Int32), iv (2 : Int32), iv (0 : Int32)] [(.long u5)])) _
          refine XS.lload X221.here hx rfl (hb hby at_316) rfl ?_
          show Steps p.tables e below (T221.setTop (mkF m 318 #[iv u0, iv u1, iv u2, .val (.long u3), .second, iv u4, .val (.long u5), .second, iv (3 : Int32), iv ka, iv kb, rv b145, .val .null, rv b197, iv (0 : Int32), iv (1 : Int32), iv (2 : Int32), iv (0 : Int32)] [(.long u5), (.long u5)])) _
          refine XS.lcmp X221.here hx rfl (hb hby at_318) rfl ?_
          show Steps p.tables e below (T221.setTop (mkF m 319 #[iv u0, iv u1, iv u2, .val (.long u3), .second, iv u4, .val (.long u5), .second, iv (3 : Int32), iv ka, iv kb, rv b145, .val .null, rv b197, iv (0 : Int32), iv (1 : Int32), iv (2 : Int32), iv (0 : Int32)] [(.int (lcmpW u5 u5))])) _
          refine XS.ifNo X221.here hx rfl (hb hby at_319) rfl ((if0 _ _).trans (teq ((lw_eq _ _).mpr rfl)).2) ?_
          show Steps p.tables e below (T221.setTop (mkF m 322 #[iv u0, iv u1, iv u2, .val (.long u3), .second, iv u4, .val (.long u5), .second, iv (3 : Int32), iv ka, iv kb, rv b145, .val .null, rv b197, iv (0 : Int32), iv (1 : Int32), iv (2 : Int32), iv (0 : Int32)] [])) _
          refine XS.iconst X221.here hx rfl (hb hby at_322) ?_
          show Steps p.tables e below (T221.setTop (mkF m 323 #[iv u0, iv u1, iv u2, .val (.long u3), .second, iv u4, .val (.long u5), .second, iv (3 : Int32), iv ka, iv kb, rv b145, .val .null, rv b197, iv (0 : Int32), iv (1 : Int32), iv (2 : Int32), iv (0 : Int32)] [(.int (1 : Int32))])) _
          refine XS.goto X221.here hx rfl (pc0 := 323) (pc' := 327) rfl (hb hby at_323) (by decide) (by decide) ?_
          show Steps p.tables e below (T221.setTop (mkF m 327 #[iv u0, iv u1, iv u2, .val (.long u3), .second, iv u4, .val (.long u5), .second, iv (3 : Int32), iv ka, iv kb, rv b145, .val .null, rv b197, iv (0 : Int32), iv (1 : Int32), iv (2 : Int32), iv (0 : Int32)] [(.int (1 : Int32))])) _
          refine XS.istore X221.here hx rfl (hb hby at_327) rfl (l' := #[iv u0, iv u1, iv u2, .val (.long u3), .second, iv u4, .val (.long u5), .second, iv (3 : Int32), iv ka, iv kb, rv b145, .val .null, rv b197, iv (0 : Int32), iv (1 : Int32), iv (2 : Int32), iv (0 : Int32)]) rfl ?_
          show Steps p.tables e below (T221.setTop (mkF m 329 #[iv u0, iv u1, iv u2, .val (.long u3), .second, iv u4, .val (.long u5), .second, iv (3 : Int32), iv ka, iv kb, rv b145, .val .null, rv b197, iv (0 : Int32), iv (1 : Int32), iv (2 : Int32), iv (0 : Int32)] [])) _
          refine XS.iload X221.here hx rfl (hb hby at_329) rfl ?_
          show Steps p.tables e below (T221.setTop (mkF m 331 #[iv u0, iv u1, iv u2, .val (.long u3), .second, iv u4, .val (.long u5), .second, iv (3 : Int32), iv ka, iv kb, rv b145, .val .null, rv b197, iv (0 : Int32), iv (1 : Int32), iv (2 : Int32), iv (0 : Int32)] [(.int (1 : Int32))])) _
          exact retN X221 hx (t := .boolean) Bd.returns (by simp) (hb hby at_331) hr
        · show Q0 Z u0 u1 u2 u3 u4 u5 h0 n0 _ T221.heap _
          rw [eq221]
          exact ⟨rfl, N221⟩
    · skip
      obtain ⟨T222, h222, k222, X222, e222, E222, A222, Ea222, st222⟩ := newPE X147 hx hZ (hw _ (List.mem_of_getElem? (i := 10) rfl)) e147 (g := (mkF m 66 #[iv u0, iv u1, iv u2, .val (.long u3), .second, iv u4, .val (.long u5), .second, iv ((1 : Int32) + ((u0 &&& (255 : Int32)) % (3 : Int32))), iv ka, iv kb, rv b145, .unset, .unset, .unset, .unset, .unset, .unset] [(.int (2 : Int32))])) rfl (hb hby at_66) rfl (by decide) (cap := 2) (by decide) (by decide) (by decide) (by decide) (ad := "[B") (by decide)
      obtain ⟨b222, g222⟩ : ∃ z, z = h147.size := ⟨_, rfl⟩
      rw [← g222] at A222 Ea222 st222
      have ge_b222 : n0 ≤ b222 := Nat.le_trans Z147 (Nat.le_of_eq g222.symm)
      have ne_b145_b222 : b145 ≠ b222 := Nat.ne_of_lt (Nat.lt_of_lt_of_le (V147).lt (Nat.le_of_eq g222.symm))
      have f223 := V147.ext E222
      have f224 := f150.ext E222
      have V222 : Arv Z h222 b222 k222 .byte (2 : Int32) [(.int (0 : Int32)), (.int (0 : Int32))] (.int (0 : Int32)) := (Arv.new A222 (by decide)).pad (pad_rep [] (.int (0 : Int32)) 2)
      have Z222 : n0 ≤ h222.size := Nat.le_trans Z147 E222.1
      obtain ⟨cl225, Ar225, qa225, Sa225, Na225, Ha225, Ga225⟩ := id V222
      have hin225 : ¬ ((0 : Int32) < 0 ∨ cl225.slots.size ≤ ((0 : Int32)).toNatClampNeg) := inb_of Sa225 ⟨by decide, by decide⟩
      obtain ⟨T226, h226, X226, e226, W226, st226⟩ := stB X222 hx hZ e222 Ar225 (j := (0 : Int32)) hin225 (g := (mkF m 75 #[iv u0, iv u1, iv u2, .val (.long u3), .second, iv u4, .val (.long u5), .second, iv ((1 : Int32) + ((u0 &&& (255 : Int32)) % (3 : Int32))), iv ka, iv kb, rv b145, .unset, .unset, .unset, .unset, .unset, .unset] [(.int (((u0.toUInt32 >>> ((24 : Int32) &&& 31).toUInt32).toInt32).toInt8.toInt32)), (.int (0 : Int32)), (.ref b222), (.ref b222)])) rfl rfl (hb hby at_75)
      rw [own_nb] at W226
      have V226 : Arv Z h226 b222 k222 .byte (2 : Int32) [(.int (((u0.toUInt32 >>> ((24 : Int32) &&& 31).toUInt32).toInt32).toInt8.toInt32)), (.int (0 : Int32))] (.int (0 : Int32)) := Arv.set Ar225 qa225 Sa225 Na225 Ha225 Ga225 (own_fb _) W226 0 rfl (Nat.le_of_ble_eq_true rfl)
      have N226 := Fr.snoc X226 N147 ge_b222
      have Z226 : n0 ≤ h226.size := Nat.le_trans Z222 (Keep.of_wr W226).1
      have f227 := f223.other W226 ne_b145_b222
      have f228 := f224.wr W226
      have f231 := Ea222.wr W226
      obtain ⟨cl232, Ar232, qa232, Sa232, Na232, Ha232, Ga232⟩ := id V226
      have hin232 : ¬ ((1 : Int32) < 0 ∨ cl232.slots.size ≤ ((1 : Int32)).toNatClampNeg) := inb_of Sa232 ⟨by decide, by decide⟩
      obtain ⟨T233, h233, X233, e233, W233, st233⟩ := stB X226 hx hZ e226 Ar232 (j := (1 : Int32)) hin232 (g := (mkF m 80 #[iv u0, iv u1, iv u2, .val (.long u3), .second, iv u4, .val (.long u5), .second, iv ((1 : Int32) + ((u0 &&& (255 : Int32)) % (3 : Int32))), iv ka, iv kb, rv b145, .unset, .unset, .unset, .unset, .unset, .unset] [(.int (u0.toInt8.toInt32)), (.int (1 : Int32)), (.ref b222), (.ref b222)])) rfl rfl (hb hby at_80)
      rw [own_nb] at W233
      have V233 : Arv Z h233 b222 k222 .byte (2 : Int32) [(.int (((u0.toUInt32 >>> ((24 : Int32) &&& 31).toUInt32).toInt32).toInt8.toInt32)), (.int (u0.toInt8.toInt32))] (.int (0 : Int32)) := Arv.set Ar232 qa232 Sa232 Na232 Ha232 Ga232 (own_fb _) W233 1 rfl (Nat.le_of_ble_eq_true rfl)
      have N233 := Fr.snoc X233 N226 ge_b222
      have Z233 : n0 ≤ h233.size := Nat.le_trans Z226 (Keep.of_wr W233).1
      have f234 := f227.other W233 ne_b145_b222
      have f235 := f228.wr W233
      have f238 := f231.wr W233
      have S239 : ∀ t, Steps p.tables e below (T233.setTop (mkF m 87 #[iv u0, iv u1, iv u2, .val (.long u3), .second, iv u4, .val (.long u5), .second, iv ((1 : Int32) + ((u0 &&& (255 : Int32)) % (3 : Int32))), iv ka, iv kb, rv b145, rv b222, .unset, .unset, .unset, .unset, .unset] [])) t → Steps p.tables e below (s₁.setTop (entryFrame m #[(.int u0), (.int u1), (.int u2), (.long u3), (.int u4), (.long u5)] maxLocals)) t := by
        intro t k
        refine S151 t ?_
        show Steps p.tables e below (T147.setTop (mkF m 62 #[iv u0, iv u1, iv u2, .val (.long u3), .second, iv u4, .val (.long u5), .second, iv ((1 : Int32) + ((u0 &&& (255 : Int32)) % (3 : Int32))), iv ka, iv kb, rv b145, .unset, .unset, .unset, .unset, .unset, .unset] [(.int (u0 &&& (512 : Int32)))])) _
        refine XS.ifNo X147.here hx rfl (hb hby at_62) rfl ((if0 _ _).trans (feq hc152).1) ?_
        show Steps p.tables e below (T147.setTop (mkF m 65 #[iv u0, iv u1, iv u2, .val (.long u3), .second, iv u4, .val (.long u5), .second, iv ((1 : Int32) + ((u0 &&& (255 : Int32)) % (3 : Int32))), iv ka, iv kb, rv b145, .unset, .unset, .unset, .unset, .unset, .unset] [])) _
        refine XS.iconst X147.here hx rfl (hb hby at_65) ?_
        show Steps p.tables e below (T147.setTop (mkF m 66 #[iv u0, iv u1, iv u2, .val (.long u3), .second, iv u4, .val (.long u5), .second, iv ((1 : Int32) + ((u0 &&& (255 : Int32)) % (3 : Int32))), iv ka, iv kb, rv b145, .unset, .unset, .unset, .unset, .unset, .unset] [(.int (2 : Int32))])) _
        refine st222 _ ?_
        show Steps p.tables e below (T222.setTop (mkF m 68 #[iv u0, iv u1, iv u2, .val (.long u3), .second, iv u4, .val (.long u5), .second, iv ((1 : Int32) + ((u0 &&& (255 : Int32)) % (3 : Int32))), iv ka, iv kb, rv b145, .unset, .unset, .unset, .unset, .unset, .unset] [(.ref b222)])) _
        refine XS.dup X222.here hx rfl (hb hby at_68) rfl rfl ?_
        show Steps p.tables e below (T222.setTop (mkF m 69 #[iv u0, iv u1, iv u2, .val (.long u3), .second, iv u4, .val (.long u5), .second, iv ((1 : Int32) + ((u0 &&& (255 : Int32)) % (3 : Int32))), iv ka, iv kb, rv b145, .unset, .unset, .unset, .unset, .unset, .unset] [(.ref b222), (.ref b222)])) _
        refine XS.iconst X222.here hx rfl (hb hby at_69) ?_
        show Steps p.tables e below (T222.setTop (mkF m 70 #[iv u0, iv u1, iv u2, .val (.long u3), .second, iv u4, .val (.long u5), .second, iv ((1 : Int32) + ((u0 &&& (255 : Int32)) % (3 : Int32))), iv ka, iv kb, rv b145, .unset, .unset, .unset, .unset, .unset, .unset] [(.int (0 : Int32)), (.ref b222), (.ref b222)])) _
        refine XS.iloadN X222.here hx rfl (hb hby at_70) rfl ?_
        show Steps p.tables e below (T222.setTop (mkF m 71 #[iv u0, iv u1, iv u2, .val (.long u3), .second, iv u4, .val (.long u5), .second, iv ((1 : Int32) + ((u0 &&& (255 : Int32)) % (3 : Int32))), iv ka, iv kb, rv b145, .unset, .unset, .unset, .unset, .unset, .unset] [(.int u0), (.int (0 : Int32)), (.ref b222), (.ref b222)])) _
        refine XS.bipush X222.here hx rfl (hb hby at_71) ?_
        show Steps p.tables e below (T222.setTop (mkF m 73 #[iv u0, iv u1, iv u2, .val (.long u3), .second, iv u4, .val (.long u5), .second, iv ((1 : Int32) + ((u0 &&& (255 : Int32)) % (3 : Int32))), iv ka, iv kb, rv b145, .unset, .unset, .unset, .unset, .unset, .unset] [(.int (24 : Int32)), (.int u0), (.int (0 : Int32)), (.ref b222), (.ref b222)])) _
        refine XS.iushr X222.here hx rfl (hb hby at_73) rfl ?_
        show Steps p.tables e below (T222.setTop (mkF m 74 #[iv u0, iv u1, iv u2, .val (.long u3), .second, iv u4, .val (.long u5), .second, iv ((1 : Int32) + ((u0 &&& (255 : Int32)) % (3 : Int32))), iv ka, iv kb, rv b145, .unset, .unset, .unset, .unset, .unset, .unset] [(.int ((u0.toUInt32 >>> ((24 : Int32) &&& 31).toUInt32).toInt32)), (.int (0 : Int32)), (.ref b222), (.ref b222)])) _
        refine XS.i2b X222.here hx rfl (hb hby at_74) rfl ?_
        show Steps p.tables e below (T222.setTop (mkF m 75 #[iv u0, iv u1, iv u2, .val (.long u3), .second, iv u4, .val (.long u5), .second, iv ((1 : Int32) + ((u0 &&& (255 : Int32)) % (3 : Int32))), iv ka, iv kb, rv b145, .unset, .unset, .unset, .unset, .unset, .unset] [(.int (((u0.toUInt32 >>> ((24 : Int32) &&& 31).toUInt32).toInt32).toInt8.toInt32)), (.int (0 : Int32)), (.ref b222), (.ref b222)])) _
        refine st226 _ ?_
        show Steps p.tables e below (T226.setTop (mkF m 76 #[iv u0, iv u1, iv u2, .val (.long u3), .second, iv u4, .val (.long u5), .second, iv ((1 : Int32) + ((u0 &&& (255 : Int32)) % (3 : Int32))), iv ka, iv kb, rv b145, .unset, .unset, .unset, .unset, .unset, .unset] [(.ref b222)])) _
        refine XS.dup X226.here hx rfl (hb hby at_76) rfl rfl ?_
        show Steps p.tables e below (T226.setTop (mkF m 77 #[iv u0, iv u1, iv u2, .val (.long u3), .second, iv u4, .val (.long u5), .second, iv ((1 : Int32) + ((u0 &&& (255 : Int32)) % (3 : Int32))), iv ka, iv kb, rv b145, .unset, .unset, .unset, .unset, .unset, .unset] [(.ref b222), (.ref b222)])) _
        refine XS.iconst X226.here hx rfl (hb hby at_77) ?_
        show Steps p.tables e below (T226.setTop (mkF m 78 #[iv u0, iv u1, iv u2, .val (.long u3), .second, iv u4, .val (.long u5), .second, iv ((1 : Int32) + ((u0 &&& (255 : Int32)) % (3 : Int32))), iv ka, iv kb, rv b145, .unset, .unset, .unset, .unset, .unset, .unset] [(.int (1 : Int32)), (.ref b222), (.ref b222)])) _
        refine XS.iloadN X226.here hx rfl (hb hby at_78) rfl ?_
        show Steps p.tables e below (T226.setTop (mkF m 79 #[iv u0, iv u1, iv u2, .val (.long u3), .second, iv u4, .val (.long u5), .second, iv ((1 : Int32) + ((u0 &&& (255 : Int32)) % (3 : Int32))), iv ka, iv kb, rv b145, .unset, .unset, .unset, .unset, .unset, .unset] [(.int u0), (.int (1 : Int32)), (.ref b222), (.ref b222)])) _
        refine XS.i2b X226.here hx rfl (hb hby at_79) rfl ?_
        show Steps p.tables e below (T226.setTop (mkF m 80 #[iv u0, iv u1, iv u2, .val (.long u3), .second, iv u4, .val (.long u5), .second, iv ((1 : Int32) + ((u0 &&& (255 : Int32)) % (3 : Int32))), iv ka, iv kb, rv b145, .unset, .unset, .unset, .unset, .unset, .unset] [(.int (u0.toInt8.toInt32)), (.int (1 : Int32)), (.ref b222), (.ref b222)])) _
        refine st233 _ ?_
        show Steps p.tables e below (T233.setTop (mkF m 81 #[iv u0, iv u1, iv u2, .val (.long u3), .second, iv u4, .val (.long u5), .second, iv ((1 : Int32) + ((u0 &&& (255 : Int32)) % (3 : Int32))), iv ka, iv kb, rv b145, .unset, .unset, .unset, .unset, .unset, .unset] [(.ref b222)])) _
        refine XS.goto X233.here hx rfl (pc0 := 81) (pc' := 85) rfl (hb hby at_81) (by decide) (by decide) ?_
        show Steps p.tables e below (T233.setTop (mkF m 85 #[iv u0, iv u1, iv u2, .val (.long u3), .second, iv u4, .val (.long u5), .second, iv ((1 : Int32) + ((u0 &&& (255 : Int32)) % (3 : Int32))), iv ka, iv kb, rv b145, .unset, .unset, .unset, .unset, .unset, .unset] [(.ref b222)])) _
        refine XS.astore X233.here hx rfl (hb hby at_85) rfl rfl (l' := #[iv u0, iv u1, iv u2, .val (.long u3), .second, iv u4, .val (.long u5), .second, iv ((1 : Int32) + ((u0 &&& (255 : Int32)) % (3 : Int32))), iv ka, iv kb, rv b145, rv b222, .unset, .unset, .unset, .unset, .unset]) rfl ?_
        exact k
      rcases own_cap u0 with hcp | hcp | hcp
      · skip
        rw [hcp] at S239
        obtain ⟨T240, h240, X240, e240, E240, A240, D240, -, st240⟩ := newO X233 hx hZ hown (hw _ (List.mem_of_getElem? (i := 1) rfl)) (hw _ (List.mem_of_getElem? (i := 2) rfl)) (hw _ (List.mem_of_getElem? (i := 3) rfl)) e233 (g := (mkF m 87 #[iv u0, iv u1, iv u2, .val (.long u3), .second, iv u4, .val (.long u5), .second, iv (1 : Int32), iv ka, iv kb, rv b145, rv b222, .unset, .unset, .unset, .unset, .unset] [])) rfl (hb hby at_87) (by decide) (by decide)
        obtain ⟨b240, g240⟩ : ∃ z, z = h233.size := ⟨_, rfl⟩
        rw [← g240] at A240 D240 st240
        have ge_b240 : n0 ≤ b240 := Nat.le_trans Z233 (Nat.le_of_eq g240.symm)
        have ne_b145_b240 : b145 ≠ b240 := Nat.ne_of_lt (Nat.lt_of_lt_of_le (f235).lt (Nat.le_of_eq g240.symm))
        have ne_b222_b240 : b222 ≠ b240 := Nat.ne_of_lt (Nat.lt_of_lt_of_le (f238).lt (Nat.le_of_eq g240.symm))
        have f241 := f235.ext E240
        have f242 := f238.ext E240
        have F240_kinds : Fld Z h240 b240 "com/example/agouti/agouti/store/IndexBuilder$Notes" "kinds" "[B" .null := D240 (Or.inr (hw _ (List.mem_of_getElem? (i := 12) rfl))) (ty := (.array .byte)) (by decide)
        have F240_nodes : Fld Z h240 b240 "com/example/agouti/agouti/store/IndexBuilder$Notes" "nodes" "[I" .null := D240 (Or.inr (hw _ (List.mem_of_getElem? (i := 15) rfl))) (ty := (.array .int)) (by decide)
        have F240_values : Fld Z h240 b240 "com/example/agouti/agouti/store/IndexBuilder$Notes" "values" "[[B" .null := D240 (Or.inl (hw _ (List.mem_of_getElem? (i := 19) rfl))) (ty := (.array (.array .byte))) (by decide)
        have F240_hashes : Fld Z h240 b240 "com/example/agouti/agouti/store/IndexBuilder$Notes" "hashes" "[J" .null := D240 (Or.inr (hw _ (List.mem_of_getElem? (i := 22) rfl))) (ty := (.array .long)) (by decide)
        have F240_count : Fld Z h240 b240 "com/example/agouti/agouti/store/IndexBuilder$Notes" "count" "I" (.int (0 : Int32)) := D240 (Or.inl (hw _ (List.mem_of_getElem? (i := 29) rfl))) (ty := .int) (by decide)
        have Z240 : n0 ≤ h240.size := Nat.le_trans Z233 E240.1
        obtain ⟨_, _, ⟨T243, L243, k243, n243⟩, -, X243, ⟨Lc243, hQ243, l243, y243, z243⟩, st243⟩ := X240.specialBack hx (y := (⟨"com/example/agouti/agouti/store/IndexBuilder$Notes", "<init>", "(I)V"⟩ : MethodName)) rfl hown (mvT hZ (hw _ (List.mem_of_getElem? (i := 4) rfl))) (mvT hZ (hw _ (List.mem_of_getElem? (i := 5) rfl))) (mvT hZ (hw _ (List.mem_of_getElem? (i := 6) rfl))) (by decide) (backOf (W := 1) (rmI1 l Z a0 hw [] b240 h240 n0 Z240 A240 F240_count F240_kinds F240_nodes F240_values F240_hashes ge_b240) hZ (hw _ (List.mem_of_getElem? (i := 6) rfl)) (hw _ (List.mem_of_getElem? (i := 3) rfl)) (by decide) (by decide)) (g := (mkF m 93 #[iv u0, iv u1, iv u2, .val (.long u3), .second, iv u4, .val (.long u5), .second, iv (1 : Int32), iv ka, iv kb, rv b145, rv b222, .unset, .unset, .unset, .unset, .unset] [(.int (1 : Int32)), (.ref b240), (.ref b240)])) rfl (by rw [hml]; rfl) (Steps.refl _) (a := b240) (argsL := [(.int (1 : Int32))]) (rest := [(.ref b240)]) (lenOf pd_0 rfl) rfl (by show 2 * 0 + _ ≤ _; exact Nat.le_of_eq rfl) (hb hby at_93) (fun _ _ => ⟨rfl, e240, (by decide : 3 + 4 ≤ _), (by decide : 8 + 4 ≤ _)⟩)
        dsimp only [Pt.U, Pt.locs, Pt.cells, Pt.slots] at X243 l243 y243 z243 st243 hQ243
        subst y243 z243
        obtain ⟨rfl, Nq243, Zq243, Kq243, Bq243⟩ := hQ243
        have N243 : Fr n0 L243 := by rw [l243]; exact Fr.app N233 Nq243
        have f244 := f241.keep Kq243
        have f245 := f242.keep Kq243
        have f246 := A240.keep Kq243
        have oe243 := Bq243.1
        obtain ⟨cq252, kq252, q252a, q252b, q252c⟩ := isOf hZ rfl oe243
        obtain ⟨_, _, ⟨T252, L252, k252, n252⟩, -, X252, ⟨Lc252, hQ252, l252, y252, z252⟩, st252⟩ := X243.virtualBack hx (y := (⟨"com/example/agouti/agouti/store/IndexBuilder$Notes", "add", "(BI[BJ)Z"⟩ : MethodName)) (z := (⟨"com/example/agouti/agouti/store/IndexBuilder$Notes", "add", "(BI[BJ)Z"⟩ : MethodName)) hown (mvT hZ (hw _ (List.mem_of_getElem? (i := 23) rfl))) (mvT hZ (hw _ (List.mem_of_getElem? (i := 24) rfl))) (notFace_of_selects (args := #[]) (mvT hZ (hw _ (List.mem_of_getElem? (i := 26) rfl)))) (mvT hZ (hw _ (List.mem_of_getElem? (i := 26) rfl))) (mvT hZ (hw _ (List.mem_of_getElem? (i := 25) rfl))) (by decide) (backOf (W := 0) (rmAddR l Z a0 hw [] b240 ka u2 b145 u3 (1 : Int32) (0 : Int32) [0] [0] [.null] [0] T243.heap n0 Zq243 Bq243 ge_b240 (by decide) (by decide) (by rw [e_ka]; exact own_nb _) f244) hZ (hw _ (List.mem_of_getElem? (i := 27) rfl)) (hw _ (List.mem_of_getElem? (i := 3) rfl)) (by decide) (by decide)) q252a q252c (g := (mkF m 106 #[iv u0, iv u1, iv u2, .val (.long u3), .second, iv u4, .val (.long u5), .second, iv (1 : Int32), iv ka, iv kb, rv b145, rv b222, rv b240, .unset, .unset, .unset, .unset] [(.long u3), (.ref b145), (.int u2), (.int ka), (.ref b240)])) rfl (by rw [hml]; rfl) (Steps.refl _) (argsL := [(.int ka), (.int u2), (.ref b145), (.long u3)]) (rest := []) (lenOf pd_1 rfl) rfl (by show 2 * 0 + _ ≤ _; exact Nat.le_of_eq rfl) (hb hby at_106) (fun _ _ => ⟨rfl, rfl, (by decide : 7 + 0 ≤ _), (by decide : 12 + 0 ≤ _)⟩)
        dsimp only [Pt.U, Pt.locs, Pt.cells, Pt.slots] at X252 l252 y252 z252 st252 hQ252
        subst y252 z252
        obtain ⟨rfl, Nq252, Zq252, Kx252, Bq252⟩ := hQ252
        have N252 : Fr n0 L252 := by rw [l252]; exact Fr.app N243 Nq252
        obtain ⟨wsq252, Kq252⟩ := Kx252
        have f253 := f244.keep Kq252
        have f254 := f245.keep Kq252
        have f255 := oe243.keep Kq252
        have B252 : own_N Z T252.heap n0 b240 (1 : Int32) (1 : Int32) [ka] [u2] [(.ref b145)] [u3] := Bq252
        obtain ⟨cq256, kq256, q256a, q256b, q256c⟩ := isOf hZ rfl f255
        obtain ⟨_, _, ⟨T256, L256, k256, n256⟩, -, X256, ⟨Lc256, hQ256, l256, y256, z256⟩, st256⟩ := X252.virtualBack hx (y := (⟨"com/example/agouti/agouti/store/IndexBuilder$Notes", "count", "()I"⟩ : MethodName)) (z := (⟨"com/example/agouti/agouti/store/IndexBuilder$Notes", "count", "()I"⟩ : MethodName)) hown (mvT hZ (hw _ (List.mem_of_getElem? (i := 30) rfl))) (mvT hZ (hw _ (List.mem_of_getElem? (i := 31) rfl))) (notFace_of_selects (args := #[]) (mvT hZ (hw _ (List.mem_of_getElem? (i := 33) rfl)))) (mvT hZ (hw _ (List.mem_of_getElem? (i := 33) rfl))) (mvT hZ (hw _ (List.mem_of_getElem? (i := 32) rfl))) (by decide) (backOf (W := 0) (rmCount l Z a0 hw [] b240 (1 : Int32) (1 : Int32) [ka] [u2] [(.ref b145)] [u3] T252.heap n0 Zq252 B252) hZ (hw _ (List.mem_of_getElem? (i := 34) rfl)) (hw _ (List.mem_of_getElem? (i := 3) rfl)) (by decide) (by decide)) q256a q256c (g := (mkF m 196 #[iv u0, iv u1, iv u2, .val (.long u3), .second, iv u4, .val (.long u5), .second, iv (1 : Int32), iv ka, iv kb, rv b145, rv b222, rv b240, iv (1 : Int32), iv (1 : Int32), iv (1 : Int32), .unset] [(.ref b240)])) rfl (by rw [hml]; rfl) (Steps.refl _) (argsL := []) (rest := []) (lenOf pd_2 rfl) rfl (by show 2 * 0 + _ ≤ _; exact Nat.le_of_eq rfl) (hb hby at_196) (fun _ _ => ⟨rfl, rfl, (by decide : 7 + 0 ≤ _), (by decide : 12 + 0 ≤ _)⟩)
        dsimp only [Pt.U, Pt.locs, Pt.cells, Pt.slots] at X256 l256 y256 z256 st256 hQ256
        subst y256 z256
        obtain ⟨rfl, Nq256, eq256⟩ := hQ256
        have N256 : Fr n0 L256 := by rw [l256]; exact Fr.app N252 Nq256
        obtain ⟨cq257, kq257, q257a, q257b, q257c⟩ := isOf hZ eq256 f255
        obtain ⟨_, _, ⟨T257, L257, k257, n257⟩, -, X257, ⟨Lc257, hQ257, l257, y257, z257⟩, st257⟩ := X256.virtualBack hx (y := (⟨"com/example/agouti/agouti/store/IndexBuilder$Notes", "kind", "(I)B"⟩ : MethodName)) (z := (⟨"com/example/agouti/agouti/store/IndexBuilder$Notes", "kind", "(I)B"⟩ : MethodName)) hown (mvT hZ (hw _ (List.mem_of_getElem? (i := 35) rfl))) (mvT hZ (hw _ (List.mem_of_getElem? (i := 36) rfl))) (notFace_of_selects (args := #[]) (mvT hZ (hw _ (List.mem_of_getElem? (i := 38) rfl)))) (mvT hZ (hw _ (List.mem_of_getElem? (i := 38) rfl))) (mvT hZ (hw _ (List.mem_of_getElem? (i := 37) rfl))) (by decide) (backOf (W := 0) (rmKind l Z a0 hw [] b240 (0 : Int32) (1 : Int32) (1 : Int32) [ka] [u2] [(.ref b145)] [u3] ka T252.heap n0 Zq252 B252 (by decide) (by decide) rfl (by rw [e_ka]; exact own_nb _)) hZ (hw _ (List.mem_of_getElem? (i := 39) rfl)) (hw _ (List.mem_of_getElem? (i := 3) rfl)) (by decide) (by decide)) q257a q257c (g := (mkF m 219 #[iv u0, iv u1, iv u2, .val (.long u3), .second, iv u4, .val (.long u5), .second, iv (1 : Int32), iv ka, iv kb, rv b145, rv b222, rv b240, iv (1 : Int32), iv (1 : Int32), iv (1 : Int32), .unset] [(.int (0 : Int32)), (.ref b240)])) rfl (by rw [hml]; rfl) (Steps.refl _) (argsL := [(.int (0 : Int32))]) (rest := []) (lenOf pd_3 rfl) rfl (by show 2 * 0 + _ ≤ _; exact Nat.le_of_eq rfl) (hb hby at_219) (fun _ _ => ⟨rfl, eq256, (by decide : 7 + 0 ≤ _), (by decide : 12 + 0 ≤ _)⟩)
        dsimp only [Pt.U, Pt.locs, Pt.cells, Pt.slots] at X257 l257 y257 z257 st257 hQ257
        subst y257 z257
        obtain ⟨rfl, Nq257, eq257⟩ := hQ257
        have N257 : Fr n0 L257 := by rw [l257]; exact Fr.app N256 Nq257
        obtain ⟨cq258, kq258, q258a, q258b, q258c⟩ := isOf hZ eq257 f255
        obtain ⟨_, _, ⟨T258, L258, k258, n258⟩, -, X258, ⟨Lc258, hQ258, l258, y258, z258⟩, st258⟩ := X257.virtualBack hx (y := (⟨"com/example/agouti/agouti/store/IndexBuilder$Notes", "node", "(I)I"⟩ : MethodName)) (z := (⟨"com/example/agouti/agouti/store/IndexBuilder$Notes", "node", "(I)I"⟩ : MethodName)) hown (mvT hZ (hw _ (List.mem_of_getElem? (i := 40) rfl))) (mvT hZ (hw _ (List.mem_of_getElem? (i := 41) rfl))) (notFace_of_selects (args := #[]) (mvT hZ (hw _ (List.mem_of_getElem? (i := 43) rfl)))) (mvT hZ (hw _ (List.mem_of_getElem? (i := 43) rfl))) (mvT hZ (hw _ (List.mem_of_getElem? (i := 42) rfl))) (by decide) (backOf (W := 0) (rmNode l Z a0 hw [] b240 (0 : Int32) (1 : Int32) (1 : Int32) [ka] [u2] [(.ref b145)] [u3] u2 T252.heap n0 Zq252 B252 (by decide) (by decide) rfl) hZ (hw _ (List.mem_of_getElem? (i := 44) rfl)) (hw _ (List.mem_of_getElem? (i := 3) rfl)) (by decide) (by decide)) q258a q258c (g := (mkF m 230 #[iv u0, iv u1, iv u2, .val (.long u3), .second, iv u4, .val (.long u5), .second, iv (1 : Int32), iv ka, iv kb, rv b145, rv b222, rv b240, iv (1 : Int32), iv (1 : Int32), iv (1 : Int32), .unset] [(.int (0 : Int32)), (.ref b240)])) rfl (by rw [hml]; rfl) (Steps.refl _) (argsL := [(.int (0 : Int32))]) (rest := []) (lenOf pd_4 rfl) rfl (by show 2 * 0 + _ ≤ _; exact Nat.le_of_eq rfl) (hb hby at_230) (fun _ _ => ⟨rfl, eq257, (by decide : 7 + 0 ≤ _), (by decide : 12 + 0 ≤ _)⟩)
        dsimp only [Pt.U, Pt.locs, Pt.cells, Pt.slots] at X258 l258 y258 z258 st258 hQ258
        subst y258 z258
        obtain ⟨rfl, Nq258, eq258⟩ := hQ258
        have N258 : Fr n0 L258 := by rw [l258]; exact Fr.app N257 Nq258
        obtain ⟨cq259, kq259, q259a, q259b, q259c⟩ := isOf hZ eq258 f255
        obtain ⟨_, _, ⟨T259, L259, k259, n259⟩, -, X259, ⟨Lc259, hQ259, l259, y259, z259⟩, st259⟩ := X258.virtualBack hx (y := (⟨"com/example/agouti/agouti/store/IndexBuilder$Notes", "value", "(I)[B"⟩ : MethodName)) (z := (⟨"com/example/agouti/agouti/store/IndexBuilder$Notes", "value", "(I)[B"⟩ : MethodName)) hown (mvT hZ (hw _ (List.mem_of_getElem? (i := 45) rfl))) (mvT hZ (hw _ (List.mem_of_getElem? (i := 46) rfl))) (notFace_of_selects (args := #[]) (mvT hZ (hw _ (List.mem_of_getElem? (i := 48) rfl)))) (mvT hZ (hw _ (List.mem_of_getElem? (i := 48) rfl))) (mvT hZ (hw _ (List.mem_of_getElem? (i := 47) rfl))) (by decide) (backOf (W := 0) (rmVal1 l Z a0 hw [] b240 (0 : Int32) (1 : Int32) (1 : Int32) [ka] [u2] [(.ref b145)] [u3] b145 T252.heap n0 Zq252 B252 (by decide) (by decide) rfl) hZ (hw _ (List.mem_of_getElem? (i := 49) rfl)) (hw _ (List.mem_of_getElem? (i := 3) rfl)) (by decide) (by decide)) q259a q259c (g := (mkF m 240 #[iv u0, iv u1, iv u2, .val (.long u3), .second, iv u4, .val (.long u5), .second, iv (1 : Int32), iv ka, iv kb, rv b145, rv b222, rv b240, iv (1 : Int32), iv (1 : Int32), iv (1 : Int32), .unset] [(.int (0 : Int32)), (.ref b240)])) rfl (by rw [hml]; rfl) (Steps.refl _) (argsL := [(.int (0 : Int32))]) (rest := []) (lenOf pd_5 rfl) rfl (by show 2 * 0 + _ ≤ _; exact Nat.le_of_eq rfl) (hb hby at_240) (fun _ _ => ⟨rfl, eq258, (by decide : 7 + 0 ≤ _), (by decide : 12 + 0 ≤ _)⟩)
        dsimp only [Pt.U, Pt.locs, Pt.cells, Pt.slots] at X259 l259 y259 z259 st259 hQ259
        subst y259 z259
        obtain ⟨rfl, Nq259, eq259⟩ := hQ259
        have N259 : Fr n0 L259 := by rw [l259]; exact Fr.app N258 Nq259
        obtain ⟨cq260, kq260, q260a, q260b, q260c⟩ := isOf hZ eq259 f255
        obtain ⟨_, _, ⟨T260, L260, k260, n260⟩, -, X260, ⟨Lc260, hQ260, l260, y260, z260⟩, st260⟩ := X259.virtualBack hx (y := (⟨"com/example/agouti/agouti/store/IndexBuilder$Notes", "hash", "(I)J"⟩ : MethodName)) (z := (⟨"com/example/agouti/agouti/store/IndexBuilder$Notes", "hash", "(I)J"⟩ : MethodName)) hown (mvT hZ (hw _ (List.mem_of_getElem? (i := 50) rfl))) (mvT hZ (hw _ (List.mem_of_getElem? (i := 51) rfl))) (notFace_of_selects (args := #[]) (mvT hZ (hw _ (List.mem_of_getElem? (i := 53) rfl)))) (mvT hZ (hw _ (List.mem_of_getElem? (i := 53) rfl))) (mvT hZ (hw _ (List.mem_of_getElem? (i := 52) rfl))) (by decide) (backOf (W := 0) (rmHash l Z a0 hw [] b240 (0 : Int32) (1 : Int32) (1 : Int32) [ka] [u2] [(.ref b145)] [u3] u3 T252.heap n0 Zq252 B252 (by decide) (by decide) rfl) hZ (hw _ (List.mem_of_getElem? (i := 54) rfl)) (hw _ (List.mem_of_getElem? (i := 3) rfl)) (by decide) (by decide)) q260a q260c (g := (mkF m 251 #[iv u0, iv u1, iv u2, .val (.long u3), .second, iv u4, .val (.long u5), .second, iv (1 : Int32), iv ka, iv kb, rv b145, rv b222, rv b240, iv (1 : Int32), iv (1 : Int32), iv (1 : Int32), .unset] [(.int (0 : Int32)), (.ref b240)])) rfl (by rw [hml]; rfl) (Steps.refl _) (argsL := [(.int (0 : Int32))]) (rest := []) (lenOf pd_6 rfl) rfl (by show 2 * 0 + _ ≤ _; exact Nat.le_of_eq rfl) (hb hby at_251) (fun _ _ => ⟨rfl, eq259, (by decide : 7 + 0 ≤ _), (by decide : 12 + 0 ≤ _)⟩)
        dsimp only [Pt.U, Pt.locs, Pt.cells, Pt.slots] at X260 l260 y260 z260 st260 hQ260
        subst y260 z260
        obtain ⟨rfl, Nq260, eq260⟩ := hQ260
        have N260 : Fr n0 L260 := by rw [l260]; exact Fr.app N259 Nq260
        obtain ⟨fs, hr, hrun, hended, hW, hsame⟩ := X260.leave (v := some (.int (1 : Int32))) (fun h => by rw [Bd.returns] at h; cases h)
        refine ⟨_, _, S239 _ ?_, hrun, hended, _, _, rfl, ?_, ⟨_, rfl⟩, hW, hsame.mono (by decide) (by decide)⟩
        · skip
          show Steps p.tables e below (T233.setTop (mkF m 87 #[iv u0, iv u1, iv u2, .val (.long u3), .second, iv u4, .val (.long u5), .second, iv (1 : Int32), iv ka, iv kb, rv b145, rv b222, .unset, .unset, .unset, .unset, .unset] [])) _
          refine st240 _ ?_
          show Steps p.tables e below (T240.setTop (mkF m 90 #[iv u0, iv u1, iv u2, .val (.long u3), .second, iv u4, .val (.long u5), .second, iv (1 : Int32), iv ka, iv kb, rv b145, rv b222, .unset, .unset, .unset, .unset, .unset] [(.ref b240)])) _
          refine XS.dup X240.here hx rfl (hb hby at_90) rfl rfl ?_
          show Steps p.tables e below (T240.setTop (mkF m 91 #[iv u0, iv u1, iv u2, .val (.long u3), .second, iv u4, .val (.long u5), .second, iv (1 : Int32), iv ka, iv kb, rv b145, rv b222, .unset, .unset, .unset, .unset, .unset] [(.ref b240), (.ref b240)])) _
          refine XS.iload X240.here hx rfl (hb hby at_91) rfl ?_
          show Steps p.tables e below (T240.setTop (mkF m 93 #[iv u0, iv u1, iv u2, .val (.long u3), .second, iv u4, .val (.long u5), .second, iv (1 : Int32), iv ka, iv kb, rv b145, rv b222, .unset, .unset, .unset, .unset, .unset] [(.int (1 : Int32)), (.ref b240), (.ref b240)])) _
          refine st243.trans ?_
          show Steps p.tables e below (T243.setTop (mkF m 96 #[iv u0, iv u1, iv u2, .val (.long u3), .second, iv u4, .val (.long u5), .second, iv (1 : Int32), iv ka, iv kb, rv b145, rv b222, .unset, .unset, .unset, .unset, .unset] [(.ref b240)])) _
          refine XS.astore X243.here hx rfl (hb hby at_96) rfl rfl (l' := #[iv u0, iv u1, iv u2, .val (.long u3), .second, iv u4, .val (.long u5), .second, iv (1 : Int32), iv ka, iv kb, rv b145, rv b222, rv b240, .unset, .unset, .unset, .unset]) rfl ?_
          show Steps p.tables e below (T243.setTop (mkF m 98 #[iv u0, iv u1, iv u2, .val (.long u3), .second, iv u4, .val (.long u5), .second, iv (1 : Int32), iv ka, iv kb, rv b145, rv b222, rv b240, .unset, .unset, .unset, .unset] [])) _
          refine XS.aload X243.here hx rfl (hb hby at_98) rfl rfl ?_
          show Steps p.tables e below (T243.setTop (mkF m 100 #[iv u0, iv u1, iv u2, .val (.long u3), .second, iv u4, .val (.long u5), .second, iv (1 : Int32), iv ka, iv kb, rv b145, rv b222, rv b240, .unset, .unset, .unset, .unset] [(.ref b240)])) _
          refine XS.iload X243.here hx rfl (hb hby at_100) rfl ?_
          show Steps p.tables e below (T243.setTop (mkF m 102 #[iv u0, iv u1, iv u2, .val (.long u3), .second, iv u4, .val (.long u5), .second, iv (1 : Int32), iv ka, iv kb, rv b145, rv b222, rv b240, .unset, .unset, .unset, .unset] [(.int ka), (.ref b240)])) _
          refine XS.iloadN X243.here hx rfl (hb hby at_102) rfl ?_
          show Steps p.tables e below (T243.setTop (mkF m 103 #[iv u0, iv u1, iv u2, .val (.long u3), .second, iv u4, .val (.long u5), .second, iv (1 : Int32), iv ka, iv kb, rv b145, rv b222, rv b240, .unset, .unset, .unset, .unset] [(.int u2), (.int ka), (.ref b240)])) _
          refine XS.aload X243.here hx rfl (hb hby at_103) rfl rfl ?_
          show Steps p.tables e below (T243.setTop (mkF m 105 #[iv u0, iv u1, iv u2, .val (.long u3), .second, iv u4, .val (.long u5), .second, iv (1 : Int32), iv ka, iv kb, rv b145, rv b222, rv b240, .unset, .unset, .unset, .unset] [(.ref b145), (.int u2), (.int ka), (.ref b240)])) _
          refine XS.lloadN X243.here hx rfl (hb hby at_105) rfl ?_
          show Steps p.tables e below (T243.setTop (mkF m 106 #[iv u0, iv u1, iv u2, .val (.long u3), .second, iv u4, .val (.long u5), .second, iv (1 : Int32), iv ka, iv kb, rv b145, rv b222, rv b240, .unset, .unset, .unset, .unset] [(.long u3), (.ref b145), (.int u2), (.int ka), (.ref b240)])) _
          refine st252.trans ?_
          show Steps p.tables e below (T252.setTop (mkF m 109 #[iv u0, iv u1, iv u2, .val (.long u3), .second, iv u4, .val (.long u5), .second, iv (1 : Int32), iv ka, iv kb, rv b145, rv b222, rv b240, .unset, .unset, .unset, .unset] [(.int (1 : Int32))])) _
          refine XS.istore X252.here hx rfl (hb hby at_109) rfl (l' := #[iv u0, iv u1, iv u2, .val (.long u3), .second, iv u4, .val (.long u5), .second, iv (1 : Int32), iv ka, iv kb, rv b145, rv b222, rv b240, iv (1 : Int32), .unset, .unset, .unset]) rfl ?_
          show Steps p.tables e below (T252.setTop (mkF m 111 #[iv u0, iv u1, iv u2, .val (.long u3), .second, iv u4, .val (.long u5), .second, iv (1 : Int32), iv ka, iv kb, rv b145, rv b222, rv b240, iv (1 : Int32), .unset, .unset, .unset] [])) _
          refine XS.iload X252.here hx rfl (hb hby at_111) rfl ?_
          show Steps p.tables e below (T252.setTop (mkF m 113 #[iv u0, iv u1, iv u2, .val (.long u3), .second, iv u4, .val (.long u5), .second, iv (1 : Int32), iv ka, iv kb, rv b145, rv b222, rv b240, iv (1 : Int32), .unset, .unset, .unset] [(.int (1 : Int32))])) _
          refine XS.iload X252.here hx rfl (hb hby at_113) rfl ?_
          show Steps p.tables e below (T252.setTop (mkF m 115 #[iv u0, iv u1, iv u2, .val (.long u3), .second, iv u4, .val (.long u5), .second, iv (1 : Int32), iv ka, iv kb, rv b145, rv b222, rv b240, iv (1 : Int32), .unset, .unset, .unset] [(.int (1 : Int32)), (.int (1 : Int32))])) _
          refine XS.iconst X252.here hx rfl (hb hby at_115) ?_
          show Steps p.tables e below (T252.setTop (mkF m 116 #[iv u0, iv u1, iv u2, .val (.long u3), .second, iv u4, .val (.long u5), .second, iv (1 : Int32), iv ka, iv kb, rv b145, rv b222, rv b240, iv (1 : Int32), .unset, .unset, .unset] [(.int (1 : Int32)), (.int (1 : Int32)), (.int (1 : Int32))])) _
          refine XS.icmpNo X252.here hx rfl (hb hby at_116) rfl (teq (by decide : (1 : Int32) = (1 : Int32))).2 ?_
          show Steps p.tables e below (T252.setTop (mkF m 119 #[iv u0, iv u1, iv u2, .val (.long u3), .second, iv u4, .val (.long u5), .second, iv (1 : Int32), iv ka, iv kb, rv b145, rv b222, rv b240, iv (1 : Int32), .unset, .unset, .unset] [(.int (1 : Int32))])) _
          refine XS.iconst X252.here hx rfl (hb hby at_119) ?_
          show Steps p.tables e below (T252.setTop (mkF m 120 #[iv u0, iv u1, iv u2, .val (.long u3), .second, iv u4, .val (.long u5), .second, iv (1 : Int32), iv ka, iv kb, rv b145, rv b222, rv b240, iv (1 : Int32), .unset, .unset, .unset] [(.int (1 : Int32)), (.int (1 : Int32))])) _
          refine XS.goto X252.here hx rfl (pc0 := 120) (pc' := 124) rfl (hb hby at_120) (by decide) (by decide) ?_
          show Steps p.tables e below (T252.setTop (mkF m 124 #[iv u0, iv u1, iv u2, .val (.long u3), .second, iv u4, .val (.long u5), .second, iv (1 : Int32), iv ka, iv kb, rv b145, rv b222, rv b240, iv (1 : Int32), .unset, .unset, .unset] [(.int (1 : Int32)), (.int (1 : Int32))])) _
          refine XS.icmpNo X252.here hx rfl (hb hby at_124) rfl (teq (by decide : (1 : Int32) = (1 : Int32))).2 ?_
          show Steps p.tables e below (T252.setTop (mkF m 127 #[iv u0, iv u1, iv u2, .val (.long u3), .second, iv u4, .val (.long u5), .second, iv (1 : Int32), iv ka, iv kb, rv b145, rv b222, rv b240, iv (1 : Int32), .unset, .unset, .unset] [])) _
          refine XS.iconst X252.here hx rfl (hb hby at_127) ?_
          show Steps p.tables e below (T252.setTop (mkF m 128 #[iv u0, iv u1, iv u2, .val (.long u3), .second, iv u4, .val (.long u5), .second, iv (1 : Int32), iv ka, iv kb, rv b145, rv b222, rv b240, iv (1 : Int32), .unset, .unset, .unset] [(.int (1 : Int32))])) _
          refine XS.goto X252.here hx rfl (pc0 := 128) (pc' := 132) rfl (hb hby at_128) (by decide) (by decide) ?_
          show Steps p.tables e below (T252.setTop (mkF m 132 #[iv u0, iv u1, iv u2, .val (.long u3), .second, iv u4, .val (.long u5), .second, iv (1 : Int32), iv ka, iv kb, rv b145, rv b222, rv b240, iv (1 : Int32), .unset, .unset, .unset] [(.int (1 : Int32))])) _
          refine XS.istore X252.here hx rfl (hb hby at_132) rfl (l' := #[iv u0, iv u1, iv u2, .val (.long u3), .second, iv u4, .val (.long u5), .second, iv (1 : Int32), iv ka, iv kb, rv b145, rv b222, rv b240, iv (1 : Int32), iv (1 : Int32), .unset, .unset]) rfl ?_
          show Steps p.tables e below (T252.setTop (mkF m 134 #[iv u0, iv u1, iv u2, .val (.long u3), .second, iv u4, .val (.long u5), .second, iv (1 : Int32), iv ka, iv kb, rv b145, rv b222, rv b240, iv (1 : Int32), iv (1 : Int32), .unset, .unset] [])) _
          refine XS.iconst X252.here hx rfl (hb hby at_134) ?_
          show Steps p.tables e below (T252.setTop (mkF m 135 #[iv u0, iv u1, iv u2, .val (.long u3), .second, iv u4, .val (.long u5), .second, iv (1 : Int32), iv ka, iv kb, rv b145, rv b222, rv b240, iv (1 : Int32), iv (1 : Int32), .unset, .unset] [(.int (1 : Int32))])) _
          refine XS.istore X252.here hx rfl (hb hby at_135) rfl (l' := #[iv u0, iv u1, iv u2, .val (.long u3), .second, iv u4, .val (.long u5), .second, iv (1 : Int32), iv ka, iv kb, rv b145, rv b222, rv b240, iv (1 : Int32), iv (1 : Int32), iv (1 : Int32), .unset]) rfl ?_
          show Steps p.tables e below (T252.setTop (mkF m 137 #[iv u0, iv u1, iv u2, .val (.long u3), .second, iv u4, .val (.long u5), .second, iv (1 : Int32), iv ka, iv kb, rv b145, rv b222, rv b240, iv (1 : Int32), iv (1 : Int32), iv (1 : Int32), .unset] [])) _
          refine XS.iload X252.here hx rfl (hb hby at_137) rfl ?_
          show Steps p.tables e below (T252.setTop (mkF m 139 #[iv u0, iv u1, iv u2, .val (.long u3), .second, iv u4, .val (.long u5), .second, iv (1 : Int32), iv ka, iv kb, rv b145, rv b222, rv b240, iv (1 : Int32), iv (1 : Int32), iv (1 : Int32), .unset] [(.int (1 : Int32))])) _
          refine XS.iconst X252.here hx rfl (hb hby at_139) ?_
          show Steps p.tables e below (T252.setTop (mkF m 140 #[iv u0, iv u1, iv u2, .val (.long u3), .second, iv u4, .val (.long u5), .second, iv (1 : Int32), iv ka, iv kb, rv b145, rv b222, rv b240, iv (1 : Int32), iv (1 : Int32), iv (1 : Int32), .unset] [(.int (2 : Int32)), (.int (1 : Int32))])) _
          refine XS.icmpYes X252.here hx rfl (pc0 := 140) (pc' := 189) rfl (hb hby at_140) rfl (tlt (by decide : (1 : Int32) < (2 : Int32))).1 (by decide) (by decide) ?_
          show Steps p.tables e below (T252.setTop (mkF m 189 #[iv u0, iv u1, iv u2, .val (.long u3), .second, iv u4, .val (.long u5), .second, iv (1 : Int32), iv ka, iv kb, rv b145, rv b222, rv b240, iv (1 : Int32), iv (1 : Int32), iv (1 : Int32), .unset] [])) _
          refine XS.iload X252.here hx rfl (hb hby at_189) rfl ?_
          show Steps p.tables e below (T252.setTop (mkF m 191 #[iv u0, iv u1, iv u2, .val (.long u3), .second, iv u4, .val (.long u5), .second, iv (1 : Int32), iv ka, iv kb, rv b145, rv b222, rv b240, iv (1 : Int32), iv (1 : Int32), iv (1 : Int32), .unset] [(.int (1 : Int32))])) _
          refine XS.ifNo X252.here hx rfl (hb hby at_191) rfl ((if0 _ _).trans (feq (by decide : ¬ ((1 : Int32) = (0 : Int32)))).1) ?_
          show Steps p.tables e below (T252.setTop (mkF m 194 #[iv u0, iv u1, iv u2, .val (.long u3), .second, iv u4, .val (.long u5), .second, iv (1 : Int32), iv ka, iv kb, rv b145, rv b222, rv b240, iv (1 : Int32), iv (1 : Int32), iv (1 : Int32), .unset] [])) _
          refine XS.aload X252.here hx rfl (hb hby at_194) rfl rfl ?_
          show Steps p.tables e below (T252.setTop (mkF m 196 #[iv u0, iv u1, iv u2, .val (.long u3), .second, iv u4, .val (.long u5), .second, iv (1 : Int32), iv ka, iv kb, rv b145, rv b222, rv b240, iv (1 : Int32), iv (1 : Int32), iv (1 : Int32), .unset] [(.ref b240)])) _
          refine st256.trans ?_
          show Steps p.tables e below (T256.setTop (mkF m 199 #[iv u0, iv u1, iv u2, .val (.long u3), .second, iv u4, .val (.long u5), .second, iv (1 : Int32), iv ka, iv kb, rv b145, rv b222, rv b240, iv (1 : Int32), iv (1 : Int32), iv (1 : Int32), .unset] [(.int (1 : Int32))])) _
          refine XS.iload X256.here hx rfl (hb hby at_199) rfl ?_
          show Steps p.tables e below (T256.setTop (mkF m 201 #[iv u0, iv u1, iv u2, .val (.long u3), .second, iv u4, .val (.long u5), .second, iv (1 : Int32), iv ka, iv kb, rv b145, rv b222, rv b240, iv (1 : Int32), iv (1 : Int32), iv (1 : Int32), .unset] [(.int (1 : Int32)), (.int (1 : Int32))])) _
          refine XS.icmpNo X256.here hx rfl (hb hby at_201) rfl (teq (by decide : (1 : Int32) = (1 : Int32))).2 ?_
          show Steps p.tables e below (T256.setTop (mkF m 204 #[iv u0, iv u1, iv u2, .val (.long u3), .second, iv u4, .val (.long u5), .second, iv (1 : Int32), iv ka, iv kb, rv b145, rv b222, rv b240, iv (1 : Int32), iv (1 : Int32), iv (1 : Int32), .unset] [])) _
          refine XS.iconst X256.here hx rfl (hb hby at_204) ?_
          show Steps p.tables e below (T256.setTop (mkF m 205 #[iv u0, iv u1, iv u2, .val (.long u3), .second, iv u4, .val (.long u5), .second, iv (1 : Int32), iv ka, iv kb, rv b145, rv b222, rv b240, iv (1 : Int32), iv (1 : Int32), iv (1 : Int32), .unset] [(.int (1 : Int32))])) _
          refine XS.goto X256.here hx rfl (pc0 := 205) (pc' := 209) rfl (hb hby at_205) (by decide) (by decide) ?_
          show Steps p.tables e below (T256.setTop (mkF m 209 #[iv u0, iv u1, iv u2, .val (.long u3), .second, iv u4, .val (.long u5), .second, iv (1 : Int32), iv ka, iv kb, rv b145, rv b222, rv b240, iv (1 : Int32), iv (1 : Int32), iv (1 : Int32), .unset] [(.int (1 : Int32))])) _
          refine XS.istore X256.here hx rfl (hb hby at_209) rfl (l' := #[iv u0, iv u1, iv u2, .val (.long u3), .second, iv u4, .val (.long u5), .second, iv (1 : Int32), iv ka, iv kb, rv b145, rv b222, rv b240, iv (1 : Int32), iv (1 : Int32), iv (1 : Int32), .unset]) rfl ?_
          show Steps p.tables e below (T256.setTop (mkF m 211 #[iv u0, iv u1, iv u2, .val (.long u3), .second, iv u4, .val (.long u5), .second, iv (1 : Int32), iv ka, iv kb, rv b145, rv b222, rv b240, iv (1 : Int32), iv (1 : Int32), iv (1 : Int32), .unset] [])) _
          refine XS.iload X256.here hx rfl (hb hby at_211) rfl ?_
          show Steps p.tables e below (T256.setTop (mkF m 213 #[iv u0, iv u1, iv u2, .val (.long u3), .second, iv u4, .val (.long u5), .second, iv (1 : Int32), iv ka, iv kb, rv b145, rv b222, rv b240, iv (1 : Int32), iv (1 : Int32), iv (1 : Int32), .unset] [(.int (1 : Int32))])) _
          refine XS.ifNo X256.here hx rfl (hb hby at_213) rfl ((if0 _ _).trans (feq (by decide : ¬ ((1 : Int32) = (0 : Int32)))).1) ?_
          show Steps p.tables e below (T256.setTop (mkF m 216 #[iv u0, iv u1, iv u2, .val (.long u3), .second, iv u4, .val (.long u5), .second, iv (1 : Int32), iv ka, iv kb, rv b145, rv b222, rv b240, iv (1 : Int32), iv (1 : Int32), iv (1 : Int32), .unset] [])) _
          refine XS.aload X256.here hx rfl (hb hby at_216) rfl rfl ?_
          show Steps p.tables e below (T256.setTop (mkF m 218 #[iv u0, iv u1, iv u2, .val (.long u3), .second, iv u4, .val (.long u5), .second, iv (1 : Int32), iv ka, iv kb, rv b145, rv b222, rv b240, iv (1 : Int32), iv (1 : Int32), iv (1 : Int32), .unset] [(.ref b240)])) _
          refine XS.iconst X256.here hx rfl (hb hby at_218) ?_
          show Steps p.tables e below (T256.setTop (mkF m 219 #[iv u0, iv u1, iv u2, .val (.long u3), .second, iv u4, .val (.long u5), .second, iv (1 : Int32), iv ka, iv kb, rv b145, rv b222, rv b240, iv (1 : Int32), iv (1 : Int32), iv (1 : Int32), .unset] [(.int (0 : Int32)), (.ref b240)])) _
          refine st257.trans ?_
          show Steps p.tables e below (T257.setTop (mkF m 222 #[iv u0, iv u1, iv u2, .val (.long u3), .second, iv u4, .val (.long u5), .second, iv (1 : Int32), iv ka, iv kb, rv b145, rv b222, rv b240, iv (1 : Int32), iv (1 : Int32), iv (1 : Int32), .unset] [(.int ka)])) _
          refine XS.iload X257.here hx rfl (hb hby at_222) rfl ?_
          show Steps p.tables e below (T257.setTop (mkF m 224 #[iv u0, iv u1, iv u2, .val (.long u3), .second, iv u4, .val (.long u5), .second, iv (1 : Int32), iv ka, iv kb, rv b145, rv b222, rv b240, iv (1 : Int32), iv (1 : Int32), iv (1 : Int32), .unset] [(.int ka), (.int ka)])) _
          refine XS.icmpNo X257.here hx rfl (hb hby at_224) rfl (teq rfl).2 ?_
          show Steps p.tables e below (T257.setTop (mkF m 227 #[iv u0, iv u1, iv u2, .val (.long u3), .second, iv u4, .val (.long u5), .second, iv (1 : Int32), iv ka, iv kb, rv b145, rv b222, rv b240, iv (1 : Int32), iv (1 : Int32), iv (1 : Int32), .unset] [])) _
          refine XS.aload X257.here hx rfl (hb hby at_227) rfl rfl ?_
          show Steps p.tables e below (T257.setTop (mkF m 229 #[iv u0, iv u1, iv u2, .val (.long u3), .second, iv u4, .val (.long u5), .second, iv (1 : Int32), iv ka, iv kb, rv b145, rv b222, rv b240, iv (1 : Int32), iv (1 : Int32), iv (1 : Int32), .unset] [(.ref b240)])) _
          refine XS.iconst X257.here hx rfl (hb hby at_229) ?_
          show Steps p.tables e below (T257.setTop (mkF m 230 #[iv u0, iv u1, iv u2, .val (.long u3), .second, iv u4, .val (.long u5), .second, iv (1 : Int32), iv ka, iv kb, rv b145, rv b222, rv b240, iv (1 : Int32), iv (1 : Int32), iv (1 : Int32), .unset] [(.int (0 : Int32)), (.ref b240)])) _
          refine st258.trans ?_
          show Steps p.tables e below (T258.setTop (mkF m 233 #[iv u0, iv u1, iv u2, .val (.long u3), .second, iv u4, .val (.long u5), .second, iv (1 : Int32), iv ka, iv kb, rv b145, rv b222, rv b240, iv (1 : Int32), iv (1 : Int32), iv (1 : Int32), .unset] [(.int u2)])) _
          refine XS.iloadN X258.here hx rfl (hb hby at_233) rfl ?_
          show Steps p.tables e below (T258.setTop (mkF m 234 #[iv u0, iv u1, iv u2, .val (.long u3), .second, iv u4, .val (.long u5), .second, iv (1 : Int32), iv ka, iv kb, rv b145, rv b222, rv b240, iv (1 : Int32), iv (1 : Int32), iv (1 : Int32), .unset] [(.int u2), (.int u2)])) _
          refine XS.icmpNo X258.here hx rfl (hb hby at_234) rfl (teq rfl).2 ?_
          show Steps p.tables e below (T258.setTop (mkF m 237 #[iv u0, iv u1, iv u2, .val (.long u3), .second, iv u4, .val (.long u5), .second, iv (1 : Int32), iv ka, iv kb, rv b145, rv b222, rv b240, iv (1 : Int32), iv (1 : Int32), iv (1 : Int32), .unset] [])) _
          refine XS.aload X258.here hx rfl (hb hby at_237) rfl rfl ?_
          show Steps p.tables e below (T258.setTop (mkF m 239 #[iv u0, iv u1, iv u2, .val (.long u3), .second, iv u4, .val (.long u5), .second, iv (1 : Int32), iv ka, iv kb, rv b145, rv b222, rv b240, iv (1 : Int32), iv (1 : Int32), iv (1 : Int32), .unset] [(.ref b240)])) _
          refine XS.iconst X258.here hx rfl (hb hby at_239) ?_
          show Steps p.tables e below (T258.setTop (mkF m 240 #[iv u0, iv u1, iv u2, .val (.long u3), .second, iv u4, .val (.long u5), .second, iv (1 : Int32), iv ka, iv kb, rv b145, rv b222, rv b240, iv (1 : Int32), iv (1 : Int32), iv (1 : Int32), .unset] [(.int (0 : Int32)), (.ref b240)])) _
          refine st259.trans ?_
          show Steps p.tables e below (T259.setTop (mkF m 243 #[iv u0, iv u1, iv u2, .val (.long u3), .second, iv u4, .val (.long u5), .second, iv (1 : Int32), iv ka, iv kb, rv b145, rv b222, rv b240, iv (1 : Int32), iv (1 : Int32), iv (1 : Int32), .unset] [(.ref b145)])) _
          refine XS.aload X259.here hx rfl (hb hby at_243) rfl rfl ?_
          show Steps p.tables e below (T259.setTop (mkF m 245 #[iv u0, iv u1, iv u2, .val (.long u3), .second, iv u4, .val (.long u5), .second, iv (1 : Int32), iv ka, iv kb, rv b145, rv b222, rv b240, iv (1 : Int32), iv (1 : Int32), iv (1 : Int32), .unset] [(.ref b145), (.ref b145)])) _
          refine Jvm.RoadKit.acmp (g := (mkF m 245 #[iv u0, iv u1, iv u2, .val (.long u3), .second, iv u4, .val (.long u5), .second, iv (1 : Int32), iv ka, iv kb, rv b145, rv b222, rv b240, iv (1 : Int32), iv (1 : Int32), iv (1 : Int32), .unset] [(.ref b145), (.ref b145)])) X259 hx rfl rfl rfl (pc0 := 245) (pc' := 248) (same := true) rfl (hb hby at_245) rfl (decide_eq_true rfl) (by decide) (by decide) ?_
          show Steps p.tables e below (T259.setTop (mkF m 248 #[iv u0, iv u1, iv u2, .val (.long u3), .second, iv u4, .val (.long u5), .second, iv (1 : Int32), iv ka, iv kb, rv b145, rv b222, rv b240, iv (1 : Int32), iv (1 : Int32), iv (1 : Int32), .unset] [])) _
          refine XS.aload X259.here hx rfl (hb hby at_248) rfl rfl ?_
          show Steps p.tables e below (T259.setTop (mkF m 250 #[iv u0, iv u1, iv u2, .val (.long u3), .second, iv u4, .val (.long u5), .second, iv (1 : Int32), iv ka, iv kb, rv b145, rv b222, rv b240, iv (1 : Int32), iv (1 : Int32), iv (1 : Int32), .unset] [(.ref b240)])) _
          refine XS.iconst X259.here hx rfl (hb hby at_250) ?_
          show Steps p.tables e below (T259.setTop (mkF m 251 #[iv u0, iv u1, iv u2, .val (.long u3), .second, iv u4, .val (.long u5), .second, iv (1 : Int32), iv ka, iv kb, rv b145, rv b222, rv b240, iv (1 : Int32), iv (1 : Int32), iv (1 : Int32), .unset] [(.int (0 : Int32)), (.ref b240)])) _
          refine st260.trans ?_
          show Steps p.tables e below (T260.setTop (mkF m 254 #[iv u0, iv u1, iv u2, .val (.long u3), .second, iv u4, .val (.long u5), .second, iv (1 : Int32), iv ka, iv kb, rv b145, rv b222, rv b240, iv (1 : Int32), iv (1 : Int32), iv (1 : Int32), .unset] [(.long u3)])) _
          refine XS.lloadN X260.here hx rfl (hb hby at_254) rfl ?_
          show Steps p.tables e below (T260.setTop (mkF m 255 #[iv u0, iv u1, iv u2, .val (.long u3), .second, iv u4, .val (.long u5), .second, iv (1 : Int32), iv ka, iv kb, rv b145, rv b222, rv b240, iv (1 : Int32), iv (1 : Int32), iv (1 : Int32), .unset] [(.long u3), (.long u3)])) _
          refine XS.lcmp X260.here hx rfl (hb hby at_255) rfl ?_
          show Steps p.tables e below (T260.setTop (mkF m 256 #[iv u0, iv u1, iv u2, .val (.long u3), .second, iv u4, .val (.long u5), .second, iv (1 : Int32), iv ka, iv kb, rv b145, rv b222, rv b240, iv (1 : Int32), iv (1 : Int32), iv (1 : Int32), .unset] [(.int (lcmpW u3 u3))])) _
          refine XS.ifNo X260.here hx rfl (hb hby at_256) rfl ((if0 _ _).trans (teq ((lw_eq _ _).mpr rfl)).2) ?_
          show Steps p.tables e below (T260.setTop (mkF m 259 #[iv u0, iv u1, iv u2, .val (.long u3), .second, iv u4, .val (.long u5), .second, iv (1 : Int32), iv ka, iv kb, rv b145, rv b222, rv b240, iv (1 : Int32), iv (1 : Int32), iv (1 : Int32), .unset] [])) _
          refine XS.iconst X260.here hx rfl (hb hby at_259) ?_
          show Steps p.tables e below (T260.setTop (mkF m 260 #[iv u0, iv u1, iv u2, .val (.long u3), .second, iv u4, .val (.long u5), .second, iv (1 : Int32), iv ka, iv kb, rv b145, rv b222, rv b240, iv (1 : Int32), iv (1 : Int32), iv (1 : Int32), .unset] [(.int (1 : Int32))])) _
          refine XS.goto X260.here hx rfl (pc0 := 260) (pc' := 264) rfl (hb hby at_260) (by decide) (by decide) ?_
          show Steps p.tables e below (T260.setTop (mkF m 264 #[iv u0, iv u1, iv u2, .val (.long u3), .second, iv u4, .val (.long u5), .second, iv (1 : Int32), iv ka, iv kb, rv b145, rv b222, rv b240, iv (1 : Int32), iv (1 : Int32), iv (1 : Int32), .unset] [(.int (1 : Int32))])) _
          refine XS.istore X260.here hx rfl (hb hby at_264) rfl (l' := #[iv u0, iv u1, iv u2, .val (.long u3), .second, iv u4, .val (.long u5), .second, iv (1 : Int32), iv ka, iv kb, rv b145, rv b222, rv b240, iv (1 : Int32), iv (1 : Int32), iv (1 : Int32), .unset]) rfl ?_
          show Steps p.tables e below (T260.setTop (mkF m 266 #[iv u0, iv u1, iv u2, .val (.long u3), .second, iv u4, .val (.long u5), .second, iv (1 : Int32), iv ka, iv kb, rv b145, rv b222, rv b240, iv (1 : Int32), iv (1 : Int32), iv (1 : Int32), .unset] [])) _
          refine XS.iload X260.here hx rfl (hb hby at_266) rfl ?_
          show Steps p.tables e below (T260.setTop (mkF m 268 #[iv u0, iv u1, iv u2, .val (.long u3), .second, iv u4, .val (.long u5), .second, iv (1 : Int32), iv ka, iv kb, rv b145, rv b222, rv b240, iv (1 : Int32), iv (1 : Int32), iv (1 : Int32), .unset] [(.int (1 : Int32))])) _
          refine XS.iconst X260.here hx rfl (hb hby at_268) ?_
          show Steps p.tables e below (T260.setTop (mkF m 269 #[iv u0, iv u1, iv u2, .val (.long u3), .second, iv u4, .val (.long u5), .second, iv (1 : Int32), iv ka, iv kb, rv b145, rv b222, rv b240, iv (1 : Int32), iv (1 : Int32), iv (1 : Int32), .unset] [(.int (2 : Int32)), (.int (1 : Int32))])) _
          refine XS.icmpYes X260.here hx rfl (pc0 := 269) (pc' := 329) rfl (hb hby at_269) rfl (tlt (by decide : (1 : Int32) < (2 : Int32))).1 (by decide) (by decide) ?_
          show Steps p.tables e below (T260.setTop (mkF m 329 #[iv u0, iv u1, iv u2, .val (.long u3), .second, iv u4, .val (.long u5), .second, iv (1 : Int32), iv ka, iv kb, rv b145, rv b222, rv b240, iv (1 : Int32), iv (1 : Int32), iv (1 : Int32), .unset] [])) _
          refine XS.iload X260.here hx rfl (hb hby at_329) rfl ?_
          show Steps p.tables e below (T260.setTop (mkF m 331 #[iv u0, iv u1, iv u2, .val (.long u3), .second, iv u4, .val (.long u5), .second, iv (1 : Int32), iv ka, iv kb, rv b145, rv b222, rv b240, iv (1 : Int32), iv (1 : Int32), iv (1 : Int32), .unset] [(.int (1 : Int32))])) _
          exact retN X260 hx (t := .boolean) Bd.returns (by simp) (hb hby at_331) hr
        · show Q0 Z u0 u1 u2 u3 u4 u5 h0 n0 _ T260.heap _
          rw [eq260]
          exact ⟨rfl, N260⟩
      · skip
        rw [hcp] at S239
        obtain ⟨T261, h261, X261, e261, E261, A261, D261, -, st261⟩ := newO X233 hx hZ hown (hw _ (List.mem_of_getElem? (i := 1) rfl)) (hw _ (List.mem_of_getElem? (i := 2) rfl)) (hw _ (List.mem_of_getElem? (i := 3) rfl)) e233 (g := (mkF m 87 #[iv u0, iv u1, iv u2, .val (.long u3), .second, iv u4, .val (.long u5), .second, iv (2 : Int32), iv ka, iv kb, rv b145, rv b222, .unset, .unset, .unset, .unset, .unset] [])) rfl (hb hby at_87) (by decide) (by decide)
        obtain ⟨b261, g261⟩ : ∃ z, z = h233.size := ⟨_, rfl⟩
        rw [← g261] at A261 D261 st261
        have ge_b261 : n0 ≤ b261 := Nat.le_trans Z233 (Nat.le_of_eq g261.symm)
        have ne_b145_b261 : b145 ≠ b261 := Nat.ne_of_lt (Nat.lt_of_lt_of_le (f235).lt (Nat.le_of_eq g261.symm))
        have ne_b222_b261 : b222 ≠ b261 := Nat.ne_of_lt (Nat.lt_of_lt_of_le (f238).lt (Nat.le_of_eq g261.symm))
        have f262 := f235.ext E261
        have f263 := f238.ext E261
        have F261_kinds : Fld Z h261 b261 "com/example/agouti/agouti/store/IndexBuilder$Notes" "kinds" "[B" .null := D261 (Or.inr (hw _ (List.mem_of_getElem? (i := 12) rfl))) (ty := (.array .byte)) (by decide)
        have F261_nodes : Fld Z h261 b261 "com/example/agouti/agouti/store/IndexBuilder$Notes" "nodes" "[I" .null := D261 (Or.inr (hw _ (List.mem_of_getElem? (i := 15) rfl))) (ty := (.array .int)) (by decide)
        have F261_values : Fld Z h261 b261 "com/example/agouti/agouti/store/IndexBuilder$Notes" "values" "[[B" .null := D261 (Or.inl (hw _ (List.mem_of_getElem? (i := 19) rfl))) (ty := (.array (.array .byte))) (by decide)
        have F261_hashes : Fld Z h261 b261 "com/example/agouti/agouti/store/IndexBuilder$Notes" "hashes" "[J" .null := D261 (Or.inr (hw _ (List.mem_of_getElem? (i := 22) rfl))) (ty := (.array .long)) (by decide)
        have F261_count : Fld Z h261 b261 "com/example/agouti/agouti/store/IndexBuilder$Notes" "count" "I" (.int (0 : Int32)) := D261 (Or.inl (hw _ (List.mem_of_getElem? (i := 29) rfl))) (ty := .int) (by decide)
        have Z261 : n0 ≤ h261.size := Nat.le_trans Z233 E261.1
        obtain ⟨_, _, ⟨T264, L264, k264, n264⟩, -, X264, ⟨Lc264, hQ264, l264, y264, z264⟩, st264⟩ := X261.specialBack hx (y := (⟨"com/example/agouti/agouti/store/IndexBuilder$Notes", "<init>", "(I)V"⟩ : MethodName)) rfl hown (mvT hZ (hw _ (List.mem_of_getElem? (i := 4) rfl))) (mvT hZ (hw _ (List.mem_of_getElem? (i := 5) rfl))) (mvT hZ (hw _ (List.mem_of_getElem? (i := 6) rfl))) (by decide) (backOf (W := 1) (rmI2 l Z a0 hw [] b261 h261 n0 Z261 A261 F261_count F261_kinds F261_nodes F261_values F261_hashes ge_b261) hZ (hw _ (List.mem_of_getElem? (i := 6) rfl)) (hw _ (List.mem_of_getElem? (i := 3) rfl)) (by decide) (by decide)) (g := (mkF m 93 #[iv u0, iv u1, iv u2, .val (.long u3), .second, iv u4, .val (.long u5), .second, iv (2 : Int32), iv ka, iv kb, rv b145, rv b222, .unset, .unset, .unset, .unset, .unset] [(.int (2 : Int32)), (.ref b261), (.ref b261)])) rfl (by rw [hml]; rfl) (Steps.refl _) (a := b261) (argsL := [(.int (2 : Int32))]) (rest := [(.ref b261)]) (lenOf pd_0 rfl) rfl (by show 2 * 0 + _ ≤ _; exact Nat.le_of_eq rfl) (hb hby at_93) (fun _ _ => ⟨rfl, e261, (by decide : 3 + 4 ≤ _), (by decide : 8 + 8 ≤ _)⟩)
        dsimp only [Pt.U, Pt.locs, Pt.cells, Pt.slots] at X264 l264 y264 z264 st264 hQ264
        subst y264 z264
        obtain ⟨rfl, Nq264, Zq264, Kq264, Bq264⟩ := hQ264
        have N264 : Fr n0 L264 := by rw [l264]; exact Fr.app N233 Nq264
        have f265 := f262.keep Kq264
        have f266 := f263.keep Kq264
        have f267 := A261.keep Kq264
        have oe264 := Bq264.1
        obtain ⟨cq273, kq273, q273a, q273b, q273c⟩ := isOf hZ rfl oe264
        obtain ⟨_, _, ⟨T273, L273, k273, n273⟩, -, X273, ⟨Lc273, hQ273, l273, y273, z273⟩, st273⟩ := X264.virtualBack hx (y := (⟨"com/example/agouti/agouti/store/IndexBuilder$Notes", "add", "(BI[BJ)Z"⟩ : MethodName)) (z := (⟨"com/example/agouti/agouti/store/IndexBuilder$Notes", "add", "(BI[BJ)Z"⟩ : MethodName)) hown (mvT hZ (hw _ (List.mem_of_getElem? (i := 23) rfl))) (mvT hZ (hw _ (List.mem_of_getElem? (i := 24) rfl))) (notFace_of_selects (args := #[]) (mvT hZ (hw _ (List.mem_of_getElem? (i := 26) rfl)))) (mvT hZ (hw _ (List.mem_of_getElem? (i := 26) rfl))) (mvT hZ (hw _ (List.mem_of_getElem? (i := 25) rfl))) (by decide) (backOf (W := 0) (rmAddR l Z a0 hw [] b261 ka u2 b145 u3 (2 : Int32) (0 : Int32) [0, 0] [0, 0] [.null, .null] [0, 0] T264.heap n0 Zq264 Bq264 ge_b261 (by decide) (by decide) (by rw [e_ka]; exact own_nb _) f265) hZ (hw _ (List.mem_of_getElem? (i := 27) rfl)) (hw _ (List.mem_of_getElem? (i := 3) rfl)) (by decide) (by decide)) q273a q273c (g := (mkF m 106 #[iv u0, iv u1, iv u2, .val (.long u3), .second, iv u4, .val (.long u5), .second, iv (2 : Int32), iv ka, iv kb, rv b145, rv b222, rv b261, .unset, .unset, .unset, .unset] [(.long u3), (.ref b145), (.int u2), (.int ka), (.ref b261)])) rfl (by rw [hml]; rfl) (Steps.refl _) (argsL := [(.int ka), (.int u2), (.ref b145), (.long u3)]) (rest := []) (lenOf pd_1 rfl) rfl (by show 2 * 0 + _ ≤ _; exact Nat.le_of_eq rfl) (hb hby at_106) (fun _ _ => ⟨rfl, rfl, (by decide : 7 + 0 ≤ _), (by decide : 16 + 0 ≤ _)⟩)
        dsimp only [Pt.U, Pt.locs, Pt.cells, Pt.slots] at X273 l273 y273 z273 st273 hQ273
        subst y273 z273
        obtain ⟨rfl, Nq273, Zq273, Kx273, Bq273⟩ := hQ273
        have N273 : Fr n0 L273 := by rw [l273]; exact Fr.app N264 Nq273
        obtain ⟨wsq273, Kq273⟩ := Kx273
        have f274 := f265.keep Kq273
        have f275 := f266.keep Kq273
        have f276 := oe264.keep Kq273
        have B273 : own_N Z T273.heap n0 b261 (2 : Int32) (1 : Int32) [ka, 0] [u2, 0] [(.ref b145), .null] [u3, 0] := Bq273
        obtain ⟨cq277, kq277, q277a, q277b, q277c⟩ := isOf hZ rfl f276
        obtain ⟨_, _, ⟨T277, L277, k277, n277⟩, -, X277, ⟨Lc277, hQ277, l277, y277, z277⟩, st277⟩ := X273.virtualBack hx (y := (⟨"com/example/agouti/agouti/store/IndexBuilder$Notes", "add", "(BI[BJ)Z"⟩ : MethodName)) (z := (⟨"com/example/agouti/agouti/store/IndexBuilder$Notes", "add", "(BI[BJ)Z"⟩ : MethodName)) hown (mvT hZ (hw _ (List.mem_of_getElem? (i := 23) rfl))) (mvT hZ (hw _ (List.mem_of_getElem? (i := 24) rfl))) (notFace_of_selects (args := #[]) (mvT hZ (hw _ (List.mem_of_getElem? (i := 26) rfl)))) (mvT hZ (hw _ (List.mem_of_getElem? (i := 26) rfl))) (mvT hZ (hw _ (List.mem_of_getElem? (i := 25) rfl))) (by decide) (backOf (W := 0) (rmAddR l Z a0 hw [] b261 kb u4 b222 u5 (2 : Int32) (1 : Int32) [ka, 0] [u2, 0] [(.ref b145), .null] [u3, 0] T273.heap n0 Zq273 B273 ge_b261 (by decide) (by decide) (by rw [e_kb]; exact own_nb _) f275) hZ (hw _ (List.mem_of_getElem? (i := 27) rfl)) (hw _ (List.mem_of_getElem? (i := 3) rfl)) (by decide) (by decide)) q277a q277c (g := (mkF m 153 #[iv u0, iv u1, iv u2, .val (.long u3), .second, iv u4, .val (.long u5), .second, iv (2 : Int32), iv ka, iv kb, rv b145, rv b222, rv b261, iv (0 : Int32), iv (1 : Int32), iv (1 : Int32), .unset] [(.long u5), (.ref b222), (.int u4), (.int kb), (.ref b261)])) rfl (by rw [hml]; rfl) (Steps.refl _) (argsL := [(.int kb), (.int u4), (.ref b222), (.long u5)]) (rest := []) (lenOf pd_1 rfl) rfl (by show 2 * 0 + _ ≤ _; exact Nat.le_of_eq rfl) (hb hby at_153) (fun _ _ => ⟨rfl, rfl, (by decide : 7 + 0 ≤ _), (by decide : 16 + 0 ≤ _)⟩)
        dsimp only [Pt.U, Pt.locs, Pt.cells, Pt.slots] at X277 l277 y277 z277 st277 hQ277
        subst y277 z277
        obtain ⟨rfl, Nq277, Zq277, Kx277, Bq277⟩ := hQ277
        have N277 : Fr n0 L277 := by rw [l277]; exact Fr.app N273 Nq277
        obtain ⟨wsq277, Kq277⟩ := Kx277
        have f278 := f274.keep Kq277
        have f279 := f275.keep Kq277
        have f280 := f276.keep Kq277
        have B277 : own_N Z T277.heap n0 b261 (2 : Int32) (2 : Int32) [ka, kb] [u2, u4] [(.ref b145), (.ref b222)] [u3, u5] := Bq277
        obtain ⟨cq281, kq281, q281a, q281b, q281c⟩ := isOf hZ rfl f280
        obtain ⟨_, _, ⟨T281, L281, k281, n281⟩, -, X281, ⟨Lc281, hQ281, l281, y281, z281⟩, st281⟩ := X277.virtualBack hx (y := (⟨"com/example/agouti/agouti/store/IndexBuilder$Notes", "count", "()I"⟩ : MethodName)) (z := (⟨"com/example/agouti/agouti/store/IndexBuilder$Notes", "count", "()I"⟩ : MethodName)) hown (mvT hZ (hw _ (List.mem_of_getElem? (i := 30) rfl))) (mvT hZ (hw _ (List.mem_of_getElem? (i := 31) rfl))) (notFace_of_selects (args := #[]) (mvT hZ (hw _ (List.mem_of_getElem? (i := 33) rfl)))) (mvT hZ (hw _ (List.mem_of_getElem? (i := 33) rfl))) (mvT hZ (hw _ (List.mem_of_getElem? (i := 32) rfl))) (by decide) (backOf (W := 0) (rmCount l Z a0 hw [] b261 (2 : Int32) (2 : Int32) [ka, kb] [u2, u4] [(.ref b145), (.ref b222)] [u3, u5] T277.heap n0 Zq277 B277) hZ (hw _ (List.mem_of_getElem? (i := 34) rfl)) (hw _ (List.mem_of_getElem? (i := 3) rfl)) (by decide) (by decide)) q281a q281c (g := (mkF m 196 #[iv u0, iv u1, iv u2, .val (.long u3), .second, iv u4, .val (.long u5), .second, iv (2 : Int32), iv ka, iv kb, rv b145, rv b222, rv b261, iv (0 : Int32), iv (1 : Int32), iv (2 : Int32), iv (1 : Int32)] [(.ref b261)])) rfl (by rw [hml]; rfl) (Steps.refl _) (argsL := []) (rest := []) (lenOf pd_2 rfl) rfl (by show 2 * 0 + _ ≤ _; exact Nat.le_of_eq rfl) (hb hby at_196) (fun _ _ => ⟨rfl, rfl, (by decide : 7 + 0 ≤ _), (by decide : 16 + 0 ≤ _)⟩)
        dsimp only [Pt.U, Pt.locs, Pt.cells, Pt.slots] at X281 l281 y281 z281 st281 hQ281
        subst y281 z281
        obtain ⟨rfl, Nq281, eq281⟩ := hQ281
        have N281 : Fr n0 L281 := by rw [l281]; exact Fr.app N277 Nq281
        obtain ⟨cq282, kq282, q282a, q282b, q282c⟩ := isOf hZ eq281 f280
        obtain ⟨_, _, ⟨T282, L282, k282, n282⟩, -, X282, ⟨Lc282, hQ282, l282, y282, z282⟩, st282⟩ := X281.virtualBack hx (y := (⟨"com/example/agouti/agouti/store/IndexBuilder$Notes", "kind", "(I)B"⟩ : MethodName)) (z := (⟨"com/example/agouti/agouti/store/IndexBuilder$Notes", "kind", "(I)B"⟩ : MethodName)) hown (mvT hZ (hw _ (List.mem_of_getElem? (i := 35) rfl))) (mvT hZ (hw _ (List.mem_of_getElem? (i := 36) rfl))) (notFace_of_selects (args := #[]) (mvT hZ (hw _ (List.mem_of_getElem? (i := 38) rfl)))) (mvT hZ (hw _ (List.mem_of_getElem? (i := 38) rfl))) (mvT hZ (hw _ (List.mem_of_getElem? (i := 37) rfl))) (by decide) (backOf (W := 0) (rmKind l Z a0 hw [] b261 (0 : Int32) (2 : Int32) (2 : Int32) [ka, kb] [u2, u4] [(.ref b145), (.ref b222)] [u3, u5] ka T277.heap n0 Zq277 B277 (by decide) (by decide) rfl (by rw [e_ka]; exact own_nb _)) hZ (hw _ (List.mem_of_getElem? (i := 39) rfl)) (hw _ (List.mem_of_getElem? (i := 3) rfl)) (by decide) (by decide)) q282a q282c (g := (mkF m 219 #[iv u0, iv u1, iv u2, .val (.long u3), .second, iv u4, .val (.long u5), .second, iv (2 : Int32), iv ka, iv kb, rv b145, rv b222, rv b261, iv (0 : Int32), iv (1 : Int32), iv (2 : Int32), iv (1 : Int32)] [(.int (0 : Int32)), (.ref b261)])) rfl (by rw [hml]; rfl) (Steps.refl _) (argsL := [(.int (0 : Int32))]) (rest := []) (lenOf pd_3 rfl) rfl (by show 2 * 0 + _ ≤ _; exact Nat.le_of_eq rfl) (hb hby at_219) (fun _ _ => ⟨rfl, eq281, (by decide : 7 + 0 ≤ _), (by decide : 16 + 0 ≤ _)⟩)
        dsimp only [Pt.U, Pt.locs, Pt.cells, Pt.slots] at X282 l282 y282 z282 st282 hQ282
        subst y282 z282
        obtain ⟨rfl, Nq282, eq282⟩ := hQ282
        have N282 : Fr n0 L282 := by rw [l282]; exact Fr.app N281 Nq282
        obtain ⟨cq283, kq283, q283a, q283b, q283c⟩ := isOf hZ eq282 f280
        obtain ⟨_, _, ⟨T283, L283, k283, n283⟩, -, X283, ⟨Lc283, hQ283, l283, y283, z283⟩, st283⟩ := X282.virtualBack hx (y := (⟨"com/example/agouti/agouti/store/IndexBuilder$Notes", "node", "(I)I"⟩ : MethodName)) (z := (⟨"com/example/agouti/agouti/store/IndexBuilder$Notes", "node", "(I)I"⟩ : MethodName)) hown (mvT hZ (hw _ (List.mem_of_getElem? (i := 40) rfl))) (mvT hZ (hw _ (List.mem_of_getElem? (i := 41) rfl))) (notFace_of_selects (args := #[]) (mvT hZ (hw _ (List.mem_of_getElem? (i := 43) rfl)))) (mvT hZ (hw _ (List.mem_of_getElem? (i := 43) rfl))) (mvT hZ (hw _ (List.mem_of_getElem? (i := 42) rfl))) (by decide) (backOf (W := 0) (rmNode l Z a0 hw [] b261 (0 : Int32) (2 : Int32) (2 : Int32) [ka, kb] [u2, u4] [(.ref b145), (.ref b222)] [u3, u5] u2 T277.heap n0 Zq277 B277 (by decide) (by decide) rfl) hZ (hw _ (List.mem_of_getElem? (i := 44) rfl)) (hw _ (List.mem_of_getElem? (i := 3) rfl)) (by decide) (by decide)) q283a q283c (g := (mkF m 230 #[iv u0, iv u1, iv u2, .val (.long u3), .second, iv u4, .val (.long u5), .second, iv (2 : Int32), iv ka, iv kb, rv b145, rv b222, rv b261, iv (0 : Int32), iv (1 : Int32), iv (2 : Int32), iv (1 : Int32)] [(.int (0 : Int32)), (.ref b261)])) rfl (by rw [hml]; rfl) (Steps.refl _) (argsL := [(.int (0 : Int32))]) (rest := []) (lenOf pd_4 rfl) rfl (by show 2 * 0 + _ ≤ _; exact Nat.le_of_eq rfl) (hb hby at_230) (fun _ _ => ⟨rfl, eq282, (by decide : 7 + 0 ≤ _), (by decide : 16 + 0 ≤ _)⟩)
        dsimp only [Pt.U, Pt.locs, Pt.cells, Pt.slots] at X283 l283 y283 z283 st283 hQ283
        subst y283 z283
        obtain ⟨rfl, Nq283, eq283⟩ := hQ283
        have N283 : Fr n0 L283 := by rw [l283]; exact Fr.app N282 Nq283
        obtain ⟨cq284, kq284, q284a, q284b, q284c⟩ := isOf hZ eq283 f280
        obtain ⟨_, _, ⟨T284, L284, k284, n284⟩, -, X284, ⟨Lc284, hQ284, l284, y284, z284⟩, st284⟩ := X283.virtualBack hx (y := (⟨"com/example/agouti/agouti/store/IndexBuilder$Notes", "value", "(I)[B"⟩ : MethodName)) (z := (⟨"com/example/agouti/agouti/store/IndexBuilder$Notes", "value", "(I)[B"⟩ : MethodName)) hown (mvT hZ (hw _ (List.mem_of_getElem? (i := 45) rfl))) (mvT hZ (hw _ (List.mem_of_getElem? (i := 46) rfl))) (notFace_of_selects (args := #[]) (mvT hZ (hw _ (List.mem_of_getElem? (i := 48) rfl)))) (mvT hZ (hw _ (List.mem_of_getElem? (i := 48) rfl))) (mvT hZ (hw _ (List.mem_of_getElem? (i := 47) rfl))) (by decide) (backOf (W := 0) (rmVal1 l Z a0 hw [] b261 (0 : Int32) (2 : Int32) (2 : Int32) [ka, kb] [u2, u4] [(.ref b145), (.ref b222)] [u3, u5] b145 T277.heap n0 Zq277 B277 (by decide) (by decide) rfl) hZ (hw _ (List.mem_of_getElem? (i := 49) rfl)) (hw _ (List.mem_of_getElem? (i := 3) rfl)) (by decide) (by decide)) q284a q284c (g := (mkF m 240 #[iv u0, iv u1, iv u2, .val (.long u3), .second, iv u4, .val (.long u5), .second, iv (2 : Int32), iv ka, iv kb, rv b145, rv b222, rv b261, iv (0 : Int32), iv (1 : Int32), iv (2 : Int32), iv (1 : Int32)] [(.int (0 : Int32)), (.ref b261)])) rfl (by rw [hml]; rfl) (Steps.refl _) (argsL := [(.int (0 : Int32))]) (rest := []) (lenOf pd_5 rfl) rfl (by show 2 * 0 + _ ≤ _; exact Nat.le_of_eq rfl) (hb hby at_240) (fun _ _ => ⟨rfl, eq283, (by decide : 7 + 0 ≤ _), (by decide : 16 + 0 ≤ _)⟩)
        dsimp only [Pt.U, Pt.locs, Pt.cells, Pt.slots] at X284 l284 y284 z284 st284 hQ284
        subst y284 z284
        obtain ⟨rfl, Nq284, eq284⟩ := hQ284
        have N284 : Fr n0 L284 := by rw [l284]; exact Fr.app N283 Nq284
        obtain ⟨cq285, kq285, q285a, q285b, q285c⟩ := isOf hZ eq284 f280
        obtain ⟨_, _, ⟨T285, L285, k285, n285⟩, -, X285, ⟨Lc285, hQ285, l285, y285, z285⟩, st285⟩ := X284.virtualBack hx (y := (⟨"com/example/agouti/agouti/store/IndexBuilder$Notes", "hash", "(I)J"⟩ : MethodName)) (z := (⟨"com/example/agouti/agouti/store/IndexBuilder$Notes", "hash", "(I)J"⟩ : MethodName)) hown (mvT hZ (hw _ (List.mem_of_getElem? (i := 50) rfl))) (mvT hZ (hw _ (List.mem_of_getElem? (i := 51) rfl))) (notFace_of_selects (args := #[]) (mvT hZ (hw _ (List.mem_of_getElem? (i := 53) rfl)))) (mvT hZ (hw _ (List.mem_of_getElem? (i := 53) rfl))) (mvT hZ (hw _ (List.mem_of_getElem? (i := 52) rfl))) (by decide) (backOf (W := 0) (rmHash l Z a0 hw [] b261 (0 : Int32) (2 : Int32) (2 : Int32) [ka, kb] [u2, u4] [(.ref b145), (.ref b222)] [u3, u5] u3 T277.heap n0 Zq277 B277 (by decide) (by decide) rfl) hZ (hw _ (List.mem_of_getElem? (i := 54) rfl)) (hw _ (List.mem_of_getElem? (i := 3) rfl)) (by decide) (by decide)) q285a q285c (g := (mkF m 251 #[iv u0, iv u1, iv u2, .val (.long u3), .second, iv u4, .val (.long u5), .second, iv (2 : Int32), iv ka, iv kb, rv b145, rv b222, rv b261, iv (0 : Int32), iv (1 : Int32), iv (2 : Int32), iv (1 : Int32)] [(.int (0 : Int32)), (.ref b261)])) rfl (by rw [hml]; rfl) (Steps.refl _) (argsL := [(.int (0 : Int32))]) (rest := []) (lenOf pd_6 rfl) rfl (by show 2 * 0 + _ ≤ _; exact Nat.le_of_eq rfl) (hb hby at_251) (fun _ _ => ⟨rfl, eq284, (by decide : 7 + 0 ≤ _), (by decide : 16 + 0 ≤ _)⟩)
        dsimp only [Pt.U, Pt.locs, Pt.cells, Pt.slots] at X285 l285 y285 z285 st285 hQ285
        subst y285 z285
        obtain ⟨rfl, Nq285, eq285⟩ := hQ285
        have N285 : Fr n0 L285 := by rw [l285]; exact Fr.app N284 Nq285
        obtain ⟨cq286, kq286, q286a, q286b, q286c⟩ := isOf hZ eq285 f280
        obtain ⟨_, _, ⟨T286, L286, k286, n286⟩, -, X286, ⟨Lc286, hQ286, l286, y286, z286⟩, st286⟩ := X285.virtualBack hx (y := (⟨"com/example/agouti/agouti/store/IndexBuilder$Notes", "kind", "(I)B"⟩ : MethodName)) (z := (⟨"com/example/agouti/agouti/store/IndexBuilder$Notes", "kind", "(I)B"⟩ : MethodName)) hown (mvT hZ (hw _ (List.mem_of_getElem? (i := 35) rfl))) (mvT hZ (hw _ (List.mem_of_getElem? (i := 36) rfl))) (notFace_of_selects (args := #[]) (mvT hZ (hw _ (List.mem_of_getElem? (i := 38) rfl)))) (mvT hZ (hw _ (List.mem_of_getElem? (i := 38) rfl))) (mvT hZ (hw _ (List.mem_of_getElem? (i := 37) rfl))) (by decide) (backOf (W := 0) (rmKind l Z a0 hw [] b261 (1 : Int32) (2 : Int32) (2 : Int32) [ka, kb] [u2, u4] [(.ref b145), (.ref b222)] [u3, u5] kb T277.heap n0 Zq277 B277 (by decide) (by decide) rfl (by rw [e_kb]; exact own_nb _)) hZ (hw _ (List.mem_of_getElem? (i := 39) rfl)) (hw _ (List.mem_of_getElem? (i := 3) rfl)) (by decide) (by decide)) q286a q286c (g := (mkF m 280 #[iv u0, iv u1, iv u2, .val (.long u3), .second, iv u4, .val (.long u5), .second, iv (2 : Int32), iv ka, iv kb, rv b145, rv b222, rv b261, iv (0 : Int32), iv (1 : Int32), iv (2 : Int32), iv (1 : Int32)] [(.int (1 : Int32)), (.ref b261)])) rfl (by rw [hml]; rfl) (Steps.refl _) (argsL := [(.int (1 : Int32))]) (rest := []) (lenOf pd_3 rfl) rfl (by show 2 * 0 + _ ≤ _; exact Nat.le_of_eq rfl) (hb hby at_280) (fun _ _ => ⟨rfl, eq285, (by decide : 7 + 0 ≤ _), (by decide : 16 + 0 ≤ _)⟩)
        dsimp only [Pt.U, Pt.locs, Pt.cells, Pt.slots] at X286 l286 y286 z286 st286 hQ286
        subst y286 z286
        obtain ⟨rfl, Nq286, eq286⟩ := hQ286
        have N286 : Fr n0 L286 := by rw [l286]; exact Fr.app N285 Nq286
        obtain ⟨cq287, kq287, q287a, q287b, q287c⟩ := isOf hZ eq286 f280
        obtain ⟨_, _, ⟨T287, L287, k287, n287⟩, -, X287, ⟨Lc287, hQ287, l287, y287, z287⟩, st287⟩ := X286.virtualBack hx (y := (⟨"com/example/agouti/agouti/store/IndexBuilder$Notes", "node", "(I)I"⟩ : MethodName)) (z := (⟨"com/example/agouti/agouti/store/IndexBuilder$Notes", "node", "(I)I"⟩ : MethodName)) hown (mvT hZ (hw _ (List.mem_of_getElem? (i := 40) rfl))) (mvT hZ (hw _ (List.mem_of_getElem? (i := 41) rfl))) (notFace_of_selects (args := #[]) (mvT hZ (hw _ (List.mem_of_getElem? (i := 43) rfl)))) (mvT hZ (hw _ (List.mem_of_getElem? (i := 43) rfl))) (mvT hZ (hw _ (List.mem_of_getElem? (i := 42) rfl))) (by decide) (backOf (W := 0) (rmNode l Z a0 hw [] b261 (1 : Int32) (2 : Int32) (2 : Int32) [ka, kb] [u2, u4] [(.ref b145), (.ref b222)] [u3, u5] u4 T277.heap n0 Zq277 B277 (by decide) (by decide) rfl) hZ (hw _ (List.mem_of_getElem? (i := 44) rfl)) (hw _ (List.mem_of_getElem? (i := 3) rfl)) (by decide) (by decide)) q287a q287c (g := (mkF m 291 #[iv u0, iv u1, iv u2, .val (.long u3), .second, iv u4, .val (.long u5), .second, iv (2 : Int32), iv ka, iv kb, rv b145, rv b222, rv b261, iv (0 : Int32), iv (1 : Int32), iv (2 : Int32), iv (1 : Int32)] [(.int (1 : Int32)), (.ref b261)])) rfl (by rw [hml]; rfl) (Steps.refl _) (argsL := [(.int (1 : Int32))]) (rest := []) (lenOf pd_4 rfl) rfl (by show 2 * 0 + _ ≤ _; exact Nat.le_of_eq rfl) (hb hby at_291) (fun _ _ => ⟨rfl, eq286, (by decide : 7 + 0 ≤ _), (by decide : 16 + 0 ≤ _)⟩)
        dsimp only [Pt.U, Pt.locs, Pt.cells, Pt.slots] at X287 l287 y287 z287 st287 hQ287
        subst y287 z287
        obtain ⟨rfl, Nq287, eq287⟩ := hQ287
        have N287 : Fr n0 L287 := by rw [l287]; exact Fr.app N286 Nq287
        obtain ⟨cq288, kq288, q288a, q288b, q288c⟩ := isOf hZ eq287 f280
        obtain ⟨_, _, ⟨T288, L288, k288, n288⟩, -, X288, ⟨Lc288, hQ288, l288, y288, z288⟩, st288⟩ := X287.virtualBack hx (y := (⟨"com/example/agouti/agouti/store/IndexBuilder$Notes", "value", "(I)[B"⟩ : MethodName)) (z := (⟨"com/example/agouti/agouti/store/IndexBuilder$Notes", "value", "(I)[B"⟩ : MethodName)) hown (mvT hZ (hw _ (List.mem_of_getElem? (i := 45) rfl))) (mvT hZ (hw _ (List.mem_of_getElem? (i := 46) rfl))) (notFace_of_selects (args := #[]) (mvT hZ (hw _ (List.mem_of_getElem? (i := 48) rfl)))) (mvT hZ (hw _ (List.mem_of_getElem? (i := 48) rfl))) (mvT hZ (hw _ (List.mem_of_getElem? (i := 47) rfl))) (by decide) (backOf (W := 0) (rmVal1 l Z a0 hw [] b261 (1 : Int32) (2 : Int32) (2 : Int32) [ka, kb] [u2, u4] [(.ref b145), (.ref b222)] [u3, u5] b222 T277.heap n0 Zq277 B277 (by decide) (by decide) rfl) hZ (hw _ (List.mem_of_getElem? (i := 49) rfl)) (hw _ (List.mem_of_getElem? (i := 3) rfl)) (by decide) (by decide)) q288a q288c (g := (mkF m 302 #[iv u0, iv u1, iv u2, .val (.long u3), .second, iv u4, .val (.long u5), .second, iv (2 : Int32), iv ka, iv kb, rv b145, rv b222, rv b261, iv (0 : Int32), iv (1 : Int32), iv (2 : Int32), iv (1 : Int32)] [(.int (1 : Int32)), (.ref b261)])) rfl (by rw [hml]; rfl) (Steps.refl _) (argsL := [(.int (1 : Int32))]) (rest := []) (lenOf pd_5 rfl) rfl (by show 2 * 0 + _ ≤ _; exact Nat.le_of_eq rfl) (hb hby at_302) (fun _ _ => ⟨rfl, eq287, (by decide : 7 + 0 ≤ _), (by decide : 16 + 0 ≤ _)⟩)
        dsimp only [Pt.U, Pt.locs, Pt.cells, Pt.slots] at X288 l288 y288 z288 st288 hQ288
        subst y288 z288
        obtain ⟨rfl, Nq288, eq288⟩ := hQ288
        have N288 : Fr n0 L288 := by rw [l288]; exact Fr.app N287 Nq288
        obtain ⟨cq289, kq289, q289a, q289b, q289c⟩ := isOf hZ eq288 f280
        obtain ⟨_, _, ⟨T289, L289, k289, n289⟩, -, X289, ⟨Lc289, hQ289, l289, y289, z289⟩, st289⟩ := X288.virtualBack hx (y := (⟨"com/example/agouti/agouti/store/IndexBuilder$Notes", "hash", "(I)J"⟩ : MethodName)) (z := (⟨"com/example/agouti/agouti/store/IndexBuilder$Notes", "hash", "(I)J"⟩ : MethodName)) hown (mvT hZ (hw _ (List.mem_of_getElem? (i := 50) rfl))) (mvT hZ (hw _ (List.mem_of_getElem? (i := 51) rfl))) (notFace_of_selects (args := #[]) (mvT hZ (hw _ (List.mem_of_getElem? (i := 53) rfl)))) (mvT hZ (hw _ (List.mem_of_getElem? (i := 53) rfl))) (mvT hZ (hw _ (List.mem_of_getElem? (i := 52) rfl))) (by decide) (backOf (W := 0) (rmHash l Z a0 hw [] b261 (1 : Int32) (2 : Int32) (2 : Int32) [ka, kb] [u2, u4] [(.ref b145), (.ref b222)] [u3, u5] u5 T277.heap n0 Zq277 B277 (by decide) (by decide) rfl) hZ (hw _ (List.mem_of_getElem? (i := 54) rfl)) (hw _ (List.mem_of_getElem? (i := 3) rfl)) (by decide) (by decide)) q289a q289c (g := (mkF m 313 #[iv u0, iv u1, iv u2, .val (.long u3), .second, iv u4, .val (.long u5), .second, iv (2 : Int32), iv ka, iv kb, rv b145, rv b222, rv b261, iv (0 : Int32), iv (1 : Int32), iv (2 : Int32), iv (1 : Int32)] [(.int (1 : Int32)), (.ref b261)])) rfl (by rw [hml]; rfl) (Steps.refl _) (argsL := [(.int (1 : Int32))]) (rest := []) (lenOf pd_6 rfl) rfl (by show 2 * 0 + _ ≤ _; exact Nat.le_of_eq rfl) (hb hby at_313) (fun _ _ => ⟨rfl, eq288, (by decide : 7 + 0 ≤ _), (by decide : 16 + 0 ≤ _)⟩)
        dsimp only [Pt.U, Pt.locs, Pt.cells, Pt.slots] at X289 l289 y289 z289 st289 hQ289
        subst y289 z289
        obtain ⟨rfl, Nq289, eq289⟩ := hQ289
        have N289 : Fr n0 L289 := by rw [l289]; exact Fr.app N288 Nq289
        obtain ⟨fs, hr, hrun, hended, hW, hsame⟩ := X289.leave (v := some (.int (1 : Int32))) (fun h => by rw [Bd.returns] at h; cases h)
        refine ⟨_, _, S239 _ ?_, hrun, hended, _, _, rfl, ?_, ⟨_, rfl⟩, hW, hsame.mono (by decide) (by decide)⟩
        · skip
          show Steps p.tables e below (T233.setTop (mkF m 87 #[iv u0, iv u1, iv u2, .val (.long u3), .second, iv u4, .val (.long u5), .second, iv (2 : Int32), iv ka, iv kb, rv b145, rv b222, .unset, .unset, .unset, .unset, .unset] [])) _
          refine st261 _ ?_
          show Steps p.tables e below (T261.setTop (mkF m 90 #[iv u0, iv u1, iv u2, .val (.long u3), .second, iv u4, .val (.long u5), .second, iv (2 : Int32), iv ka, iv kb, rv b145, rv b222, .unset, .unset, .unset, .unset, .unset] [(.ref b261)])) _
          refine XS.dup X261.here hx rfl (hb hby at_90) rfl rfl ?_
          show Steps p.tables e below (T261.setTop (mkF m 91 #[iv u0, iv u1, iv u2, .val (.long u3), .second, iv u4, .val (.long u5), .second, iv (2 : Int32), iv ka, iv kb, rv b145, rv b222, .unset, .unset, .unset, .unset, .unset] [(.ref b261), (.ref b261)])) _
          refine XS.iload X261.here hx rfl (hb hby at_91) rfl ?_
          show Steps p.tables e below (T261.setTop (mkF m 93 #[iv u0, iv u1, iv u2, .val (.long u3), .second, iv u4, .val (.long u5), .second, iv (2 : Int32), iv ka, iv kb, rv b145, rv b222, .unset, .unset, .unset, .unset, .unset] [(.int (2 : Int32)), (.ref b261), (.ref b261)])) _
          refine st264.trans ?_
          show Steps p.tables e below (T264.setTop (mkF m 96 #[iv u0, iv u1, iv u2, .val (.long u3), .second, iv u4, .val (.long u5), .second, iv (2 : Int32), iv ka, iv kb, rv b145, rv b222, .unset, .unset, .unset, .unset, .unset] [(.ref b261)])) _
          refine XS.astore X264.here hx rfl (hb hby at_96) rfl rfl (l' := #[iv u0, iv u1, iv u2, .val (.long u3), .second, iv u4, .val (.long u5), .second, iv (2 : Int32), iv ka, iv kb, rv b145, rv b222, rv b261, .unset, .unset, .unset, .unset]) rfl ?_
          show Steps p.tables e below (T264.setTop (mkF m 98 #[iv u0, iv u1, iv u2, .val (.long u3), .second, iv u4, .val (.long u5), .second, iv (2 : Int32), iv ka, iv kb, rv b145, rv b222, rv b261, .unset, .unset, .unset, .unset] [])) _
          refine XS.aload X264.here hx rfl (hb hby at_98) rfl rfl ?_
          show Steps p.tables e below (T264.setTop (mkF m 100 #[iv u0, iv u1, iv u2, .val (.long u3), .second, iv u4, .val (.long u5), .second, iv (2 : Int32), iv ka, iv kb, rv b145, rv b222, rv b261, .unset, .unset, .unset, .unset] [(.ref b261)])) _
          refine XS.iload X264.here hx rfl (hb hby at_100) rfl ?_
          show Steps p.tables e below (T264.setTop (mkF m 102 #[iv u0, iv u1, iv u2, .val (.long u3), .second, iv u4, .val (.long u5), .second, iv (2 : Int32), iv ka, iv kb, rv b145, rv b222, rv b261, .unset, .unset, .unset, .unset] [(.int ka), (.ref b261)])) _
          refine XS.iloadN X264.here hx rfl (hb hby at_102) rfl ?_
          show Steps p.tables e below (T264.setTop (mkF m 103 #[iv u0, iv u1, iv u2, .val (.long u3), .second, iv u4, .val (.long u5), .second, iv (2 : Int32), iv ka, iv kb, rv b145, rv b222, rv b261, .unset, .unset, .unset, .unset] [(.int u2), (.int ka), (.ref b261)])) _
          refine XS.aload X264.here hx rfl (hb hby at_103) rfl rfl ?_
          show Steps p.tables e below (T264.setTop (mkF m 105 #[iv u0, iv u1, iv u2, .val (.long u3), .second, iv u4, .val (.long u5), .second, iv (2 : Int32), iv ka, iv kb, rv b145, rv b222, rv b261, .unset, .unset, .unset, .unset] [(.ref b145), (.int u2), (.int ka), (.ref b261)])) _
          refine XS.lloadN X264.here hx rfl (hb hby at_105) rfl ?_
          show Steps p.tables e below (T264.setTop (mkF m 106 #[iv u0, iv u1, iv u2, .val (.long u3), .second, iv u4, .val (.long u5), .second, iv (2 : Int32), iv ka, iv kb, rv b145, rv b222, rv b261, .unset, .unset, .unset, .unset] [(.long u3), (.ref b145), (.int u2), (.int ka), (.ref b261)])) _
          refine st273.trans ?_
          show Steps p.tables e below (T273.setTop (mkF m 109 #[iv u0, iv u1, iv u2, .val (.long u3), .second, iv u4, .val (.long u5), .second, iv (2 : Int32), iv ka, iv kb, rv b145, rv b222, rv b261, .unset, .unset, .unset, .unset] [(.int (0 : Int32))])) _
          refine XS.istore X273.here hx rfl (hb hby at_109) rfl (l' := #[iv u0, iv u1, iv u2, .val (.long u3), .second, iv u4, .val (.long u5), .second, iv (2 : Int32), iv ka, iv kb, rv b145, rv b222, rv b261, iv (0 : Int32), .unset, .unset, .unset]) rfl ?_
          show Steps p.tables e below (T273.setTop (mkF m 111 #[iv u0, iv u1, iv u2, .val (.long u3), .second, iv u4, .val (.long u5), .second, iv (2 : Int32), iv ka, iv kb, rv b145, rv b222, rv b261, iv (0 : Int32), .unset, .unset, .unset] [])) _
          refine XS.iload X273.here hx rfl (hb hby at_111) rfl ?_
          show Steps p.tables e below (T273.setTop (mkF m 113 #[iv u0, iv u1, iv u2, .val (.long u3), .second, iv u4, .val (.long u5), .second, iv (2 : Int32), iv ka, iv kb, rv b145, rv b222, rv b261, iv (0 : Int32), .unset, .unset, .unset] [(.int (0 : Int32))])) _
          refine XS.iload X273.here hx rfl (hb hby at_113) rfl ?_
          show Steps p.tables e below (T273.setTop (mkF m 115 #[iv u0, iv u1, iv u2, .val (.long u3), .second, iv u4, .val (.long u5), .second, iv (2 : Int32), iv ka, iv kb, rv b145, rv b222, rv b261, iv (0 : Int32), .unset, .unset, .unset] [(.int (2 : Int32)), (.int (0 : Int32))])) _
          refine XS.iconst X273.here hx rfl (hb hby at_115) ?_
          show Steps p.tables e below (T273.setTop (mkF m 116 #[iv u0, iv u1, iv u2, .val (.long u3), .second, iv u4, .val (.long u5), .second, iv (2 : Int32), iv ka, iv kb, rv b145, rv b222, rv b261, iv (0 : Int32), .unset, .unset, .unset] [(.int (1 : Int32)), (.int (2 : Int32)), (.int (0 : Int32))])) _
          refine XS.icmpYes X273.here hx rfl (pc0 := 116) (pc' := 123) rfl (hb hby at_116) rfl (feq (by decide : ¬ ((2 : Int32) = (1 : Int32)))).2 (by decide) (by decide) ?_
          show Steps p.tables e below (T273.setTop (mkF m 123 #[iv u0, iv u1, iv u2, .val (.long u3), .second, iv u4, .val (.long u5), .second, iv (2 : Int32), iv ka, iv kb, rv b145, rv b222, rv b261, iv (0 : Int32), .unset, .unset, .unset] [(.int (0 : Int32))])) _
          refine XS.iconst X273.here hx rfl (hb hby at_123) ?_
          show Steps p.tables e below (T273.setTop (mkF m 124 #[iv u0, iv u1, iv u2, .val (.long u3), .second, iv u4, .val (.long u5), .second, iv (2 : Int32), iv ka, iv kb, rv b145, rv b222, rv b261, iv (0 : Int32), .unset, .unset, .unset] [(.int (0 : Int32)), (.int (0 : Int32))])) _
          refine XS.icmpNo X273.here hx rfl (hb hby at_124) rfl (teq (by decide : (0 : Int32) = (0 : Int32))).2 ?_
          show Steps p.tables e below (T273.setTop (mkF m 127 #[iv u0, iv u1, iv u2, .val (.long u3), .second, iv u4, .val (.long u5), .second, iv (2 : Int32), iv ka, iv kb, rv b145, rv b222, rv b261, iv (0 : Int32), .unset, .unset, .unset] [])) _
          refine XS.iconst X273.here hx rfl (hb hby at_127) ?_
          show Steps p.tables e below (T273.setTop (mkF m 128 #[iv u0, iv u1, iv u2, .val (.long u3), .second, iv u4, .val (.long u5), .second, iv (2 : Int32), iv ka, iv kb, rv b145, rv b222, rv b261, iv (0 : Int32), .unset, .unset, .unset] [(.int (1 : Int32))])) _
          refine XS.goto X273.here hx rfl (pc0 := 128) (pc' := 132) rfl (hb hby at_128) (by decide) (by decide) ?_
          show Steps p.tables e below (T273.setTop (mkF m 132 #[iv u0, iv u1, iv u2, .val (.long u3), .second, iv u4, .val (.long u5), .second, iv (2 : Int32), iv ka, iv kb, rv b145, rv b222, rv b261, iv (0 : Int32), .unset, .unset, .unset] [(.int (1 : Int32))])) _
          refine XS.istore X273.here hx rfl (hb hby at_132) rfl (l' := #[iv u0, iv u1, iv u2, .val (.long u3), .second, iv u4, .val (.long u5), .second, iv (2 : Int32), iv ka, iv kb, rv b145, rv b222, rv b261, iv (0 : Int32), iv (1 : Int32), .unset, .unset]) rfl ?_
          show Steps p.tables e below (T273.setTop (mkF m 134 #[iv u0, iv u1, iv u2, .val (.long u3), .second, iv u4, .val (.long u5), .second, iv (2 : Int32), iv ka, iv kb, rv b145, rv b222, rv b261, iv (0 : Int32), iv (1 : Int32), .unset, .unset] [])) _
          refine XS.iconst X273.here hx rfl (hb hby at_134) ?_
          show Steps p.tables e below (T273.setTop (mkF m 135 #[iv u0, iv u1, iv u2, .val (.long u3), .second, iv u4, .val (.long u5), .second, iv (2 : Int32), iv ka, iv kb, rv b145, rv b222, rv b261, iv (0 : Int32), iv (1 : Int32), .unset, .unset] [(.int (1 : Int32))])) _
          refine XS.istore X273.here hx rfl (hb hby at_135) rfl (l' := #[iv u0, iv u1, iv u2, .val (.long u3), .second, iv u4, .val (.long u5), .second, iv (2 : Int32), iv ka, iv kb, rv b145, rv b222, rv b261, iv (0 : Int32), iv (1 : Int32), iv (1 : Int32), .unset]) rfl ?_
          show Steps p.tables e below (T273.setTop (mkF m 137 #[iv u0, iv u1, iv u2, .val (.long u3), .second, iv u4, .val (.long u5), .second, iv (2 : Int32), iv ka, iv kb, rv b145, rv b222, rv b261, iv (0 : Int32), iv (1 : Int32), iv (1 : Int32), .unset] [])) _
          refine XS.iload X273.here hx rfl (hb hby at_137) rfl ?_
          show Steps p.tables e below (T273.setTop (mkF m 139 #[iv u0, iv u1, iv u2, .val (.long u3), .second, iv u4, .val (.long u5), .second, iv (2 : Int32), iv ka, iv kb, rv b145, rv b222, rv b261, iv (0 : Int32), iv (1 : Int32), iv (1 : Int32), .unset] [(.int (2 : Int32))])) _
          refine XS.iconst X273.here hx rfl (hb hby at_139) ?_
          show Steps p.tables e below (T273.setTop (mkF m 140 #[iv u0, iv u1, iv u2, .val (.long u3), .second, iv u4, .val (.long u5), .second, iv (2 : Int32), iv ka, iv kb, rv b145, rv b222, rv b261, iv (0 : Int32), iv (1 : Int32), iv (1 : Int32), .unset] [(.int (2 : Int32)), (.int (2 : Int32))])) _
          refine XS.icmpNo X273.here hx rfl (hb hby at_140) rfl (flt (by decide : ¬ ((2 : Int32) < (2 : Int32)))).1 ?_
          show Steps p.tables e below (T273.setTop (mkF m 143 #[iv u0, iv u1, iv u2, .val (.long u3), .second, iv u4, .val (.long u5), .second, iv (2 : Int32), iv ka, iv kb, rv b145, rv b222, rv b261, iv (0 : Int32), iv (1 : Int32), iv (1 : Int32), .unset] [])) _
          refine XS.aload X273.here hx rfl (hb hby at_143) rfl rfl ?_
          show Steps p.tables e below (T273.setTop (mkF m 145 #[iv u0, iv u1, iv u2, .val (.long u3), .second, iv u4, .val (.long u5), .second, iv (2 : Int32), iv ka, iv kb, rv b145, rv b222, rv b261, iv (0 : Int32), iv (1 : Int32), iv (1 : Int32), .unset] [(.ref b261)])) _
          refine XS.iload X273.here hx rfl (hb hby at_145) rfl ?_
          show Steps p.tables e below (T273.setTop (mkF m 147 #[iv u0, iv u1, iv u2, .val (.long u3), .second, iv u4, .val (.long u5), .second, iv (2 : Int32), iv ka, iv kb, rv b145, rv b222, rv b261, iv (0 : Int32), iv (1 : Int32), iv (1 : Int32), .unset] [(.int kb), (.ref b261)])) _
          refine XS.iload X273.here hx rfl (hb hby at_147) rfl ?_
          show Steps p.tables e below (T273.setTop (mkF m 149 #[iv u0, iv u1, iv u2, .val (.long u3), .second, iv u4, .val (.long u5), .second, iv (2 : Int32), iv ka, iv kb, rv b145, rv b222, rv b261, iv (0 : Int32), iv (1 : Int32), iv (1 : Int32), .unset] [(.int u4), (.int kb), (.ref b261)])) _
          refine XS.aload X273.here hx rfl (hb hby at_149) rfl rfl ?_
          show Steps p.tables e below (T273.setTop (mkF m 151 #[iv u0, iv u1, iv u2, .val (.long u3), .second, iv u4, .val (.long u5), .second, iv (2 : Int32), iv ka, iv kb, rv b145, rv b222, rv b261, iv (0 : Int32), iv (1 : Int32), iv (1 : Int32), .unset] [(.ref b222), (.int u4), (.int kb), (.ref b261)])) _
          refine XS.lload X273.here hx rfl (hb hby at_151) rfl ?_
          show Steps p.tables e below (T273.setTop (mkF m 153 #[iv u0, iv u1, iv u2, .val (.long u3), .second, iv u4, .val (.long u5), .second, iv (2 : Int32), iv ka, iv kb, rv b145, rv b222, rv b261, iv (0 : Int32), iv (1 : Int32), iv (1 : Int32), .unset] [(.long u5), (.ref b222), (.int u4), (.int kb), (.ref b261)])) _
          refine st277.trans ?_
          show Steps p.tables e below (T277.setTop (mkF m 156 #[iv u0, iv u1, iv u2, .val (.long u3), .second, iv u4, .val (.long u5), .second, iv (2 : Int32), iv ka, iv kb, rv b145, rv b222, rv b261, iv (0 : Int32), iv (1 : Int32), iv (1 : Int32), .unset] [(.int (1 : Int32))])) _
          refine XS.istore X277.here hx rfl (hb hby at_156) rfl (l' := #[iv u0, iv u1, iv u2, .val (.long u3), .second, iv u4, .val (.long u5), .second, iv (2 : Int32), iv ka, iv kb, rv b145, rv b222, rv b261, iv (0 : Int32), iv (1 : Int32), iv (1 : Int32), iv (1 : Int32)]) rfl ?_
          show Steps p.tables e below (T277.setTop (mkF m 158 #[iv u0, iv u1, iv u2, .val (.long u3), .second, iv u4, .val (.long u5), .second, iv (2 : Int32), iv ka, iv kb, rv b145, rv b222, rv b261, iv (0 : Int32), iv (1 : Int32), iv (1 : Int32), iv (1 : Int32)] [])) _
          refine XS.iload X277.here hx rfl (hb hby at_158) rfl ?_
          show Steps p.tables e below (T277.setTop (mkF m 160 #[iv u0, iv u1, iv u2, .val (.long u3), .second, iv u4, .val (.long u5), .second, iv (2 : Int32), iv ka, iv kb, rv b145, rv b222, rv b261, iv (0 : Int32), iv (1 : Int32), iv (1 : Int32), iv (1 : Int32)] [(.int (1 : Int32))])) _
          refine XS.ifNo X277.here hx rfl (hb hby at_160) rfl ((if0 _ _).trans (feq (by decide : ¬ ((1 : Int32) = (0 : Int32)))).1) ?_
          show Steps p.tables e below (T277.setTop (mkF m 163 #[iv u0, iv u1, iv u2, .val (.long u3), .second, iv u4, .val (.long u5), .second, iv (2 : Int32), iv ka, iv kb, rv b145, rv b222, rv b261, iv (0 : Int32), iv (1 : Int32), iv (1 : Int32), iv (1 : Int32)] [])) _
          refine XS.iload X277.here hx rfl (hb hby at_163) rfl ?_
          show Steps p.tables e below (T277.setTop (mkF m 165 #[iv u0, iv u1, iv u2, .val (.long u3), .second, iv u4, .val (.long u5), .second, iv (2 : Int32), iv ka, iv kb, rv b145, rv b222, rv b261, iv (0 : Int32), iv (1 : Int32), iv (1 : Int32), iv (1 : Int32)] [(.int (1 : Int32))])) _
          refine XS.iload X277.here hx rfl (hb hby at_165) rfl ?_
          show Steps p.tables e below (T277.setTop (mkF m 167 #[iv u0, iv u1, iv u2, .val (.long u3), .second, iv u4, .val (.long u5), .second, iv (2 : Int32), iv ka, iv kb, rv b145, rv b222, rv b261, iv (0 : Int32), iv (1 : Int32), iv (1 : Int32), iv (1 : Int32)] [(.int (2 : Int32)), (.int (1 : Int32))])) _
          refine XS.iconst X277.here hx rfl (hb hby at_167) ?_
          show Steps p.tables e below (T277.setTop (mkF m 168 #[iv u0, iv u1, iv u2, .val (.long u3), .second, iv u4, .val (.long u5), .second, iv (2 : Int32), iv ka, iv kb, rv b145, rv b222, rv b261, iv (0 : Int32), iv (1 : Int32), iv (1 : Int32), iv (1 : Int32)] [(.int (2 : Int32)), (.int (2 : Int32)), (.int (1 : Int32))])) _
          refine XS.icmpNo X277.here hx rfl (hb hby at_168) rfl (teq (by decide : (2 : Int32) = (2 : Int32))).2 ?_
          show Steps p.tables e below (T277.setTop (mkF m 171 #[iv u0, iv u1, iv u2, .val (.long u3), .second, iv u4, .val (.long u5), .second, iv (2 : Int32), iv ka, iv kb, rv b145, rv b222, rv b261, iv (0 : Int32), iv (1 : Int32), iv (1 : Int32), iv (1 : Int32)] [(.int (1 : Int32))])) _
          refine XS.iconst X277.here hx rfl (hb hby at_171) ?_
          show Steps p.tables e below (T277.setTop (mkF m 172 #[iv u0, iv u1, iv u2, .val (.long u3), .second, iv u4, .val (.long u5), .second, iv (2 : Int32), iv ka, iv kb, rv b145, rv b222, rv b261, iv (0 : Int32), iv (1 : Int32), iv (1 : Int32), iv (1 : Int32)] [(.int (1 : Int32)), (.int (1 : Int32))])) _
          refine XS.goto X277.here hx rfl (pc0 := 172) (pc' := 176) rfl (hb hby at_172) (by decide) (by decide) ?_
          show Steps p.tables e below (T277.setTop (mkF m 176 #[iv u0, iv u1, iv u2, .val (.long u3), .second, iv u4, .val (.long u5), .second, iv (2 : Int32), iv ka, iv kb, rv b145, rv b222, rv b261, iv (0 : Int32), iv (1 : Int32), iv (1 : Int32), iv (1 : Int32)] [(.int (1 : Int32)), (.int (1 : Int32))])) _
          refine XS.icmpNo X277.here hx rfl (hb hby at_176) rfl (teq (by decide : (1 : Int32) = (1 : Int32))).2 ?_
          show Steps p.tables e below (T277.setTop (mkF m 179 #[iv u0, iv u1, iv u2, .val (.long u3), .second, iv u4, .val (.long u5), .second, iv (2 : Int32), iv ka, iv kb, rv b145, rv b222, rv b261, iv (0 : Int32), iv (1 : Int32), iv (1 : Int32), iv (1 : Int32)] [])) _
          refine XS.iconst X277.here hx rfl (hb hby at_179) ?_
          show Steps p.tables e below (T277.setTop (mkF m 180 #[iv u0, iv u1, iv u2, .val (.long u3), .second, iv u4, .val (.long u5), .second, iv (2 : Int32), iv ka, iv kb, rv b145, rv b222, rv b261, iv (0 : Int32), iv (1 : Int32), iv (1 : Int32), iv (1 : Int32)] [(.int (1 : Int32))])) _
          refine XS.goto X277.here hx rfl (pc0 := 180) (pc' := 184) rfl (hb hby at_180) (by decide) (by decide) ?_
          show Steps p.tables e below (T277.setTop (mkF m 184 #[iv u0, iv u1, iv u2, .val (.long u3), .second, iv u4, .val (.long u5), .second, iv (2 : Int32), iv ka, iv kb, rv b145, rv b222, rv b261, iv (0 : Int32), iv (1 : Int32), iv (1 : Int32), iv (1 : Int32)] [(.int (1 : Int32))])) _
          refine XS.istore X277.here hx rfl (hb hby at_184) rfl (l' := #[iv u0, iv u1, iv u2, .val (.long u3), .second, iv u4, .val (.long u5), .second, iv (2 : Int32), iv ka, iv kb, rv b145, rv b222, rv b261, iv (0 : Int32), iv (1 : Int32), iv (1 : Int32), iv (1 : Int32)]) rfl ?_
          show Steps p.tables e below (T277.setTop (mkF m 186 #[iv u0, iv u1, iv u2, .val (.long u3), .second, iv u4, .val (.long u5), .second, iv (2 : Int32), iv ka, iv kb, rv b145, rv b222, rv b261, iv (0 : Int32), iv (1 : Int32), iv (1 : Int32), iv (1 : Int32)] [])) _
          refine XS.iconst X277.here hx rfl (hb hby at_186) ?_
          show Steps p.tables e below (T277.setTop (mkF m 187 #[iv u0, iv u1, iv u2, .val (.long u3), .second, iv u4, .val (.long u5), .second, iv (2 : Int32), iv ka, iv kb, rv b145, rv b222, rv b261, iv (0 : Int32), iv (1 : Int32), iv (1 : Int32), iv (1 : Int32)] [(.int (2 : Int32))])) _
          refine XS.istore X277.here hx rfl (hb hby at_187) rfl (l' := #[iv u0, iv u1, iv u2, .val (.long u3), .second, iv u4, .val (.long u5), .second, iv (2 : Int32), iv ka, iv kb, rv b145, rv b222, rv b261, iv (0 : Int32), iv (1 : Int32), iv (2 : Int32), iv (1 : Int32)]) rfl ?_
          show Steps p.tables e below (T277.setTop (mkF m 189 #[iv u0, iv u1, iv u2, .val (.long u3), .second, iv u4, .val (.long u5), .second, iv (2 : Int32), iv ka, iv kb, rv b145, rv b222, rv b261, iv (0 : Int32), iv (1 : Int32), iv (2 : Int32), iv (1 : Int32)] [])) _
          refine XS.iload X277.here hx rfl (hb hby at_189) rfl ?_
          show Steps p.tables e below (T277.setTop (mkF m 191 #[iv u0, iv u1, iv u2, .val (.long u3), .second, iv u4, .val (.long u5), .second, iv (2 : Int32), iv ka, iv kb, rv b145, rv b222, rv b261, iv (0 : Int32), iv (1 : Int32), iv (2 : Int32), iv (1 : Int32)] [(.int (1 : Int32))])) _
          refine XS.ifNo X277.here hx rfl (hb hby at_191) rfl ((if0 _ _).trans (feq (by decide : ¬ ((1 : Int32) = (0 : Int32)))).1) ?_
          show Steps p.tables e below (T277.setTop (mkF m 194 #[iv u0, iv u1, iv u2, .val (.long u3), .second, iv u4, .val (.long u5), .second, iv (2 : Int32), iv ka, iv kb, rv b145, rv b222, rv b261, iv (0 : Int32), iv (1 : Int32), iv (2 : Int32), iv (1 : Int32)] [])) _
          refine XS.aload X277.here hx rfl (hb hby at_194) rfl rfl ?_
          show Steps p.tables e below (T277.setTop (mkF m 196 #[iv u0, iv u1, iv u2, .val (.long u3), .second, iv u4, .val (.long u5), .second, iv (2 : Int32), iv ka, iv kb, rv b145, rv b222, rv b261, iv (0 : Int32), iv (1 : Int32), iv (2 : Int32), iv (1 : Int32)] [(.ref b261)])) _
          refine st281.trans ?_
          show Steps p.tables e below (T281.setTop (mkF m 199 #[iv u0, iv u1, iv u2, .val (.long u3), .second, iv u4, .val (.long u5), .second, iv (2 : Int32), iv ka, iv kb, rv b145, rv b222, rv b261, iv (0 : Int32), iv (1 : Int32), iv (2 : Int32), iv (1 : Int32)] [(.int (2 : Int32))])) _
          refine XS.iload X281.here hx rfl (hb hby at_199) rfl ?_
          show Steps p.tables e below (T281.setTop (mkF m 201 #[iv u0, iv u1, iv u2, .val (.long u3), .second, iv u4, .val (.long u5), .second, iv (2 : Int32), iv ka, iv kb, rv b145, rv b222, rv b261, iv (0 : Int32), iv (1 : Int32), iv (2 : Int32), iv (1 : Int32)] [(.int (2 : Int32)), (.int (2 : Int32))])) _
          refine XS.icmpNo X281.here hx rfl (hb hby at_201) rfl (teq (by decide : (2 : Int32) = (2 : Int32))).2 ?_
          show Steps p.tables e below (T281.setTop (mkF m 204 #[iv u0, iv u1, iv u2, .val (.long u3), .second, iv u4, .val (.long u5), .second, iv (2 : Int32), iv ka, iv kb, rv b145, rv b222, rv b261, iv (0 : Int32), iv (1 : Int32), iv (2 : Int32), iv (1 : Int32)] [])) _
          refine XS.iconst X281.here hx rfl (hb hby at_204) ?_
          show Steps p.tables e below (T281.setTop (mkF m 205 #[iv u0, iv u1, iv u2, .val (.long u3), .second, iv u4, .val (.long u5), .second, iv (2 : Int32), iv ka, iv kb, rv b145, rv b222, rv b261, iv (0 : Int32), iv (1 : Int32), iv (2 : Int32), iv (1 : Int32)] [(.int (1 : Int32))])) _
          refine XS.goto X281.here hx rfl (pc0 := 205) (pc' := 209) rfl (hb hby at_205) (by decide) (by decide) ?_
          show Steps p.tables e below (T281.setTop (mkF m 209 #[iv u0, iv u1, iv u2, .val (.long u3), .second, iv u4, .val (.long u5), .second, iv (2 : Int32), iv ka, iv kb, rv b145, rv b222, rv b261, iv (0 : Int32), iv (1 : Int32), iv (2 : Int32), iv (1 : Int32)] [(.int (1 : Int32))])) _
          refine XS.istore X281.here hx rfl (hb hby at_209) rfl (l' := #[iv u0, iv u1, iv u2, .val (.long u3), .second, iv u4, .val (.long u5), .second, iv (2 : Int32), iv ka, iv kb, rv b145, rv b222, rv b261, iv (0 : Int32), iv (1 : Int32), iv (2 : Int32), iv (1 : Int32)]) rfl ?_
          show Steps p.tables e below (T281.setTop (mkF m 211 #[iv u0, iv u1, iv u2, .val (.long u3), .second, iv u4, .val (.long u5), .second, iv (2 : Int32), iv ka, iv kb, rv b145, rv b222, rv b261, iv (0 : Int32), iv (1 : Int32), iv (2 : Int32), iv (1 : Int32)] [])) _
          refine XS.iload X281.here hx rfl (hb hby at_211) rfl ?_
          show Steps p.tables e below (T281.setTop (mkF m 213 #[iv u0, iv u1, iv u2, .val (.long u3), .second, iv u4, .val (.long u5), .second, iv (2 : Int32), iv ka, iv kb, rv b145, rv b222, rv b261, iv (0 : Int32), iv (1 : Int32), iv (2 : Int32), iv (1 : Int32)] [(.int (1 : Int32))])) _
          refine XS.ifNo X281.here hx rfl (hb hby at_213) rfl ((if0 _ _).trans (feq (by decide : ¬ ((1 : Int32) = (0 : Int32)))).1) ?_
          show Steps p.tables e below (T281.setTop (mkF m 216 #[iv u0, iv u1, iv u2, .val (.long u3), .second, iv u4, .val (.long u5), .second, iv (2 : Int32), iv ka, iv kb, rv b145, rv b222, rv b261, iv (0 : Int32), iv (1 : Int32), iv (2 : Int32), iv (1 : Int32)] [])) _
          refine XS.aload X281.here hx rfl (hb hby at_216) rfl rfl ?_
          show Steps p.tables e below (T281.setTop (mkF m 218 #[iv u0, iv u1, iv u2, .val (.long u3), .second, iv u4, .val (.long u5), .second, iv (2 : Int32), iv ka, iv kb, rv b145, rv b222, rv b261, iv (0 : Int32), iv (1 : Int32), iv (2 : Int32), iv (1 : Int32)] [(.ref b261)])) _
          refine XS.iconst X281.here hx rfl (hb hby at_218) ?_
          show Steps p.tables e below (T281.setTop (mkF m 219 #[iv u0, iv u1, iv u2, .val (.long u3), .second, iv u4, .val (.long u5), .second, iv (2 : Int32), iv ka, iv kb, rv b145, rv b222, rv b261, iv (0 : Int32), iv (1 : Int32), iv (2 : Int32), iv (1 : Int32)] [(.int (0 : Int32)), (.ref b261)])) _
          refine st282.trans ?_
          show Steps p.tables e below (T282.setTop (mkF m 222 #[iv u0, iv u1, iv u2, .val (.long u3), .second, iv u4, .val (.long u5), .second, iv (2 : Int32), iv ka, iv kb, rv b145, rv b222, rv b261, iv (0 : Int32), iv (1 : Int32), iv (2 : Int32), iv (1 : Int32)] [(.int ka)])) _
          refine XS.iload X282.here hx rfl (hb hby at_222) rfl ?_
          show Steps p.tables e below (T282.setTop (mkF m 224 #[iv u0, iv u1, iv u2, .val (.long u3), .second, iv u4, .val (.long u5), .second, iv (2 : Int32), iv ka, iv kb, rv b145, rv b222, rv b261, iv (0 : Int32), iv (1 : Int32), iv (2 : Int32), iv (1 : Int32)] [(.int ka), (.int ka)])) _
          refine XS.icmpNo X282.here hx rfl (hb hby at_224) rfl (teq rfl).2 ?_
          show Steps p.tables e below (T282.setTop (mkF m 227 #[iv u0, iv u1, iv u2, .val (.long u3), .second, iv u4, .val (.long u5), .second, iv (2 : Int32), iv ka, iv kb, rv b145, rv b222, rv b261, iv (0 : Int32), iv (1 : Int32), iv (2 : Int32), iv (1 : Int32)] [])) _
          refine XS.aload X282.here hx rfl (hb hby at_227) rfl rfl ?_
          show Steps p.tables e below (T282.setTop (mkF m 229 #[iv u0, iv u1, iv u2, .val (.long u3), .second, iv u4, .val (.long u5), .second, iv (2 : Int32), iv ka, iv kb, rv b145, rv b222, rv b261, iv (0 : Int32), iv (1 : Int32), iv (2 : Int32), iv (1 : Int32)] [(.ref b261)])) _
          refine XS.iconst X282.here hx rfl (hb hby at_229) ?_
          show Steps p.tables e below (T282.setTop (mkF m 230 #[iv u0, iv u1, iv u2, .val (.long u3), .second, iv u4, .val (.long u5), .second, iv (2 : Int32), iv ka, iv kb, rv b145, rv b222, rv b261, iv (0 : Int32), iv (1 : Int32), iv (2 : Int32), iv (1 : Int32)] [(.int (0 : Int32)), (.ref b261)])) _
          refine st283.trans ?_
          show Steps p.tables e below (T283.setTop (mkF m 233 #[iv u0, iv u1, iv u2, .val (.long u3), .second, iv u4, .val (.long u5), .second, iv (2 : Int32), iv ka, iv kb, rv b145, rv b222, rv b261, iv (0 : Int32), iv (1 : Int32), iv (2 : Int32), iv (1 : Int32)] [(.int u2)])) _
          refine XS.iloadN X283.here hx rfl (hb hby at_233) rfl ?_
          show Steps p.tables e below (T283.setTop (mkF m 234 #[iv u0, iv u1, iv u2, .val (.long u3), .second, iv u4, .val (.long u5), .second, iv (2 : Int32), iv ka, iv kb, rv b145, rv b222, rv b261, iv (0 : Int32), iv (1 : Int32), iv (2 : Int32), iv (1 : Int32)] [(.int u2), (.int u2)])) _
          refine XS.icmpNo X283.here hx rfl (hb hby at_234) rfl (teq rfl).2 ?_
          show Steps p.tables e below (T283.setTop (mkF m 237 #[iv u0, iv u1, iv u2, .val (.long u3), .second, iv u4, .val (.long u5), .second, iv (2 : Int32), iv ka, iv kb, rv b145, rv b222, rv b261, iv (0 : Int32), iv (1 : Int32), iv (2 : Int32), iv (1 : Int32)] [])) _
          refine XS.aload X283.here hx rfl (hb hby at_237) rfl rfl ?_
          show Steps p.tables e below (T283.setTop (mkF m 239 #[iv u0, iv u1, iv u2, .val (.long u3), .second, iv u4, .val (.long u5), .second, iv (2 : Int32), iv ka, iv kb, rv b145, rv b222, rv b261, iv (0 : Int32), iv (1 : Int32), iv (2 : Int32), iv (1 : Int32)] [(.ref b261)])) _
          refine XS.iconst X283.here hx rfl (hb hby at_239) ?_
          show Steps p.tables e below (T283.setTop (mkF m 240 #[iv u0, iv u1, iv u2, .val (.long u3), .second, iv u4, .val (.long u5), .second, iv (2 : Int32), iv ka, iv kb, rv b145, rv b222, rv b261, iv (0 : Int32), iv (1 : Int32), iv (2 : Int32), iv (1 : Int32)] [(.int (0 : Int32)), (.ref b261)])) _
          refine st284.trans ?_
          show Steps p.tables e below (T284.setTop (mkF m 243 #[iv u0, iv u1, iv u2, .val (.long u3), .second, iv u4, .val (.long u5), .second, iv (2 : Int32), iv ka, iv kb, rv b145, rv b222, rv b261, iv (0 : Int32), iv (1 : Int32), iv (2 : Int32), iv (1 : Int32)] [(.ref b145)])) _
          refine XS.aload X284.here hx rfl (hb hby at_243) rfl rfl ?_
          show Steps p.tables e below (T284.setTop (mkF m 245 #[iv u0, iv u1, iv u2, .val (.long u3), .second, iv u4, .val (.long u5), .second, iv (2 : Int32), iv ka, iv kb, rv b145, rv b222, rv b261, iv (0 : Int32), iv (1 : Int32), iv (2 : Int32), iv (1 : Int32)] [(.ref b145), (.ref b145)])) _
          refine Jvm.RoadKit.acmp (g := (mkF m 245 #[iv u0, iv u1, iv u2, .val (.long u3), .second, iv u4, .val (.long u5), .second, iv (2 : Int32), iv ka, iv kb, rv b145, rv b222, rv b261, iv (0 : Int32), iv (1 : Int32), iv (2 : Int32), iv (1 : Int32)] [(.ref b145), (.ref b145)])) X284 hx rfl rfl rfl (pc0 := 245) (pc' := 248) (same := true) rfl (hb hby at_245) rfl (decide_eq_true rfl) (by decide) (by decide) ?_
          show Steps p.tables e below (T284.setTop (mkF m 248 #[iv u0, iv u1, iv u2, .val (.long u3), .second, iv u4, .val (.long u5), .second, iv (2 : Int32), iv ka, iv kb, rv b145, rv b222, rv b261, iv (0 : Int32), iv (1 : Int32), iv (2 : Int32), iv (1 : Int32)] [])) _
          refine XS.aload X284.here hx rfl (hb hby at_248) rfl rfl ?_
          show Steps p.tables e below (T284.setTop (mkF m 250 #[iv u0, iv u1, iv u2, .val (.long u3), .second, iv u4, .val (.long u5), .second, iv (2 : Int32), iv ka, iv kb, rv b145, rv b222, rv b261, iv (0 : Int32), iv (1 : Int32), iv (2 : Int32), iv (1 : Int32)] [(.ref b261)])) _
          refine XS.iconst X284.here hx rfl (hb hby at_250) ?_
          show Steps p.tables e below (T284.setTop (mkF m 251 #[iv u0, iv u1, iv u2, .val (.long u3), .second, iv u4, .val (.long u5), .second, iv (2 : Int32), iv ka, iv kb, rv b145, rv b222, rv b261, iv (0 : Int32), iv (1 : Int32), iv (2 : Int32), iv (1 : Int32)] [(.int (0 : Int32)), (.ref b261)])) _
          refine st285.trans ?_
          show Steps p.tables e below (T285.setTop (mkF m 254 #[iv u0, iv u1, iv u2, .val (.long u3), .second, iv u4, .val (.long u5), .second, iv (2 : Int32), iv ka, iv kb, rv b145, rv b222, rv b261, iv (0 : Int32), iv (1 : Int32), iv (2 : Int32), iv (1 : Int32)] [(.long u3)])) _
          refine XS.lloadN X285.here hx rfl (hb hby at_254) rfl ?_
          show Steps p.tables e below (T285.setTop (mkF m 255 #[iv u0, iv u1, iv u2, .val (.long u3), .second, iv u4, .val (.long u5), .second, iv (2 : Int32), iv ka, iv kb, rv b145, rv b222, rv b261, iv (0 : Int32), iv (1 : Int32), iv (2 : Int32), iv (1 : Int32)] [(.long u3), (.long u3)])) _
          refine XS.lcmp X285.here hx rfl (hb hby at_255) rfl ?_
          show Steps p.tables e below (T285.setTop (mkF m 256 #[iv u0, iv u1, iv u2, .val (.long u3), .second, iv u4, .val (.long u5), .second, iv (2 : Int32), iv ka, iv kb, rv b145, rv b222, rv b261, iv (0 : Int32), iv (1 : Int32), iv (2 : Int32), iv (1 : Int32)] [(.int (lcmpW u3 u3))])) _
          refine XS.ifNo X285.here hx rfl (hb hby at_256) rfl ((if0 _ _).trans (teq ((lw_eq _ _).mpr rfl)).2) ?_
          show Steps p.tables e below (T285.setTop (mkF m 259 #[iv u0, iv u1, iv u2, .val (.long u3), .second, iv u4, .val (.long u5), .second, iv (2 : Int32), iv ka, iv kb, rv b145, rv b222, rv b261, iv (0 : Int32), iv (1 : Int32), iv (2 : Int32), iv (1 : Int32)] [])) _
          refine XS.iconst X285.here hx rfl (hb hby at_259) ?_
          show Steps p.tables e below (T285.setTop (mkF m 260 #[iv u0, iv u1, iv u2, .val (.long u3), .second, iv u4, .val (.long u5), .second, iv (2 : Int32), iv ka, iv kb, rv b145, rv b222, rv b261, iv (0 : Int32), iv (1 : Int32), iv (2 : Int32), iv (1 : Int32)] [(.int (1 : Int32))])) _
          refine XS.goto X285.here hx rfl (pc0 := 260) (pc' := 264) rfl (hb hby at_260) (by decide) (by decide) ?_
          show Steps p.tables e below (T285.setTop (mkF m 264 #[iv u0, iv u1, iv u2, .val (.long u3), .second, iv u4, .val (.long u5), .second, iv (2 : Int32), iv ka, iv kb, rv b145, rv b222, rv b261, iv (0 : Int32), iv (1 : Int32), iv (2 : Int32), iv (1 : Int32)] [(.int (1 : Int32))])) _
          refine XS.istore X285.here hx rfl (hb hby at_264) rfl (l' := #[iv u0, iv u1, iv u2, .val (.long u3), .second, iv u4, .val (.long u5), .second, iv (2 : Int32), iv ka, iv kb, rv b145, rv b222, rv b261, iv (0 : Int32), iv (1 : Int32), iv (2 : Int32), iv (1 : Int32)]) rfl ?_
          show Steps p.tables e below (T285.setTop (mkF m 266 #[iv u0, iv u1, iv u2, .val (.long u3), .second, iv u4, .val (.long u5), .second, iv (2 : Int32), iv ka, iv kb, rv b145, rv b222, rv b261, iv (0 : Int32), iv (1 : Int32), iv (2 : Int32), iv (1 : Int32)] [])) _
          refine XS.iload X285.here hx rfl (hb hby at_266) rfl ?_
          show Steps p.tables e below (T285.setTop (mkF m 268 #[iv u0, iv u1, iv u2, .val (.long u3), .second, iv u4, .val (.long u5), .second, iv (2 : Int32), iv ka, iv kb, rv b145, rv b222, rv b261, iv (0 : Int32), iv (1 : Int32), iv (2 : Int32), iv (1 : Int32)] [(.int (2 : Int32))])) _
          refine XS.iconst X285.here hx rfl (hb hby at_268) ?_
          show Steps p.tables e below (T285.setTop (mkF m 269 #[iv u0, iv u1, iv u2, .val (.long u3), .second, iv u4, .val (.long u5), .second, iv (2 : Int32), iv ka, iv kb, rv b145, rv b222, rv b261, iv (0 : Int32), iv (1 : Int32), iv (2 : Int32), iv (1 : Int32)] [(.int (2 : Int32)), (.int (2 : Int32))])) _
          refine XS.icmpNo X285.here hx rfl (hb hby at_269) rfl (flt (by decide : ¬ ((2 : Int32) < (2 : Int32)))).1 ?_
          show Steps p.tables e below (T285.setTop (mkF m 272 #[iv u0, iv u1, iv u2, .val (.long u3), .second, iv u4, .val (.long u5), .second, iv (2 : Int32), iv ka, iv kb, rv b145, rv b222, rv b261, iv (0 : Int32), iv (1 : Int32), iv (2 : Int32), iv (1 : Int32)] [])) _
          refine XS.iload X285.here hx rfl (hb hby at_272) rfl ?_
          show Steps p.tables e below (T285.setTop (mkF m 274 #[iv u0, iv u1, iv u2, .val (.long u3), .second, iv u4, .val (.long u5), .second, iv (2 : Int32), iv ka, iv kb, rv b145, rv b222, rv b261, iv (0 : Int32), iv (1 : Int32), iv (2 : Int32), iv (1 : Int32)] [(.int (1 : Int32))])) _
          refine XS.ifNo X285.here hx rfl (hb hby at_274) rfl ((if0 _ _).trans (feq (by decide : ¬ ((1 : Int32) = (0 : Int32)))).1) ?_
          show Steps p.tables e below (T285.setTop (mkF m 277 #[iv u0, iv u1, iv u2, .val (.long u3), .second, iv u4, .val (.long u5), .second, iv (2 : Int32), iv ka, iv kb, rv b145, rv b222, rv b261, iv (0 : Int32), iv (1 : Int32), iv (2 : Int32), iv (1 : Int32)] [])) _
          refine XS.aload X285.here hx rfl (hb hby at_277) rfl rfl ?_
          show Steps p.tables e below (T285.setTop (mkF m 279 #[iv u0, iv u1, iv u2, .val (.long u3), .second, iv u4, .val (.long u5), .second, iv (2 : Int32), iv ka, iv kb, rv b145, rv b222, rv b261, iv (0 : Int32), iv (1 : Int32), iv (2 : Int32), iv (1 : Int32)] [(.ref b261)])) _
          refine XS.iconst X285.here hx rfl (hb hby at_279) ?_
          show Steps p.tables e below (T285.setTop (mkF m 280 #[iv u0, iv u1, iv u2, .val (.long u3), .second, iv u4, .val (.long u5), .second, iv (2 : Int32), iv ka, iv kb, rv b145, rv b222, rv b261, iv (0 : Int32), iv (1 : Int32), iv (2 : Int32), iv (1 : Int32)] [(.int (1 : Int32)), (.ref b261)])) _
          refine st286.trans ?_
          show Steps p.tables e below (T286.setTop (mkF m 283 #[iv u0, iv u1, iv u2, .val (.long u3), .second, iv u4, .val (.long u5), .second, iv (2 : Int32), iv ka, iv kb, rv b145, rv b222, rv b261, iv (0 : Int32), iv (1 : Int32), iv (2 : Int32), iv (1 : Int32)] [(.int kb)])) _
          refine XS.iload X286.here hx rfl (hb hby at_283) rfl ?_
          show Steps p.tables e below (T286.setTop (mkF m 285 #[iv u0, iv u1, iv u2, .val (.long u3), .second, iv u4, .val (.long u5), .second, iv (2 : Int32), iv ka, iv kb, rv b145, rv b222, rv b261, iv (0 : Int32), iv (1 : Int32), iv (2 : Int32), iv (1 : Int32)] [(.int kb), (.int kb)])) _
          refine XS.icmpNo X286.here hx rfl (hb hby at_285) rfl (teq rfl).2 ?_
          show Steps p.tables e below (T286.setTop (mkF m 288 #[iv u0, iv u1, iv u2, .val (.long u3), .second, iv u4, .val (.long u5), .second, iv (2 : Int32), iv ka, iv kb, rv b145, rv b222, rv b261, iv (0 : Int32), iv (1 : Int32), iv (2 : Int32), iv (1 : Int32)] [])) _
          refine XS.aload X286.here hx rfl (hb hby at_288) rfl rfl ?_
          show Steps p.tables e below (T286.setTop (mkF m 290 #[iv u0, iv u1, iv u2, .val (.long u3), .second, iv u4, .val (.long u5), .second, iv (2 : Int32), iv ka, iv kb, rv b145, rv b222, rv b261, iv (0 : Int32), iv (1 : Int32), iv (2 : Int32), iv (1 : Int32)] [(.ref b261)])) _
          refine XS.iconst X286.here hx rfl (hb hby at_290) ?_
          show Steps p.tables e below (T286.setTop (mkF m 291 #[iv u0, iv u1, iv u2, .val (.long u3), .second, iv u4, .val (.long u5), .second, iv (2 : Int32), iv ka, iv kb, rv b145, rv b222, rv b261, iv (0 : Int32), iv (1 : Int32), iv (2 : Int32), iv (1 : Int32)] [(.int (1 : Int32)), (.ref b261)])) _
          refine st287.trans ?_
          show Steps p.tables e below (T287.setTop (mkF m 294 #[iv u0, iv u1, iv u2, .val (.long u3), .second, iv u4, .val (.long u5), .second, iv (2 : Int32), iv ka, iv kb, rv b145, rv b222, rv b261, iv (0 : Int32), iv (1 : Int32), iv (2 : Int32), iv (1 : Int32)] [(.int u4)])) _
          refine XS.iload X287.here hx rfl (hb hby at_294) rfl ?_
          show Steps p.tables e below (T287.setTop (mkF m 296 #[iv u0, iv u1, iv u2, .val (.long u3), .second, iv u4, .val (.long u5), .second, iv (2 : Int32), iv ka, iv kb, rv b145, rv b222, rv b261, iv (0 : Int32), iv (1 : Int32), iv (2 : Int32), iv (1 : Int32)] [(.int u4), (.int u4)])) _
          refine XS.icmpNo X287.here hx rfl (hb hby at_296) rfl (teq rfl).2 ?_
          show Steps p.tables e below (T287.setTop (mkF m 299 #[iv u0, iv u1, iv u2, .val (.long u3), .second, iv u4, .val (.long u5), .second, iv (2 : Int32), iv ka, iv kb, rv b145, rv b222, rv b261, iv (0 : Int32), iv (1 : Int32), iv (2 : Int32), iv (1 : Int32)] [])) _
          refine XS.aload X287.here hx rfl (hb hby at_299) rfl rfl ?_
          show Steps p.tables e below (T287.setTop (mkF m 301 #[iv u0, iv u1, iv u2, .val (.long u3), .second, iv u4, .val (.long u5), .second, iv (2 : Int32), iv ka, iv kb, rv b145, rv b222, rv b261, iv (0 : Int32), iv (1 : Int32), iv (2 : Int32), iv (1 : Int32)] [(.ref b261)])) _
          refine XS.iconst X287.here hx rfl (hb hby at_301) ?_
          show Steps p.tables e below (T287.setTop (mkF m 302 #[iv u0, iv u1, iv u2, .val (.long u3), .second, iv u4, .val (.long u5), .second, iv (2 : Int32), iv ka, iv kb, rv b145, rv b222, rv b261, iv (0 : Int32), iv (1 : Int32), iv (2 : Int32), iv (1 : Int32)] [(.int (1 : Int32)), (.ref b261)])) _
          refine st288.trans ?_
          show Steps p.tables e below (T288.setTop (mkF m 305 #[iv u0, iv u1, iv u2, .val (.long u3), .second, iv u4, .val (.long u5), .second, iv (2 : Int32), iv ka, iv kb, rv b145, rv b222, rv b261, iv (0 : Int32), iv (1 : Int32), iv (2 : Int32), iv (1 : Int32)] [(.ref b222)])) _
          refine XS.aload X288.here hx rfl (hb hby at_305) rfl rfl ?_
          show Steps p.tables e below (T288.setTop (mkF m 307 #[iv u0, iv u1, iv u2, .val (.long u3), .second, iv u4, .val (.long u5), .second, iv (2 : Int32), iv ka, iv kb, rv b145, rv b222, rv b261, iv (0 : Int32), iv (1 : Int32), iv (2 : Int32), iv (1 : Int32)] [(.ref b222), (.ref b222)])) _
          refine Jvm.RoadKit.acmp (g := (mkF m 307 #[iv u0, iv u1, iv u2, .val (.long u3), .second, iv u4, .val (.long u5), .second, iv (2 : Int32), iv ka, iv kb, rv b145, rv b222, rv b261, iv (0 : Int32), iv (1 : Int32), iv (2 : Int32), iv (1 : Int32)] [(.ref b222), (.ref b222)])) X288 hx rfl rfl rfl (pc0 := 307) (pc' := 310) (same := true) rfl (hb hby at_307) rfl (decide_eq_true rfl) (by decide) (by decide) ?_
          show Steps p.tables e below (T288.setTop (mkF m 310 #[iv u0, iv u1, iv u2, .val (.long u3), .second, iv u4, .val (.long u5), .second, iv (2 : Int32), iv ka, iv kb, rv b145, rv b222, rv b261, iv (0 : Int32), iv (1 : Int32), iv (2 : Int32), iv (1 : Int32)] [])) _
          refine XS.aload X288.here hx rfl (hb hby at_310) rfl rfl ?_
          show Steps p.tables e below (T288.setTop (mkF m 312 #[iv u0, iv u1, iv u2, .val (.long u3), .second, iv u4, .val (.long u5), .second, iv (2 : Int32), iv ka, iv kb, rv b145, rv b222, rv b261, iv (0 : Int32), iv (1 : Int32), iv (2 : Int32), iv (1 : Int32)] [(.ref b261)])) _
          refine XS.iconst X288.here hx rfl (hb hby at_312) ?_
          show Steps p.tables e below (T288.setTop (mkF m 313 #[iv u0, iv u1, iv u2, .val (.long u3), .second, iv u4, .val (.long u5), .second, iv (2 : Int32), iv ka, iv kb, rv b145, rv b222, rv b261, iv (0 : Int32), iv (1 : Int32), iv (2 : Int32), iv (1 : Int32)] [(.int (1 : Int32)), (.ref b261)])) _
          refine st289.trans ?_
          show Steps p.tables e below (T289.setTop (mkF m 316 #[iv u0, iv u1, iv u2, .val (.long u3), .second, iv u4, .val (.long u5), .second, iv (2 : Int32), iv ka, iv kb, rv b145, rv b222, rv b261, iv (0 : Int32), iv (1 : Int32), iv (2 : Int32), iv (1 : Int32)] [(.long u5)])) _
          refine XS.lload X289.here hx rfl (hb hby at_316) rfl ?_
          show Steps p.tables e below (T289.setTop (mkF m 318 #[iv u0, iv u1, iv u2, .val (.long u3), .second, iv u4, .val (.long u5), .second, iv (2 : Int32), iv ka, iv kb, rv b145, rv b222, rv b261, iv (0 : Int32), iv (1 : Int32), iv (2 : Int32), iv (1 : Int32)] [(.long u5), (.long u5)])) _
          refine XS.lcmp X289.here hx rfl (hb hby at_318) rfl ?_
          show Steps p.tables e below (T289.setTop (mkF m 319 #[iv u0, iv u1, iv u2, .val (.long u3), .second, iv u4, .val (.long u5), .second, iv (2 : Int32), iv ka, iv kb, rv b145, rv b222, rv b261, iv (0 : Int32), iv (1 : Int32), iv (2 : Int32), iv (1 : Int32)] [(.int (lcmpW u5 u5))])) _
          refine XS.ifNo X289.here hx rfl (hb hby at_319) rfl ((if0 _ _).trans (teq ((lw_eq _ _).mpr rfl)).2) ?_
          show Steps p.tables e below (T289.setTop (mkF m 322 #[iv u0, iv u1, iv u2, .val (.long u3), .second, iv u4, .val (.long u5), .second, iv (2 : Int32), iv ka, iv kb, rv b145, rv b222, rv b261, iv (0 : Int32), iv (1 : Int32), iv (2 : Int32), iv (1 : Int32)] [])) _
          refine XS.iconst X289.here hx rfl (hb hby at_322) ?_
          show Steps p.tables e below (T289.setTop (mkF m 323 #[iv u0, iv u1, iv u2, .val (.long u3), .second, iv u4, .val (.long u5), .second, iv (2 : Int32), iv ka, iv kb, rv b145, rv b222, rv b261, iv (0 : Int32), iv (1 : Int32), iv (2 : Int32), iv (1 : Int32)] [(.int (1 : Int32))])) _
          refine XS.goto X289.here hx rfl (pc0 := 323) (pc' := 327) rfl (hb hby at_323) (by decide) (by decide) ?_
          show Steps p.tables e below (T289.setTop (mkF m 327 #[iv u0, iv u1, iv u2, .val (.long u3), .second, iv u4, .val (.long u5), .second, iv (2 : Int32), iv ka, iv kb, rv b145, rv b222, rv b261, iv (0 : Int32), iv (1 : Int32), iv (2 : Int32), iv (1 : Int32)] [(.int (1 : Int32))])) _
          refine XS.istore X289.here hx rfl (hb hby at_327) rfl (l' := #[iv u0, iv u1, iv u2, .val (.long u3), .second, iv u4, .val (.long u5), .second, iv (2 : Int32), iv ka, iv kb, rv b145, rv b222, rv b261, iv (0 : Int32), iv (1 : Int32), iv (2 : Int32), iv (1 : Int32)]) rfl ?_
          show Steps p.tables e below (T289.setTop (mkF m 329 #[iv u0, iv u1, iv u2, .val (.long u3), .second, iv u4, .val (.long u5), .second, iv (2 : Int32), iv ka, iv kb, rv b145, rv b222, rv b261, iv (0 : Int32), iv (1 : Int32), iv (2 : Int32), iv (1 : Int32)] [])) _
          refine XS.iload X289.here hx rfl (hb hby at_329) rfl ?_
          show Steps p.tables e below (T289.setTop (mkF m 331 #[iv u0, iv u1, iv u2, .val (.long u3), .second, iv u4, .val (.long u5), .second, iv (2 : Int32), iv ka, iv kb, rv b145, rv b222, rv b261, iv (0 : Int32), iv (1 : Int32), iv (2 : Int32), iv (1 : Int32)] [(.int (1 : Int32))])) _
          exact retN X289 hx (t := .boolean) Bd.returns (by simp) (hb hby at_331) hr
        · show Q0 Z u0 u1 u2 u3 u4 u5 h0 n0 _ T289.heap _
          rw [eq289]
          exact ⟨rfl, N289⟩
      · skip
        rw [hcp] at S239
        obtain ⟨T290, h290, X290, e290, E290, A290, D290, -, st290⟩ := newO X233 hx hZ hown (hw _ (List.mem_of_getElem? (i := 1) rfl)) (hw _ (List.mem_of_getElem? (i := 2) rfl)) (hw _ (List.mem_of_getElem? (i := 3) rfl)) e233 (g := (mkF m 87 #[iv u0, iv u1, iv u2, .val (.long u3), .second, iv u4, .val (.long u5), .second, iv (3 : Int32), iv ka, iv kb, rv b145, rv b222, .unset, .unset, .unset, .unset, .unset] [])) rfl (hb hby at_87) (by decide) (by decide)
        obtain ⟨b290, g290⟩ : ∃ z, z = h233.size := ⟨_, rfl⟩
        rw [← g290] at A290 D290 st290
        have ge_b290 : n0 ≤ b290 := Nat.le_trans Z233 (Nat.le_of_eq g290.symm)
        have ne_b145_b290 : b145 ≠ b290 := Nat.ne_of_lt (Nat.lt_of_lt_of_le (f235).lt (Nat.le_of_eq g290.symm))
        have ne_b222_b290 : b222 ≠ b290 := Nat.ne_of_lt (Nat.lt_of_lt_of_le (f238).lt (Nat.le_of_eq g290.symm))
        have f291 := f235.ext E290
        have f292 := f238.ext E290
        have F290_kinds : Fld Z h290 b290 "com/example/agouti/agouti/store/IndexBuilder$Notes" "kinds" "[B" .null := D290 (Or.inr (hw _ (List.mem_of_getElem? (i := 12) rfl))) (ty := (.array .byte)) (by decide)
        have F290_nodes : Fld Z h290 b290 "com/example/agouti/agouti/store/IndexBuilder$Notes" "nodes" "[I" .null := D290 (Or.inr (hw _ (List.mem_of_getElem? (i := 15) rfl))) (ty := (.array .int)) (by decide)
        have F290_values : Fld Z h290 b290 "com/example/agouti/agouti/store/IndexBuilder$Notes" "values" "[[B" .null := D290 (Or.inl (hw _ (List.mem_of_getElem? (i := 19) rfl))) (ty := (.array (.array .byte))) (by decide)
        have F290_hashes : Fld Z h290 b290 "com/example/agouti/agouti/store/IndexBuilder$Notes" "hashes" "[J" .null := D290 (Or.inr (hw _ (List.mem_of_getElem? (i := 22) rfl))) (ty := (.array .long)) (by decide)
        have F290_count : Fld Z h290 b290 "com/example/agouti/agouti/store/IndexBuilder$Notes" "count" "I" (.int (0 : Int32)) := D290 (Or.inl (hw _ (List.mem_of_getElem? (i := 29) rfl))) (ty := .int) (by decide)
        have Z290 : n0 ≤ h290.size := Nat.le_trans Z233 E290.1
        obtain ⟨_, _, ⟨T293, L293, k293, n293⟩, -, X293, ⟨Lc293, hQ293, l293, y293, z293⟩, st293⟩ := X290.specialBack hx (y := (⟨"com/example/agouti/agouti/store/IndexBuilder$Notes", "<init>", "(I)V"⟩ : MethodName)) rfl hown (mvT hZ (hw _ (List.mem_of_getElem? (i := 4) rfl))) (mvT hZ (hw _ (List.mem_of_getElem? (i := 5) rfl))) (mvT hZ (hw _ (List.mem_of_getElem? (i := 6) rfl))) (by decide) (backOf (W := 1) (rmI3 l Z a0 hw [] b290 h290 n0 Z290 A290 F290_count F290_kinds F290_nodes F290_values F290_hashes ge_b290) hZ (hw _ (List.mem_of_getElem? (i := 6) rfl)) (hw _ (List.mem_of_getElem? (i := 3) rfl)) (by decide) (by decide)) (g := (mkF m 93 #[iv u0, iv u1, iv u2, .val (.long u3), .second, iv u4, .val (.long u5), .second, iv (3 : Int32), iv ka, iv kb, rv b145, rv b222, .unset, .unset, .unset, .unset, .unset] [(.int (3 : Int32)), (.ref b290), (.ref b290)])) rfl (by rw [hml]; rfl) (Steps.refl _) (a := b290) (argsL := [(.int (3 : Int32))]) (rest := [(.ref b290)]) (lenOf pd_0 rfl) rfl (by show 2 * 0 + _ ≤ _; exact Nat.le_of_eq rfl) (hb hby at_93) (fun _ _ => ⟨rfl, e290, (by decide : 3 + 4 ≤ _), (by decide : 8 + 12 ≤ _)⟩)
        dsimp only [Pt.U, Pt.locs, Pt.cells, Pt.slots] at X293 l293 y293 z293 st293 hQ293
        subst y293 z293
        obtain ⟨rfl, Nq293, Zq293, Kq293, Bq293⟩ := hQ293
        have N293 : Fr n0 L293 := by rw [l293]; exact Fr.app N233 Nq293
        have f294 := f291.keep Kq293
        have f295 := f292.keep Kq293
        have f296 := A290.keep Kq293
        have oe293 := Bq293.1
        obtain ⟨cq302, kq302, q302a, q302b, q302c⟩ := isOf hZ rfl oe293
        obtain ⟨_, _, ⟨T302, L302, k302, n302⟩, -, X302, ⟨Lc302, hQ302, l302, y302, z302⟩, st302⟩ := X293.virtualBack hx (y := (⟨"com/example/agouti/agouti/store/IndexBuilder$Notes", "add", "(BI[BJ)Z"⟩ : MethodName)) (z := (⟨"com/example/agouti/agouti/store/IndexBuilder$Notes", "add", "(BI[BJ)Z"⟩ : MethodName)) hown (mvT hZ (hw _ (List.mem_of_getElem? (i := 23) rfl))) (mvT hZ (hw _ (List.mem_of_getElem? (i := 24) rfl))) (notFace_of_selects (args := #[]) (mvT hZ (hw _ (List.mem_of_getElem? (i := 26) rfl)))) (mvT hZ (hw _ (List.mem_of_getElem? (i := 26) rfl))) (mvT hZ (hw _ (List.mem_of_getElem? (i := 25) rfl))) (by decide) (backOf (W := 0) (rmAddR l Z a0 hw [] b290 ka u2 b145 u3 (3 : Int32) (0 : Int32) [0, 0, 0] [0, 0, 0] [.null, .null, .null] [0, 0, 0] T293.heap n0 Zq293 Bq293 ge_b290 (by decide) (by decide) (by rw [e_ka]; exact own_nb _) f294) hZ (hw _ (List.mem_of_getElem? (i := 27) rfl)) (hw _ (List.mem_of_getElem? (i := 3) rfl)) (by decide) (by decide)) q302a q302c (g := (mkF m 106 #[iv u0, iv u1, iv u2, .val (.long u3), .second, iv u4, .val (.long u5), .second, iv (3 : Int32), iv ka, iv kb, rv b145, rv b222, rv b290, .unset, .unset, .unset, .unset] [(.long u3), (.ref b145), (.int u2), (.int ka), (.ref b290)])) rfl (by rw [hml]; rfl) (Steps.refl _) (argsL := [(.int ka), (.int u2), (.ref b145), (.long u3)]) (rest := []) (lenOf pd_1 rfl) rfl (by show 2 * 0 + _ ≤ _; exact Nat.le_of_eq rfl) (hb hby at_106) (fun _ _ => ⟨rfl, rfl, (by decide : 7 + 0 ≤ _), (by decide : 20 + 0 ≤ _)⟩)
        dsimp only [Pt.U, Pt.locs, Pt.cells, Pt.slots] at X302 l302 y302 z302 st302 hQ302
        subst y302 z302
        obtain ⟨rfl, Nq302, Zq302, Kx302, Bq302⟩ := hQ302
        have N302 : Fr n0 L302 := by rw [l302]; exact Fr.app N293 Nq302
        obtain ⟨wsq302, Kq302⟩ := Kx302
        have f303 := f294.keep Kq302
        have f304 := f295.keep Kq302
        have f305 := oe293.keep Kq302
        have B302 : own_N Z T302.heap n0 b290 (3 : Int32) (1 : Int32) [ka, 0, 0] [u2, 0, 0] [(.ref b145), .null, .null] [u3, 0, 0] := Bq302
        obtain ⟨cq306, kq306, q306a, q306b, q306c⟩ := isOf hZ rfl f305
        obtain ⟨_, _, ⟨T306, L306, k306, n306⟩, -, X306, ⟨Lc306, hQ306, l306, y306, z306⟩, st306⟩ := X302.virtualBack hx (y := (⟨"com/example/agouti/agouti/store/IndexBuilder$Notes", "add", "(BI[BJ)Z"⟩ : MethodName)) (z := (⟨"com/example/agouti/agouti/store/IndexBuilder$Notes", "add", "(BI[BJ)Z"⟩ : MethodName)) hown (mvT hZ (hw _ (List.mem_of_getElem? (i := 23) rfl))) (mvT hZ (hw _ (List.mem_of_getElem? (i := 24) rfl))) (notFace_of_selects (args := #[]) (mvT hZ (hw _ (List.mem_of_getElem? (i := 26) rfl)))) (mvT hZ (hw _ (List.mem_of_getElem? (i := 26) rfl))) (mvT hZ (hw _ (List.mem_of_getElem? (i := 25) rfl))) (by decide) (backOf (W := 0) (rmAddR l Z a0 hw [] b290 kb u4 b222 u5 (3 : Int32) (1 : Int32) [ka, 0, 0] [u2, 0, 0] [(.ref b145), .null, .null] [u3, 0, 0] T302.heap n0 Zq302 B302 ge_b290 (by decide) (by decide) (by rw [e_kb]; exact own_nb _) f304) hZ (hw _ (List.mem_of_getElem? (i := 27) rfl)) (hw _ (List.mem_of_getElem? (i := 3) rfl)) (by decide) (by decide)) q306a q306c (g := (mkF m 153 #[iv u0, iv u1, iv u2, .val (.long u3), .second, iv u4, .val (.long u5), .second, iv (3 : Int32), iv ka, iv kb, rv b145, rv b222, rv b290, iv (0 : Int32), iv (1 : Int32), iv (1 : Int32), .unset] [(.long u5), (.ref b222), (.int u4), (.int kb), (.ref b290)])) rfl (by rw [hml]; rfl) (Steps.refl _) (argsL := [(.int kb), (.int u4), (.ref b222), (.long u5)]) (rest := []) (lenOf pd_1 rfl) rfl (by show 2 * 0 + _ ≤ _; exact Nat.le_of_eq rfl) (hb hby at_153) (fun _ _ => ⟨rfl, rfl, (by decide : 7 + 0 ≤ _), (by decide : 20 + 0 ≤ _)⟩)
        dsimp only [Pt.U, Pt.locs, Pt.cells, Pt.slots] at X306 l306 y306 z306 st306 hQ306
        subst y306 z306
        obtain ⟨rfl, Nq306, Zq306, Kx306, Bq306⟩ := hQ306
        have N306 : Fr n0 L306 := by rw [l306]; exact Fr.app N302 Nq306
        obtain ⟨wsq306, Kq306⟩ := Kx306
        have f307 := f303.keep Kq306
        have f308 := f304.keep Kq306
        have f309 := f305.keep Kq306
        have B306 : own_N Z T306.heap n0 b290 (3 : Int32) (2 : Int32) [ka, kb, 0] [u2, u4, 0] [(.ref b145), (.ref b222), .null] [u3, u5, 0] := Bq306
        obtain ⟨cq310, kq310, q310a, q310b, q310c⟩ := isOf hZ rfl f309
        obtain ⟨_, _, ⟨T310, L310, k310, n310⟩, -, X310, ⟨Lc310, hQ310, l310, y310, z310⟩, st310⟩ := X306.virtualBack hx (y := (⟨"com/example/agouti/agouti/store/IndexBuilder$Notes", "count", "()I"⟩ : MethodName)) (z := (⟨"com/example/agouti/agouti/store/IndexBuilder$Notes", "count", "()I"⟩ : MethodName)) hown (mvT hZ (hw _ (List.mem_of_getElem? (i := 30) rfl))) (mvT hZ (hw _ (List.mem_of_getElem? (i := 31) rfl))) (notFace_of_selects (args := #[]) (mvT hZ (hw _ (List.mem_of_getElem? (i := 33) rfl)))) (mvT hZ (hw _ (List.mem_of_getElem? (i := 33) rfl))) (mvT hZ (hw _ (List.mem_of_getElem? (i := 32) rfl))) (by decide) (backOf (W := 0) (rmCount l Z a0 hw [] b290 (3 : Int32) (2 : Int32) [ka, kb, 0] [u2, u4, 0] [(.ref b145), (.ref b222), .null] [u3, u5, 0] T306.heap n0 Zq306 B306) hZ (hw _ (List.mem_of_getElem? (i := 34) rfl)) (hw _ (List.mem_of_getElem? (i := 3) rfl)) (by decide) (by decide)) q310a q310c (g := (mkF m 196 #[iv u0, iv u1, iv u2, .val (.long u3), .second, iv u4, .val (.long u5), .second, iv (3 : Int32), iv ka, iv kb, rv b145, rv b222, rv b290, iv (0 : Int32), iv (1 : Int32), iv (2 : Int32), iv (0 : Int32)] [(.ref b290)])) rfl (by rw [hml]; rfl) (Steps.refl _) (argsL := []) (rest := []) (lenOf pd_2 rfl) rfl (by show 2 * 0 + _ ≤ _; exact Nat.le_of_eq rfl) (hb hby at_196) (fun _ _ => ⟨rfl, rfl, (by decide : 7 + 0 ≤ _), (by decide : 20 + 0 ≤ _)⟩)
        dsimp only [Pt.U, Pt.locs, Pt.cells, Pt.slots] at X310 l310 y310 z310 st310 hQ310
        subst y310 z310
        obtain ⟨rfl, Nq310, eq310⟩ := hQ310
        have N310 : Fr n0 L310 := by rw [l310]; exact Fr.app N306 Nq310
        obtain ⟨cq311, kq311, q311a, q311b, q311c⟩ := isOf hZ eq310 f309
        obtain ⟨_, _, ⟨T311, L311, k311, n311⟩, -, X311, ⟨Lc311, hQ311, l311, y311, z311⟩, st311⟩ := X310.virtualBack hx (y := (⟨"com/example/agouti/agouti/store/IndexBuilder$Notes", "kind", "(I)B"⟩ : MethodName)) (z := (⟨"com/example/agouti/agouti/store/IndexBuilder$Notes", "kind", "(I)B"⟩ : MethodName)) hown (mvT hZ (hw _ (List.mem_of_getElem? (i := 35) rfl))) (mvT hZ (hw _ (List.mem_of_getElem? (i := 36) rfl))) (notFace_of_selects (args := #[]) (mvT hZ (hw _ (List.mem_of_getElem? (i := 38) rfl)))) (mvT hZ (hw _ (List.mem_of_getElem? (i := 38) rfl))) (mvT hZ (hw _ (List.mem_of_getElem? (i := 37) rfl))) (by decide) (backOf (W := 0) (rmKind l Z a0 hw [] b290 (0 : Int32) (3 : Int32) (2 : Int32) [ka, kb, 0] [u2, u4, 0] [(.ref b145), (.ref b222), .null] [u3, u5, 0] ka T306.heap n0 Zq306 B306 (by decide) (by decide) rfl (by rw [e_ka]; exact own_nb _)) hZ (hw _ (List.mem_of_getElem? (i := 39) rfl)) (hw _ (List.mem_of_getElem? (i := 3) rfl)) (by decide) (by decide)) q311a q311c (g := (mkF m 219 #[iv u0, iv u1, iv u2, .val (.long u3), .second, iv u4, .val (.long u5), .second, iv (3 : Int32), iv ka, iv kb, rv b145, rv b222, rv b290, iv (0 : Int32), iv (1 : Int32), iv (2 : Int32), iv (0 : Int32)] [(.int (0 : Int32)), (.ref b290)])) rfl (by rw [hml]; rfl) (Steps.refl _) (argsL := [(.int (0 : Int32))]) (rest := []) (lenOf pd_3 rfl) rfl (by show 2 * 0 + _ ≤ _; exact Nat.le_of_eq rfl) (hb hby at_219) (fun _ _ => ⟨rfl, eq310, (by decide : 7 + 0 ≤ _), (by decide : 20 + 0 ≤ _)⟩)
        dsimp only [Pt.U, Pt.locs, Pt.cells, Pt.slots] at X311 l311 y311 z311 st311 hQ311
        subst y311 z311
        obtain ⟨rfl, Nq311, eq311⟩ := hQ311
        have N311 : Fr n0 L311 := by rw [l311]; exact Fr.app N310 Nq311
        obtain ⟨cq312, kq312, q312a, q312b, q312c⟩ := isOf hZ eq311 f309
        obtain ⟨_, _, ⟨T312, L312, k312, n312⟩, -, X312, ⟨Lc312, hQ312, l312, y312, z312⟩, st312⟩ := X311.virtualBack hx (y := (⟨"com/example/agouti/agouti/store/IndexBuilder$Notes", "node", "(I)I"⟩ : MethodName)) (z := (⟨"com/example/agouti/agouti/store/IndexBuilder$Notes", "node", "(I)I"⟩ : MethodName)) hown (mvT hZ (hw _ (List.mem_of_getElem? (i := 40) rfl))) (mvT hZ (hw _ (List.mem_of_getElem? (i := 41) rfl))) (notFace_of_selects (args := #[]) (mvT hZ (hw _ (List.mem_of_getElem? (i := 43) rfl)))) (mvT hZ (hw _ (List.mem_of_getElem? (i := 43) rfl))) (mvT hZ (hw _ (List.mem_of_getElem? (i := 42) rfl))) (by decide) (backOf (W := 0) (rmNode l Z a0 hw [] b290 (0 : Int32) (3 : Int32) (2 : Int32) [ka, kb, 0] [u2, u4, 0] [(.ref b145), (.ref b222), .null] [u3, u5, 0] u2 T306.heap n0 Zq306 B306 (by decide) (by decide) rfl) hZ (hw _ (List.mem_of_getElem? (i := 44) rfl)) (hw _ (List.mem_of_getElem? (i := 3) rfl)) (by decide) (by decide)) q312a q312c (g := (mkF m 230 #[iv u0, iv u1, iv u2, .val (.long u3), .second, iv u4, .val (.long u5), .second, iv (3 : Int32), iv ka, iv kb, rv b145, rv b222, rv b290, iv (0 : Int32), iv (1 : Int32), iv (2 : Int32), iv (0 : Int32)] [(.int (0 : Int32)), (.ref b290)])) rfl (by rw [hml]; rfl) (Steps.refl _) (argsL := [(.int (0 : Int32))]) (rest := []) (lenOf pd_4 rfl) rfl (by show 2 * 0 + _ ≤ _; exact Nat.le_of_eq rfl) (hb hby at_230) (fun _ _ => ⟨rfl, eq311, (by decide : 7 + 0 ≤ _), (by decide : 20 + 0 ≤ _)⟩)
        dsimp only [Pt.U, Pt.locs, Pt.cells, Pt.slots] at X312 l312 y312 z312 st312 hQ312
        subst y312 z312
        obtain ⟨rfl, Nq312, eq312⟩ := hQ312
        have N312 : Fr n0 L312 := by rw [l312]; exact Fr.app N311 Nq312
        obtain ⟨cq313, kq313, q313a, q313b, q313c⟩ := isOf hZ eq312 f309
        obtain ⟨_, _, ⟨T313, L313, k313, n313⟩, -, X313, ⟨Lc313, hQ313, l313, y313, z313⟩, st313⟩ := X312.virtualBack hx (y := (⟨"com/example/agouti/agouti/store/IndexBuilder$Notes", "value", "(I)[B"⟩ : MethodName)) (z := (⟨"com/example/agouti/agouti/store/IndexBuilder$Notes", "value", "(I)[B"⟩ : MethodName)) hown (mvT hZ (hw _ (List.mem_of_getElem? (i := 45) rfl))) (mvT hZ (hw _ (List.mem_of_getElem? (i := 46) rfl))) (notFace_of_selects (args := #[]) (mvT hZ (hw _ (List.mem_of_getElem? (i := 48) rfl)))) (mvT hZ (hw _ (List.mem_of_getElem? (i := 48) rfl))) (mvT hZ (hw _ (List.mem_of_getElem? (i := 47) rfl))) (by decide) (backOf (W := 0) (rmVal1 l Z a0 hw [] b290 (0 : Int32) (3 : Int32) (2 : Int32) [ka, kb, 0] [u2, u4, 0] [(.ref b145), (.ref b222), .null] [u3, u5, 0] b145 T306.heap n0 Zq306 B306 (by decide) (by decide) rfl) hZ (hw _ (List.mem_of_getElem? (i := 49) rfl)) (hw _ (List.mem_of_getElem? (i := 3) rfl)) (by decide) (by decide)) q313a q313c (g := (mkF m 240 #[iv u0, iv u1, iv u2, .val (.long u3), .second, iv u4, .val (.long u5), .second, iv (3 : Int32), iv ka, iv kb, rv b145, rv b222, rv b290, iv (0 : Int32), iv (1 : Int32), iv (2 : Int32), iv (0 : Int32)] [(.int (0 : Int32)), (.ref b290)])) rfl (by rw [hml]; rfl) (Steps.refl _) (argsL := [(.int (0 : Int32))]) (rest := []) (lenOf pd_5 rfl) rfl (by show 2 * 0 + _ ≤ _; exact Nat.le_of_eq rfl) (hb hby at_240) (fun _ _ => ⟨rfl, eq312, (by decide : 7 + 0 ≤ _), (by decide : 20 + 0 ≤ _)⟩)
        dsimp only [Pt.U, Pt.locs, Pt.cells, Pt.slots] at X313 l313 y313 z313 st313 hQ313
        subst y313 z313
        obtain ⟨rfl, Nq313, eq313⟩ := hQ313
        have N313 : Fr n0 L313 := by rw [l313]; exact Fr.app N312 Nq313
        obtain ⟨cq314, kq314, q314a, q314b, q314c⟩ := isOf hZ eq313 f309
        obtain ⟨_, _, ⟨T314, L314, k314, n314⟩, -, X314, ⟨Lc314, hQ314, l314, y314, z314⟩, st314⟩ := X313.virtualBack hx (y := (⟨"com/example/agouti/agouti/store/IndexBuilder$Notes", "hash", "(I)J"⟩ : MethodName)) (z := (⟨"com/example/agouti/agouti/store/IndexBuilder$Notes", "hash", "(I)J"⟩ : MethodName)) hown (mvT hZ (hw _ (List.mem_of_getElem? (i := 50) rfl))) (mvT hZ (hw _ (List.mem_of_getElem? (i := 51) rfl))) (notFace_of_selects (args := #[]) (mvT hZ (hw _ (List.mem_of_getElem? (i := 53) rfl)))) (mvT hZ (hw _ (List.mem_of_getElem? (i := 53) rfl))) (mvT hZ (hw _ (List.mem_of_getElem? (i := 52) rfl))) (by decide) (backOf (W := 0) (rmHash l Z a0 hw [] b290 (0 : Int32) (3 : Int32) (2 : Int32) [ka, kb, 0] [u2, u4, 0] [(.ref b145), (.ref b222), .null] [u3, u5, 0] u3 T306.heap n0 Zq306 B306 (by decide) (by decide) rfl) hZ (hw _ (List.mem_of_getElem? (i := 54) rfl)) (hw _ (List.mem_of_getElem? (i := 3) rfl)) (by decide) (by decide)) q314a q314c (g := (mkF m 251 #[iv u0, iv u1, iv u2, .val (.long u3), .second, iv u4, .val (.long u5), .second, iv (3 : Int32), iv ka, iv kb, rv b145, rv b222, rv b290, iv (0 : Int32), iv (1 : Int32), iv (2 : Int32), iv (0 : Int32)] [(.int (0 : Int32)), (.ref b290)])) rfl (by rw [hml]; rfl) (Steps.refl _) (argsL := [(.int (0 : Int32))]) (rest := []) (lenOf pd_6 rfl) rfl (by show 2 * 0 + _ ≤ _; exact Nat.le_of_eq rfl) (hb hby at_251) (fun _ _ => ⟨rfl, eq313, (by decide : 7 + 0 ≤ _), (by decide : 20 + 0 ≤ _)⟩)
        dsimp only [Pt.U, Pt.locs, Pt.cells, Pt.slots] at X314 l314 y314 z314 st314 hQ314
        subst y314 z314
        obtain ⟨rfl, Nq314, eq314⟩ := hQ314
        have N314 : Fr n0 L314 := by rw [l314]; exact Fr.app N313 Nq314
        obtain ⟨cq315, kq315, q315a, q315b, q315c⟩ := isOf hZ eq314 f309
        obtain ⟨_, _, ⟨T315, L315, k315, n315⟩, -, X315, ⟨Lc315, hQ315, l315, y315, z315⟩, st315⟩ := X314.virtualBack hx (y := (⟨"com/example/agouti/agouti/store/IndexBuilder$Notes", "kind", "(I)B"⟩ : MethodName)) (z := (⟨"com/example/agouti/agouti/store/IndexBuilder$Notes", "kind", "(I)B"⟩ : MethodName)) hown (mvT hZ (hw _ (List.mem_of_getElem? (i := 35) rfl))) (mvT hZ (hw _ (List.mem_of_getElem? (i := 36) rfl))) (notFace_of_selects (args := #[]) (mvT hZ (hw _ (List.mem_of_getElem? (i := 38) rfl)))) (mvT hZ (hw _ (List.mem_of_getElem? (i := 38) rfl))) (mvT hZ (hw _ (List.mem_of_getElem? (i := 37) rfl))) (by decide) (backOf (W := 0) (rmKind l Z a0 hw [] b290 (1 : Int32) (3 : Int32) (2 : Int32) [ka, kb, 0] [u2, u4, 0] [(.ref b145), (.ref b222), .null] [u3, u5, 0] kb T306.heap n0 Zq306 B306 (by decide) (by decide) rfl (by rw [e_kb]; exact own_nb _)) hZ (hw _ (List.mem_of_getElem? (i := 39) rfl)) (hw _ (List.mem_of_getElem? (i := 3) rfl)) (by decide) (by decide)) q315a q315c (g := (mkF m 280 #[iv u0, iv u1, iv u2, .val (.long u3), .second, iv u4, .val (.long u5), .second, iv (3 : Int32), iv ka, iv kb, rv b145, rv b222, rv b290, iv (0 : Int32), iv (1 : Int32), iv (2 : Int32), iv (0 : Int32)] [(.int (1 : Int32)), (.ref b290)])) rfl (by rw [hml]; rfl) (Steps.refl _) (argsL := [(.int (1 : Int32))]) (rest := []) (lenOf pd_3 rfl) rfl (by show 2 * 0 + _ ≤ _; exact Nat.le_of_eq rfl) (hb hby at_280) (fun _ _ => ⟨rfl, eq314, (by decide : 7 + 0 ≤ _), (by decide : 20 + 0 ≤ _)⟩)
        dsimp only [Pt.U, Pt.locs, Pt.cells, Pt.slots] at X315 l315 y315 z315 st315 hQ315
        subst y315 z315
        obtain ⟨rfl, Nq315, eq315⟩ := hQ315
        have N315 : Fr n0 L315 := by rw [l315]; exact Fr.app N314 Nq315
        obtain ⟨cq316, kq316, q316a, q316b, q316c⟩ := isOf hZ eq315 f309
        obtain ⟨_, _, ⟨T316, L316, k316, n316⟩, -, X316, ⟨Lc316, hQ316, l316, y316, z316⟩, st316⟩ := X315.virtualBack hx (y := (⟨"com/example/agouti/agouti/store/IndexBuilder$Notes", "node", "(I)I"⟩ : MethodName)) (z := (⟨"com/example/agouti/agouti/store/IndexBuilder$Notes", "node", "(I)I"⟩ : MethodName)) hown (mvT hZ (hw _ (List.mem_of_getElem? (i := 40) rfl))) (mvT hZ (hw _ (List.mem_of_getElem? (i := 41) rfl))) (notFace_of_selects (args := #[]) (mvT hZ (hw _ (List.mem_of_getElem? (i := 43) rfl)))) (mvT hZ (hw _ (List.mem_of_getElem? (i := 43) rfl))) (mvT hZ (hw _ (List.mem_of_getElem? (i := 42) rfl))) (by decide) (backOf (W := 0) (rmNode l Z a0 hw [] b290 (1 : Int32) (3 : Int32) (2 : Int32) [ka, kb, 0] [u2, u4, 0] [(.ref b145), (.ref b222), .null] [u3, u5, 0] u4 T306.heap n0 Zq306 B306 (by decide) (by decide) rfl) hZ (hw _ (List.mem_of_getElem? (i := 44) rfl)) (hw _ (List.mem_of_getElem? (i := 3) rfl)) (by decide) (by decide)) q316a q316c (g := (mkF m 291 #[iv u0, iv u1, iv u2, .val (.long u3), .second, iv u4, .val (.long u5), .second, iv (3 : Int32), iv ka, iv kb, rv b145, rv b222, rv b290, iv (0 : Int32), iv (1 : Int32), iv (2 : Int32), iv (0 : Int32)] [(.int (1 : Int32)), (.ref b290)])) rfl (by rw [hml]; rfl) (Steps.refl _) (argsL := [(.int (1 : Int32))]) (rest := []) (lenOf pd_4 rfl) rfl (by show 2 * 0 + _ ≤ _; exact Nat.le_of_eq rfl) (hb hby at_291) (fun _ _ => ⟨rfl, eq315, (by decide : 7 + 0 ≤ _), (by decide : 20 + 0 ≤ _)⟩)
        dsimp only [Pt.U, Pt.locs, Pt.cells, Pt.slots] at X316 l316 y316 z316 st316 hQ316
        subst y316 z316
        obtain ⟨rfl, Nq316, eq316⟩ := hQ316
        have N316 : Fr n0 L316 := by rw [l316]; exact Fr.app N315 Nq316
        obtain ⟨cq317, kq317, q317a, q317b, q317c⟩ := isOf hZ eq316 f309
        obtain ⟨_, _, ⟨T317, L317, k317, n317⟩, -, X317, ⟨Lc317, hQ317, l317, y317, z317⟩, st317⟩ := X316.virtualBack hx (y := (⟨"com/example/agouti/agouti/store/IndexBuilder$Notes", "value", "(I)[B"⟩ : MethodName)) (z := (⟨"com/example/agouti/agouti/store/IndexBuilder$Notes", "value", "(I)[B"⟩ : MethodName)) hown (mvT hZ (hw _ (List.mem_of_getElem? (i := 45) rfl))) (mvT hZ (hw _ (List.mem_of_getElem? (i := 46) rfl))) (notFace_of_selects (args := #[]) (mvT hZ (hw _ (List.mem_of_getElem? (i := 48) rfl)))) (mvT hZ (hw _ (List.mem_of_getElem? (i := 48) rfl))) (mvT hZ (hw _ (List.mem_of_getElem? (i := 47) rfl))) (by decide) (backOf (W := 0) (rmVal1 l Z a0 hw [] b290 (1 : Int32) (3 : Int32) (2 : Int32) [ka, kb, 0] [u2, u4, 0] [(.ref b145), (.ref b222), .null] [u3, u5, 0] b222 T306.heap n0 Zq306 B306 (by decide) (by decide) rfl) hZ (hw _ (List.mem_of_getElem? (i := 49) rfl)) (hw _ (List.mem_of_getElem? (i := 3) rfl)) (by decide) (by decide)) q317a q317c (g := (mkF m 302 #[iv u0, iv u1, iv u2, .val (.long u3), .second, iv u4, .val (.long u5), .second, iv (3 : Int32), iv ka, iv kb, rv b145, rv b222, rv b290, iv (0 : Int32), iv (1 : Int32), iv (2 : Int32), iv (0 : Int32)] [(.int (1 : Int32)), (.ref b290)])) rfl (by rw [hml]; rfl) (Steps.refl _) (argsL := [(.int (1 : Int32))]) (rest := []) (lenOf pd_5 rfl) rfl (by show 2 * 0 + _ ≤ _; exact Nat.le_of_eq rfl) (hb hby at_302) (fun _ _ => ⟨rfl, eq316, (by decide : 7 + 0 ≤ _), (by decide : 20 + 0 ≤ _)⟩)
        dsimp only [Pt.U, Pt.locs, Pt.cells, Pt.slots] at X317 l317 y317 z317 st317 hQ317
        subst y317 z317
        obtain ⟨rfl, Nq317, eq317⟩ := hQ317
        have N317 : Fr n0 L317 := by rw [l317]; exact Fr.app N316 Nq317
        obtain ⟨cq318, kq318, q318a, q318b, q318c⟩ := isOf hZ eq317 f309
        obtain ⟨_, _, ⟨T318, L318, k318, n318⟩, -, X318, ⟨Lc318, hQ318, l318, y318, z318⟩, st318⟩ := X317.virtualBack hx (y := (⟨"com/example/agouti/agouti/store/IndexBuilder$Notes", "hash", "(I)J"⟩ : MethodName)) (z := (⟨"com/example/agouti/agouti/store/IndexBuilder$Notes", "hash", "(I)J"⟩ : MethodName)) hown (mvT hZ (hw _ (List.mem_of_getElem? (i := 50) rfl))) (mvT hZ (hw _ (List.mem_of_getElem? (i := 51) rfl))) (notFace_of_selects (args := #[]) (mvT hZ (hw _ (List.mem_of_getElem? (i := 53) rfl)))) (mvT hZ (hw _ (List.mem_of_getElem? (i := 53) rfl))) (mvT hZ (hw _ (List.mem_of_getElem? (i := 52) rfl))) (by decide) (backOf (W := 0) (rmHash l Z a0 hw [] b290 (1 : Int32) (3 : Int32) (2 : Int32) [ka, kb, 0] [u2, u4, 0] [(.ref b145), (.ref b222), .null] [u3, u5, 0] u5 T306.heap n0 Zq306 B306 (by decide) (by decide) rfl) hZ (hw _ (List.mem_of_getElem? (i := 54) rfl)) (hw _ (List.mem_of_getElem? (i := 3) rfl)) (by decide) (by decide)) q318a q318c (g := (mkF m 313 #[iv u0, iv u1, iv u2, .val (.long u3), .second, iv u4, .val (.long u5), .second, iv (3 : Int32), iv ka, iv kb, rv b145, rv b222, rv b290, iv (0 : Int32), iv (1 : Int32), iv (2 : Int32), iv (0 : Int32)] [(.int (1 : Int32)), (.ref b290)])) rfl (by rw [hml]; rfl) (Steps.refl _) (argsL := [(.int (1 : Int32))]) (rest := []) (lenOf pd_6 rfl) rfl (by show 2 * 0 + _ ≤ _; exact Nat.le_of_eq rfl) (hb hby at_313) (fun _ _ => ⟨rfl, eq317, (by decide : 7 + 0 ≤ _), (by decide : 20 + 0 ≤ _)⟩)
        dsimp only [Pt.U, Pt.locs, Pt.cells, Pt.slots] at X318 l318 y318 z318 st318 hQ318
        subst y318 z318
        obtain ⟨rfl, Nq318, eq318⟩ := hQ318
        have N318 : Fr n0 L318 := by rw [l318]; exact Fr.app N317 Nq318
        obtain ⟨fs, hr, hrun, hended, hW, hsame⟩ := X318.leave (v := some (.int (1 : Int32))) (fun h => by rw [Bd.returns] at h; cases h)
        refine ⟨_, _, S239 _ ?_, hrun, hended, _, _, rfl, ?_, ⟨_, rfl⟩, hW, hsame.mono (by decide) (by decide)⟩
        · skip
          show Steps p.tables e below (T233.setTop (mkF m 87 #[iv u0, iv u1, iv u2, .val (.long u3), .second, iv u4, .val (.long u5), .second, iv (3 : Int32), iv ka, iv kb, rv b145, rv b222, .unset, .unset, .unset, .unset, .unset] [])) _
          refine st290 _ ?_
          show Steps p.tables e below (T290.setTop (mkF m 90 #[iv u0, iv u1, iv u2, .val (.long u3), .second, iv u4, .val (.long u5), .second, iv (3 : Int32), iv ka, iv kb, rv b145, rv b222, .unset, .unset, .unset, .unset, .unset] [(.ref b290)])) _
          refine XS.dup X290.here hx rfl (hb hby at_90) rfl rfl ?_
          show Steps p.tables e below (T290.setTop (mkF m 91 #[iv u0, iv u1, iv u2, .val (.long u3), .second, iv u4, .val (.long u5), .second, iv (3 : Int32), iv ka, iv kb, rv b145, rv b222, .unset, .unset, .unset, .unset, .unset] [(.ref b290), (.ref b290)])) _
          refine XS.iload X290.here hx rfl (hb hby at_91) rfl ?_
          show Steps p.tables e below (T290.setTop (mkF m 93 #[iv u0, iv u1, iv u2, .val (.long u3), .second, iv u4, .val (.long u5), .second, iv (3 : Int32), iv ka, iv kb, rv b145, rv b222, .unset, .unset, .unset, .unset, .unset] [(.int (3 : Int32)), (.ref b290), (.ref b290)])) _
          refine st293.trans ?_
          show Steps p.tables e below (T293.setTop (mkF m 96 #[iv u0, iv u1, iv u2, .val (.long u3), .second, iv u4, .val (.long u5), .second, iv (3 : Int32), iv ka, iv kb, rv b145, rv b222, .unset, .unset, .unset, .unset, .unset] [(.ref b290)])) _
          refine XS.astore X293.here hx rfl (hb hby at_96) rfl rfl (l' := #[iv u0, iv u1, iv u2, .val (.long u3), .second, iv u4, .val (.long u5), .second, iv (3 : Int32), iv ka, iv kb, rv b145, rv b222, rv b290, .unset, .unset, .unset, .unset]) rfl ?_
          show Steps p.tables e below (T293.setTop (mkF m 98 #[iv u0, iv u1, iv u2, .val (.long u3), .second, iv u4, .val (.long u5), .second, iv (3 : Int32), iv ka, iv kb, rv b145, rv b222, rv b290, .unset, .unset, .unset, .unset] [])) _
          refine XS.aload X293.here hx rfl (hb hby at_98) rfl rfl ?_
          show Steps p.tables e below (T293.setTop (mkF m 100 #[iv u0, iv u1, iv u2, .val (.long u3), .second, iv u4, .val (.long u5), .second, iv (3 : Int32), iv ka, iv kb, rv b145, rv b222, rv b290, .unset, .unset, .unset, .unset] [(.ref b290)])) _
          refine XS.iload X293.here hx rfl (hb hby at_100) rfl ?_
          show Steps p.tables e below (T293.setTop (mkF m 102 #[iv u0, iv u1, iv u2, .val (.long u3), .second, iv u4, .val (.long u5), .second, iv (3 : Int32), iv ka, iv kb, rv b145, rv b222, rv b290, .unset, .unset, .unset, .unset] [(.int ka), (.ref b290)])) _
          refine XS.iloadN X293.here hx rfl (hb hby at_102) rfl ?_
          show Steps p.tables e below (T293.setTop (mkF m 103 #[iv u0, iv u1, iv u2, .val (.long u3), .second, iv u4, .val (.long u5), .second, iv (3 : Int32), iv ka, iv kb, rv b145, rv b222, rv b290, .unset, .unset, .unset, .unset] [(.int u2), (.int ka), (.ref b290)])) _
          refine XS.aload X293.here hx rfl (hb hby at_103) rfl rfl ?_
          show Steps p.tables e below (T293.setTop (mkF m 105 #[iv u0, iv u1, iv u2, .val (.long u3), .second, iv u4, .val (.long u5), .second, iv (3 : Int32), iv ka, iv kb, rv b145, rv b222, rv b290, .unset, .unset, .unset, .unset] [(.ref b145), (.int u2), (.int ka), (.ref b290)])) _
          refine XS.lloadN X293.here hx rfl (hb hby at_105) rfl ?_
          show Steps p.tables e below (T293.setTop (mkF m 106 #[iv u0, iv u1, iv u2, .val (.long u3), .second, iv u4, .val (.long u5), .second, iv (3 : Int32), iv ka, iv kb, rv b145, rv b222, rv b290, .unset, .unset, .unset, .unset] [(.long u3), (.ref b145), (.int u2), (.int ka), (.ref b290)])) _
          refine st302.trans ?_
          show Steps p.tables e below (T302.setTop (mkF m 109 #[iv u0, iv u1, iv u2, .val (.long u3), .second, iv u4, .val (.long u5), .second, iv (3 : Int32), iv ka, iv kb, rv b145, rv b222, rv b290, .unset, .unset, .unset, .unset] [(.int (0 : Int32))])) _
          refine XS.istore X302.here hx rfl (hb hby at_109) rfl (l' := #[iv u0, iv u1, iv u2, .val (.long u3), .second, iv u4, .val (.long u5), .second, iv (3 : Int32), iv ka, iv kb, rv b145, rv b222, rv b290, iv (0 : Int32), .unset, .unset, .unset]) rfl ?_
          show Steps p.tables e below (T302.setTop (mkF m 111 #[iv u0, iv u1, iv u2, .val (.long u3), .second, iv u4, .val (.long u5), .second, iv (3 : Int32), iv ka, iv kb, rv b145, rv b222, rv b290, iv (0 : Int32), .unset, .unset, .unset] [])) _
          refine XS.iload X302.here hx rfl (hb hby at_111) rfl ?_
          show Steps p.tables e below (T302.setTop (mkF m 113 #[iv u0, iv u1, iv u2, .val (.long u3), .second, iv u4, .val (.long u5), .second, iv (3 : Int32), iv ka, iv kb, rv b145, rv b222, rv b290, iv (0 : Int32), .unset, .unset, .unset] [(.int (0 : Int32))])) _
          refine XS.iload X302.here hx rfl (hb hby at_113) rfl ?_
          show Steps p.tables e below (T302.setTop (mkF m 115 #[iv u0, iv u1, iv u2, .val (.long u3), .second, iv u4, .val (.long u5), .second, iv (3 : Int32), iv ka, iv kb, rv b145, rv b222, rv b290, iv (0 : Int32), .unset, .unset, .unset] [(.int (3 : Int32)), (.int (0 : Int32))])) _
          refine XS.iconst X302.here hx rfl (hb hby at_115) ?_
          show Steps p.tables e below (T302.setTop (mkF m 116 #[iv u0, iv u1, iv u2, .val (.long u3), .second, iv u4, .val (.long u5), .second, iv (3 : Int32), iv ka, iv kb, rv b145, rv b222, rv b290, iv (0 : Int32), .unset, .unset, .unset] [(.int (1 : Int32)), (.int (3 : Int32)), (.int (0 : Int32))])) _
          refine XS.icmpYes X302.here hx rfl (pc0 := 116) (pc' := 123) rfl (hb hby at_116) rfl (feq (by decide : ¬ ((3 : Int32) = (1 : Int32)))).2 (by decide) (by decide) ?_
          show Steps p.tables e below (T302.setTop (mkF m 123 #[iv u0, iv u1, iv u2, .val (.long u3), .second, iv u4, .val (.long u5), .second, iv (3 : Int32), iv ka, iv kb, rv b145, rv b222, rv b290, iv (0 : Int32), .unset, .unset, .unset] [(.int (0 : Int32))])) _
          refine XS.iconst X302.here hx rfl (hb hby at_123) ?_
          show Steps p.tables e below (T302.setTop (mkF m 124 #[iv u0, iv u1, iv u2, .val (.long u3), .second, iv u4, .val (.long u5), .second, iv (3 : Int32), iv ka, iv kb, rv b145, rv b222, rv b290, iv (0 : Int32), .unset, .unset, .unset] [(.int (0 : Int32)), (.int (0 : Int32))])) _
          refine XS.icmpNo X302.here hx rfl (hb hby at_124) rfl (teq (by decide : (0 : Int32) = (0 : Int32))).2 ?_
          show Steps p.tables e below (T302.setTop (mkF m 127 #[iv u0, iv u1, iv u2, .val (.long u3), .second, iv u4, .val (.long u5), .second, iv (3 : Int32), iv ka, iv kb, rv b145, rv b222, rv b290, iv (0 : Int32), .unset, .unset, .unset] [])) _
          refine XS.iconst X302.here hx rfl (hb hby at_127) ?_
          show Steps p.tables e below (T302.setTop (mkF m 128 #[iv u0, iv u1, iv u2, .val (.long u3), .second, iv u4, .val (.long u5), .second, iv (3 : Int32), iv ka, iv kb, rv b145, rv b222, rv b290, iv (0 : Int32), .unset, .unset, .unset] [(.int (1 : Int32))])) _
          refine XS.goto X302.here hx rfl (pc0 := 128) (pc' := 132) rfl (hb hby at_128) (by decide) (by decide) ?_
          show Steps p.tables e below (T302.setTop (mkF m 132 #[iv u0, iv u1, iv u2, .val (.long u3), .second, iv u4, .val (.long u5), .second, iv (3 : Int32), iv ka, iv kb, rv b145, rv b222, rv b290, iv (0 : Int32), .unset, .unset, .unset] [(.int (1 : Int32))])) _
          refine XS.istore X302.here hx rfl (hb hby at_132) rfl (l' := #[iv u0, iv u1, iv u2, .val (.long u3), .second, iv u4, .val (.long u5), .second, iv (3 : Int32), iv ka, iv kb, rv b145, rv b222, rv b290, iv (0 : Int32), iv (1 : Int32), .unset, .unset]) rfl ?_
          show Steps p.tables e below (T302.setTop (mkF m 134 #[iv u0, iv u1, iv u2, .val (.long u3), .second, iv u4, .val (.long u5), .second, iv (3 : Int32), iv ka, iv kb, rv b145, rv b222, rv b290, iv (0 : Int32), iv (1 : Int32), .unset, .unset] [])) _
          refine XS.iconst X302.here hx rfl (hb hby at_134) ?_
          show Steps p.tables e below (T302.setTop (mkF m 135 #[iv u0, iv u1, iv u2, .val (.long u3), .second, iv u4, .val (.long u5), .second, iv (3 : Int32), iv ka, iv kb, rv b145, rv b222, rv b290, iv (0 : Int32), iv (1 : Int32), .unset, .unset] [(.int (1 : Int32))])) _
          refine XS.istore X302.here hx rfl (hb hby at_135) rfl (l' := #[iv u0, iv u1, iv u2, .val (.long u3), .second, iv u4, .val (.long u5), .second, iv (3 : Int32), iv ka, iv kb, rv b145, rv b222, rv b290, iv (0 : Int32), iv (1 : Int32), iv (1 : Int32), .unset]) rfl ?_
          show Steps p.tables e below (T302.setTop (mkF m 137 #[iv u0, iv u1, iv u2, .val (.long u3), .second, iv u4, .val (.long u5), .second, iv (3 : Int32), iv ka, iv kb, rv b145, rv b222, rv b290, iv (0 : Int32), iv (1 : Int32), iv (1 : Int32), .unset] [])) _
          refine XS.iload X302.here hx rfl (hb hby at_137) rfl ?_
          show Steps p.tables e below (T302.setTop (mkF m 139 #[iv u0, iv u1, iv u2, .val (.long u3), .second, iv u4, .val (.long u5), .second, iv (3 : Int32), iv ka, iv kb, rv b145, rv b222, rv b290, iv (0 : Int32), iv (1 : Int32), iv (1 : Int32), .unset] [(.int (3 : Int32))])) _
          refine XS.iconst X302.here hx rfl (hb hby at_139) ?_
          show Steps p.tables e below (T302.setTop (mkF m 140 #[iv u0, iv u1, iv u2, .val (.long u3), .second, iv u4, .val (.long u5), .second, iv (3 : Int32), iv ka, iv kb, rv b145, rv b222, rv b290, iv (0 : Int32), iv (1 : Int32), iv (1 : Int32), .unset] [(.int (2 : Int32)), (.int (3 : Int32))])) _
          refine XS.icmpNo X302.here hx rfl (hb hby at_140) rfl (flt (by decide : ¬ ((3 : Int32) < (2 : Int32)))).1 ?_
          show Steps p.tables e below (T302.setTop (mkF m 143 #[iv u0, iv u1, iv u2, .val (.long u3), .second, iv u4, .val (.long u5), .second, iv (3 : Int32), iv ka, iv kb, rv b145, rv b222, rv b290, iv (0 : Int32), iv (1 : Int32), iv (1 : Int32), .unset] [])) _
          refine XS.aload X302.here hx rfl (hb hby at_143) rfl rfl ?_
          show Steps p.tables e below (T302.setTop (mkF m 145 #[iv u0, iv u1, iv u2, .val (.long u3), .second, iv u4, .val (.long u5), .second, iv (3 : Int32), iv ka, iv kb, rv b145, rv b222, rv b290, iv (0 : Int32), iv (1 : Int32), iv (1 : Int32), .unset] [(.ref b290)])) _
          refine XS.iload X302.here hx rfl (hb hby at_145) rfl ?_
          show Steps p.tables e below (T302.setTop (mkF m 147 #[iv u0, iv u1, iv u2, .val (.long u3), .second, iv u4, .val (.long u5), .second, iv (3 : Int32), iv ka, iv kb, rv b145, rv b222, rv b290, iv (0 : Int32), iv (1 : Int32), iv (1 : Int32), .unset] [(.int kb), (.ref b290)])) _
          refine XS.iload X302.here hx rfl (hb hby at_147) rfl ?_
          show Steps p.tables e below (T302.setTop (mkF m 149 #[iv u0, iv u1, iv u2, .val (.long u3), .second, iv u4, .val (.long u5), .second, iv (3 : Int32), iv ka, iv kb, rv b145, rv b222, rv b290, iv (0 : Int32), iv (1 : Int32), iv (1 : Int32), .unset] [(.int u4), (.int kb), (.ref b290)])) _
          refine XS.aload X302.here hx rfl (hb hby at_149) rfl rfl ?_
          show Steps p.tables e below (T302.setTop (mkF m 151 #[iv u0, iv u1, iv u2, .val (.long u3), .second, iv u4, .val (.long u5), .second, iv (3 : Int32), iv ka, iv kb, rv b145, rv b222, rv b290, iv (0 : Int32), iv (1 : Int32), iv (1 : Int32), .unset] [(.ref b222), (.int u4), (.int kb), (.ref b290)])) _
          refine XS.lload X302.here hx rfl (hb hby at_151) rfl ?_
          show Steps p.tables e below (T302.setTop (mkF m 153 #[iv u0, iv u1, iv u2, .val (.long u3), .second, iv u4, .val (.long u5), .second, iv (3 : Int32), iv ka, iv kb, rv b145, rv b222, rv b290, iv (0 : Int32), iv (1 : Int32), iv (1 : Int32), .unset] [(.long u5), (.ref b222), (.int u4), (.int kb), (.ref b290)])) _
          refine st306.trans ?_
          show Steps p.tables e below (T306.setTop (mkF m 156 #[iv u0, iv u1, iv u2, .val (.long u3), .second, iv u4, .val (.long u5), .second, iv (3 : Int32), iv ka, iv kb, rv b145, rv b222, rv b290, iv (0 : Int32), iv (1 : Int32), iv (1 : Int32), .unset] [(.int (0 : Int32))])) _
          refine XS.istore X306.here hx rfl (hb hby at_156) rfl (l' := #[iv u0, iv u1, iv u2, .val (.long u3), .second, iv u4, .val (.long u5), .second, iv (3 : Int32), iv ka, iv kb, rv b145, rv b222, rv b290, iv (0 : Int32), iv (1 : Int32), iv (1 : Int32), iv (0 : Int32)]) rfl ?_
          show Steps p.tables e below (T306.setTop (mkF m 158 #[iv u0, iv u1, iv u2, .val (.long u3), .second, iv u4, .val (.long u5), .second, iv (3 : Int32), iv ka, iv kb, rv b145, rv b222, rv b290, iv (0 : Int32), iv (1 : Int32), iv (1 : Int32), iv (0 : Int32)] [])) _
          refine XS.iload X306.here hx rfl (hb hby at_158) rfl ?_
          show Steps p.tables e below (T306.setTop (mkF m 160 #[iv u0, iv u1, iv u2, .val (.long u3), .second, iv u4, .val (.long u5), .second, iv (3 : Int32), iv ka, iv kb, rv b145, rv b222, rv b290, iv (0 : Int32), iv (1 : Int32), iv (1 : Int32), iv (0 : Int32)] [(.int (1 : Int32))])) _
          refine XS.ifNo X306.here hx rfl (hb hby at_160) rfl ((if0 _ _).trans (feq (by decide : ¬ ((1 : Int32) = (0 : Int32)))).1) ?_
          show Steps p.tables e below (T306.setTop (mkF m 163 #[iv u0, iv u1, iv u2, .val (.long u3), .second, iv u4, .val (.long u5), .second, iv (3 : Int32), iv ka, iv kb, rv b145, rv b222, rv b290, iv (0 : Int32), iv (1 : Int32), iv (1 : Int32), iv (0 : Int32)] [])) _
          refine XS.iload X306.here hx rfl (hb hby at_163) rfl ?_
          show Steps p.tables e below (T306.setTop (mkF m 165 #[iv u0, iv u1, iv u2, .val (.long u3), .second, iv u4, .val (.long u5), .second, iv (3 : Int32), iv ka, iv kb, rv b145, rv b222, rv b290, iv (0 : Int32), iv (1 : Int32), iv (1 : Int32), iv (0 : Int32)] [(.int (0 : Int32))])) _
          refine XS.iload X306.here hx rfl (hb hby at_165) rfl ?_
          show Steps p.tables e below (T306.setTop (mkF m 167 #[iv u0, iv u1, iv u2, .val (.long u3), .second, iv u4, .val (.long u5), .second, iv (3 : Int32), iv ka, iv kb, rv b145, rv b222, rv b290, iv (0 : Int32), iv (1 : Int32), iv (1 : Int32), iv (0 : Int32)] [(.int (3 : Int32)), (.int (0 : Int32))])) _
          refine XS.iconst X306.here hx rfl (hb hby at_167) ?_
          show Steps p.tables e below (T306.setTop (mkF m 168 #[iv u0, iv u1, iv u2, .val (.long u3), .second, iv u4, .val (.long u5), .second, iv (3 : Int32), iv ka, iv kb, rv b145, rv b222, rv b290, iv (0 : Int32), iv (1 : Int32), iv (1 : Int32), iv (0 : Int32)] [(.int (2 : Int32)), (.int (3 : Int32)), (.int (0 : Int32))])) _
          refine XS.icmpYes X306.here hx rfl (pc0 := 168) (pc' := 175) rfl (hb hby at_168) rfl (feq (by decide : ¬ ((3 : Int32) = (2 : Int32)))).2 (by decide) (by decide) ?_
          show Steps p.tables e below (T306.setTop (mkF m 175 #[iv u0, iv u1, iv u2, .val (.long u3), .second, iv u4, .val (.long u5), .second, iv (3 : Int32), iv ka, iv kb, rv b145, rv b222, rv b290, iv (0 : Int32), iv (1 : Int32), iv (1 : Int32), iv (0 : Int32)] [(.int (0 : Int32))])) _
          refine XS.iconst X306.here hx rfl (hb hby at_175) ?_
          show Steps p.tables e below (T306.setTop (mkF m 176 #[iv u0, iv u1, iv u2, .val (.long u3), .second, iv u4, .val (.long u5), .second, iv (3 : Int32), iv ka, iv kb, rv b145, rv b222, rv b290, iv (0 : Int32), iv (1 : Int32), iv (1 : Int32), iv (0 : Int32)] [(.int (0 : Int32)), (.int (0 : Int32))])) _
          refine XS.icmpNo X306.here hx rfl (hb hby at_176) rfl (teq (by decide : (0 : Int32) = (0 : Int32))).2 ?_
          show Steps p.tables e below (T306.setTop (mkF m 179 #[iv u0, iv u1, iv u2, .val (.long u3), .second, iv u4, .val (.long u5), .second, iv (3 : Int32), iv ka, iv kb, rv b145, rv b222, rv b290, iv (0 : Int32), iv (1 : Int32), iv (1 : Int32), iv (0 : Int32)] [])) _
          refine XS.iconst X306.here hx rfl (hb hby at_179) ?_
          show Steps p.tables e below (T306.setTop (mkF m 180 #[iv u0, iv u1, iv u2, .val (.long u3), .second, iv u4, .val (.long u5), .second, iv (3 : Int32), iv ka, iv kb, rv b145, rv b222, rv b290, iv (0 : Int32), iv (1 : Int32), iv (1 : Int32), iv (0 : Int32)] [(.int (1 : Int32))])) _
          refine XS.goto X306.here hx rfl (pc0 := 180) (pc' := 184) rfl (hb hby at_180) (by decide) (by decide) ?_
          show Steps p.tables e below (T306.setTop (mkF m 184 #[iv u0, iv u1, iv u2, .val (.long u3), .second, iv u4, .val (.long u5), .second, iv (3 : Int32), iv ka, iv kb, rv b145, rv b222, rv b290, iv (0 : Int32), iv (1 : Int32), iv (1 : Int32), iv (0 : Int32)] [(.int (1 : Int32))])) _
          refine XS.istore X306.here hx rfl (hb hby at_184) rfl (l' := #[iv u0, iv u1, iv u2, .val (.long u3), .second, iv u4, .val (.long u5), .second, iv (3 : Int32), iv ka, iv kb, rv b145, rv b222, rv b290, iv (0 : Int32), iv (1 : Int32), iv (1 : Int32), iv (0 : Int32)]) rfl ?_
          show Steps p.tables e below (T306.setTop (mkF m 186 #[iv u0, iv u1, iv u2, .val (.long u3), .second, iv u4, .val (.long u5), .second, iv (3 : Int32), iv ka, iv kb, rv b145, rv b222, rv b290, iv (0 : Int32), iv (1 : Int32), iv (1 : Int32), iv (0 : Int32)] [])) _
          refine XS.iconst X306.here hx rfl (hb hby at_186) ?_
          show Steps p.tables e below (T306.setTop (mkF m 187 #[iv u0, iv u1, iv u2, .val (.long u3), .second, iv u4, .val (.long u5), .second, iv (3 : Int32), iv ka, iv kb, rv b145, rv b222, rv b290, iv (0 : Int32), iv (1 : Int32), iv (1 : Int32), iv (0 : Int32)] [(.int (2 : Int32))])) _
          refine XS.istore X306.here hx rfl (hb hby at_187) rfl (l' := #[iv u0, iv u1, iv u2, .val (.long u3), .second, iv u4, .val (.long u5), .second, iv (3 : Int32), iv ka, iv kb, rv b145, rv b222, rv b290, iv (0 : Int32), iv (1 : Int32), iv (2 : Int32), iv (0 : Int32)]) rfl ?_
          show Steps p.tables e below (T306.setTop (mkF m 189 #[iv u0, iv u1, iv u2, .val (.long u3), .second, iv u4, .val (.long u5), .second, iv (3 : Int32), iv ka, iv kb, rv b145, rv b222, rv b290, iv (0 : Int32), iv (1 : Int32), iv (2 : Int32), iv (0 : Int32)] [])) _
          refine XS.iload X306.here hx rfl (hb hby at_189) rfl ?_
          show Steps p.tables e below (T306.setTop (mkF m 191 #[iv u0, iv u1, iv u2, .val (.long u3), .second, iv u4, .val (.long u5), .second, iv (3 : Int32), iv ka, iv kb, rv b145, rv b222, rv b290, iv (0 : Int32), iv (1 : Int32), iv (2 : Int32), iv (0 : Int32)] [(.int (1 : Int32))])) _
          refine XS.ifNo X306.here hx rfl (hb hby at_191) rfl ((if0 _ _).trans (feq (by decide : ¬ ((1 : Int32) = (0 : Int32)))).1) ?_
          show Steps p.tables e below (T306.setTop (mkF m 194 #[iv u0, iv u1, iv u2, .val (.long u3), .second, iv u4, .val (.long u5), .second, iv (3 : Int32), iv ka, iv kb, rv b145, rv b222, rv b290, iv (0 : Int32), iv (1 : Int32), iv (2 : Int32), iv (0 : Int32)] [])) _
          refine XS.aload X306.here hx rfl (hb hby at_194) rfl rfl ?_
          show Steps p.tables e below (T306.setTop (mkF m 196 #[iv u0, iv u1, iv u2, .val (.long u3), .second, iv u4, .val (.long u5), .second, iv (3 : Int32), iv ka, iv kb, rv b145, rv b222, rv b290, iv (0 : Int32), iv (1 : Int32), iv (2 : Int32), iv (0 : Int32)] [(.ref b290)])) _
          refine st310.trans ?_
          show Steps p.tables e below (T310.setTop (mkF m 199 #[iv u0, iv u1, iv u2, .val (.long u3), .second, iv u4, .val (.long u5), .second, iv (3 : Int32), iv ka, iv kb, rv b145, rv b222, rv b290, iv (0 : Int32), iv (1 : Int32), iv (2 : Int32), iv (0 : Int32)] [(.int (2 : Int32))])) _
          refine XS.iload X310.here hx rfl (hb hby at_199) rfl ?_
          show Steps p.tables e below (T310.setTop (mkF m 201 #[iv u0, iv u1, iv u2, .val (.long u3), .second, iv u4, .val (.long u5), .second, iv (3 : Int32), iv ka, iv kb, rv b145, rv b222, rv b290, iv (0 : Int32), iv (1 : Int32), iv (2 : Int32), iv (0 : Int32)] [(.int (2 : Int32)), (.int (2 : Int32))])) _
          refine XS.icmpNo X310.here hx rfl (hb hby at_201) rfl (teq (by decide : (2 : Int32) = (2 : Int32))).2 ?_
          show Steps p.tables e below (T310.setTop (mkF m 204 #[iv u0, iv u1, iv u2, .val (.long u3), .second, iv u4, .val (.long u5), .second, iv (3 : Int32), iv ka, iv kb, rv b145, rv b222, rv b290, iv (0 : Int32), iv (1 : Int32), iv (2 : Int32), iv (0 : Int32)] [])) _
          refine XS.iconst X310.here hx rfl (hb hby at_204) ?_
          show Steps p.tables e below (T310.setTop (mkF m 205 #[iv u0, iv u1, iv u2, .val (.long u3), .second, iv u4, .val (.long u5), .second, iv (3 : Int32), iv ka, iv kb, rv b145, rv b222, rv b290, iv (0 : Int32), iv (1 : Int32), iv (2 : Int32), iv (0 : Int32)] [(.int (1 : Int32))])) _
          refine XS.goto X310.here hx rfl (pc0 := 205) (pc' := 209) rfl (hb hby at_205) (by decide) (by decide) ?_
          show Steps p.tables e below (T310.setTop (mkF m 209 #[iv u0, iv u1, iv u2, .val (.long u3), .second, iv u4, .val (.long u5), .second, iv (3 : Int32), iv ka, iv kb, rv b145, rv b222, rv b290, iv (0 : Int32), iv (1 : Int32), iv (2 : Int32), iv (0 : Int32)] [(.int (1 : Int32))])) _
          refine XS.istore X310.here hx rfl (hb hby at_209) rfl (l' := #[iv u0, iv u1, iv u2, .val (.long u3), .second, iv u4, .val (.long u5), .second, iv (3 : Int32), iv ka, iv kb, rv b145, rv b222, rv b290, iv (0 : Int32), iv (1 : Int32), iv (2 : Int32), iv (0 : Int32)]) rfl ?_
          show Steps p.tables e below (T310.setTop (mkF m 211 #[iv u0, iv u1, iv u2, .val (.long u3), .second, iv u4, .val (.long u5), .second, iv (3 : Int32), iv ka, iv kb, rv b145, rv b222, rv b290, iv (0 : Int32), iv (1 : Int32), iv (2 : Int32), iv (0 : Int32)] [])) _
          refine XS.iload X310.here hx rfl (hb hby at_211) rfl ?_
          show Steps p.tables e below (T310.setTop (mkF m 213 #[iv u0, iv u1, iv u2, .val (.long u3), .second, iv u4, .val (.long u5), .second, iv (3 : Int32), iv ka, iv kb, rv b145, rv b222, rv b290, iv (0 : Int32), iv (1 : Int32), iv (2 : Int32), iv (0 : Int32)] [(.int (1 : Int32))])) _
          refine XS.ifNo X310.here hx rfl (hb hby at_213) rfl ((if0 _ _).trans (feq (by decide : ¬ ((1 : Int32) = (0 : Int32)))).1) ?_
          show Steps p.tables e below (T310.setTop (mkF m 216 #[iv u0, iv u1, iv u2, .val (.long u3), .second, iv u4, .val (.long u5), .second, iv (3 : Int32), iv ka, iv kb, rv b145, rv b222, rv b290, iv (0 : Int32), iv (1 : Int32), iv (2 : Int32), iv (0 : Int32)] [])) _
          refine XS.aload X310.here hx rfl (hb hby at_216) rfl rfl ?_
          show Steps p.tables e below (T310.setTop (mkF m 218 #[iv u0, iv u1, iv u2, .val (.long u3), .second, iv u4, .val (.long u5), .second, iv (3 : Int32), iv ka, iv kb, rv b145, rv b222, rv b290, iv (0 : Int32), iv (1 : Int32), iv (2 : Int32), iv (0 : Int32)] [(.ref b290)])) _
          refine XS.iconst X310.here hx rfl (hb hby at_218) ?_
          show Steps p.tables e below (T310.setTop (mkF m 219 #[iv u0, iv u1, iv u2, .val (.long u3), .second, iv u4, .val (.long u5), .second, iv (3 : Int32), iv ka, iv kb, rv b145, rv b222, rv b290, iv (0 : Int32), iv (1 : Int32), iv (2 : Int32), iv (0 : Int32)] [(.int (0 : Int32)), (.ref b290)])) _
          refine st311.trans ?_
          show Steps p.tables e below (T311.setTop (mkF m 222 #[iv u0, iv u1, iv u2, .val (.long u3), .second, iv u4, .val (.long u5), .second, iv (3 : Int32), iv ka, iv kb, rv b145, rv b222, rv b290, iv (0 : Int32), iv (1 : Int32), iv (2 : Int32), iv (0 : Int32)] [(.int ka)])) _
          refine XS.iload X311.here hx rfl (hb hby at_222) rfl ?_
          show Steps p.tables e below (T311.setTop (mkF m 224 #[iv u0, iv u1, iv u2, .val (.long u3), .second, iv u4, .val (.long u5), .second, iv (3 : Int32), iv ka, iv kb, rv b145, rv b222, rv b290, iv (0 : Int32), iv (1 : Int32), iv (2 : Int32), iv (0 : Int32)] [(.int ka), (.int ka)])) _
          refine XS.icmpNo X311.here hx rfl (hb hby at_224) rfl (teq rfl).2 ?_
          show Steps p.tables e below (T311.setTop (mkF m 227 #[iv u0, iv u1, iv u2, .val (.long u3), .second, iv u4, .val (.long u5), .second, iv (3 : Int32), iv ka, iv kb, rv b145, rv b222, rv b290, iv (0 : Int32), iv (1 : Int32), iv (2 : Int32), iv (0 : Int32)] [])) _
          refine XS.aload X311.here hx rfl (hb hby at_227) rfl rfl ?_
          show Steps p.tables e below (T311.setTop (mkF m 229 #[iv u0, iv u1, iv u2, .val (.long u3), .second, iv u4, .val (.long u5), .second, iv (3 : Int32), iv ka, iv kb, rv b145, rv b222, rv b290, iv (0 : Int32), iv (1 : Int32), iv (2 : Int32), iv (0 : Int32)] [(.ref b290)])) _
          refine XS.iconst X311.here hx rfl (hb hby at_229) ?_
          show Steps p.tables e below (T311.setTop (mkF m 230 #[iv u0, iv u1, iv u2, .val (.long u3), .second, iv u4, .val (.long u5), .second, iv (3 : Int32), iv ka, iv kb, rv b145, rv b222, rv b290, iv (0 : Int32), iv (1 : Int32), iv (2 : Int32), iv (0 : Int32)] [(.int (0 : Int32)), (.ref b290)])) _
          refine st312.trans ?_
          show Steps p.tables e below (T312.setTop (mkF m 233 #[iv u0, iv u1, iv u2, .val (.long u3), .second, iv u4, .val (.long u5), .second, iv (3 : Int32), iv ka, iv kb, rv b145, rv b222, rv b290, iv (0 : Int32), iv (1 : Int32), iv (2 : Int32), iv (0 : Int32)] [(.int u2)])) _
          refine XS.iloadN X312.here hx rfl (hb hby at_233) rfl ?_
          show Steps p.tables e below (T312.setTop (mkF m 234 #[iv u0, iv u1, iv u2, .val (.long u3), .second, iv u4, .val (.long u5), .second, iv (3 : Int32), iv ka, iv kb, rv b145, rv b222, rv b290, iv (0 : Int32), iv (1 : Int32), iv (2 : Int32), iv (0 : Int32)] [(.int u2), (.int u2)])) _
          refine XS.icmpNo X312.here hx rfl (hb hby at_234) rfl (teq rfl).2 ?_
          show Steps p.tables e below (T312.setTop (mkF m 237 #[iv u0, iv u1, iv u2, .val (.long u3), .second, iv u4, .val (.long u5), .second, iv (3 : Int32), iv ka, iv kb, rv b145, rv b222, rv b290, iv (0 : Int32), iv (1 : Int32), iv (2 : Int32), iv (0 : Int32)] [])) _
          refine XS.aload X312.here hx rfl (hb hby at_237) rfl rfl ?_
          show Steps p.tables e below (T312.setTop (mkF m 239 #[iv u0, iv u1, iv u2, .val (.long u3), .second, iv u4, .val (.long u5), .second, iv (3 : Int32), iv ka, iv kb, rv b145, rv b222, rv b290, iv (0 : Int32), iv (1 : Int32), iv (2 : Int32), iv (0 : Int32)] [(.ref b290)])) _
          refine XS.iconst X312.here hx rfl (hb hby at_239) ?_
          show Steps p.tables e below (T312.setTop (mkF m 240 #[iv u0, iv u1, iv u2, .val (.long u3), .second, iv u4, .val (.long u5), .second, iv (3 : Int32), iv ka, iv kb, rv b145, rv b222, rv b290, iv (0 : Int32), iv (1 : Int32), iv (2 : Int32), iv (0 : Int32)] [(.int (0 : Int32)), (.ref b290)])) _
          refine st313.trans ?_
          show Steps p.tables e below (T313.setTop (mkF m 243 #[iv u0, iv u1, iv u2, .val (.long u3), .second, iv u4, .val (.long u5), .second, iv (3 : Int32), iv ka, iv kb, rv b145, rv b222, rv b290, iv (0 : Int32), iv (1 : Int32), iv (2 : Int32), iv (0 : Int32)] [(.ref b145)])) _
          refine XS.aload X313.here hx rfl (hb hby at_243) rfl rfl ?_
          show Steps p.tables e below (T313.setTop (mkF m 245 #[iv u0, iv u1, iv u2, .val (.long u3), .second, iv u4, .val (.long u5), .second, iv (3 : Int32), iv ka, iv kb, rv b145, rv b222, rv b290, iv (0 : Int32), iv (1 : Int32), iv (2 : Int32), iv (0 : Int32)] [(.ref b145), (.ref b145)])) _
          refine Jvm.RoadKit.acmp (g := (mkF m 245 #[iv u0, iv u1, iv u2, .val (.long u3), .second, iv u4, .val (.long u5), .second, iv (3 : Int32), iv ka, iv kb, rv b145, rv b222, rv b290, iv (0 : Int32), iv (1 : Int32), iv (2 : Int32), iv (0 : Int32)] [(.ref b145), (.ref b145)])) X313 hx rfl rfl rfl (pc0 := 245) (pc' := 248) (same := true) rfl (hb hby at_245) rfl (decide_eq_true rfl) (by decide) (by decide) ?_
          show Steps p.tables e below (T313.setTop (mkF m 248 #[iv u0, iv u1, iv u2, .val (.long u3), .second, iv u4, .val (.long u5), .second, iv (3 : Int32), iv ka, iv kb, rv b145, rv b222, rv b290, iv (0 : Int32), iv (1 : Int32), iv (2 : Int32), iv (0 : Int32)] [])) _
          refine XS.aload X313.here hx rfl (hb hby at_248) rfl rfl ?_
          show Steps p.tables e below (T313.setTop (mkF m 250 #[iv u0, iv u1, iv u2, .val (.long u3), .second, iv u4, .val (.long u5), .second, iv (3 : Int32), iv ka, iv kb, rv b145, rv b222, rv b290, iv (0 : Int32), iv (1 : Int32), iv (2 : Int32), iv (0 : Int32)] [(.ref b290)])) _
          refine XS.iconst X313.here hx rfl (hb hby at_250) ?_
          show Steps p.tables e below (T313.setTop (mkF m 251 #[iv u0, iv u1, iv u2, .val (.long u3), .second, iv u4, .val (.long u5), .second, iv (3 : Int32), iv ka, iv kb, rv b145, rv b222, rv b290, iv (0 : Int32), iv (1 : Int32), iv (2 : Int32), iv (0 : Int32)] [(.int (0 : Int32)), (.ref b290)])) _
          refine st314.trans ?_
          show Steps p.tables e below (T314.setTop (mkF m 254 #[iv u0, iv u1, iv u2, .val (.long u3), .second, iv u4, .val (.long u5), .second, iv (3 : Int32), iv ka, iv kb, rv b145, rv b222, rv b290, iv (0 : Int32), iv (1 : Int32), iv (2 : Int32), iv (0 : Int32)] [(.long u3)])) _
          refine XS.lloadN X314.here hx rfl (hb hby at_254) rfl ?_
          show Steps p.tables e below (T314.setTop (mkF m 255 #[iv u0, iv u1, iv u2, .val (.long u3), .second, iv u4, .val (.long u5), .second, iv (3 : Int32), iv ka, iv kb, rv b145, rv b222, rv b290, iv (0 : Int32), iv (1 : Int32), iv (2 : Int32), iv (0 : Int32)] [(.long u3), (.long u3)])) _
          refine XS.lcmp X314.here hx rfl (hb hby at_255) rfl ?_
          show Steps p.tables e below (T314.setTop (mkF m 256 #[iv u0, iv u1, iv u2, .val (.long u3), .second, iv u4, .val (.long u5), .second, iv (3 : Int32), iv ka, iv kb, rv b145, rv b222, rv b290, iv (0 : Int32), iv (1 : Int32), iv (2 : Int32), iv (0 : Int32)] [(.int (lcmpW u3 u3))])) _
          refine XS.ifNo X314.here hx rfl (hb hby at_256) rfl ((if0 _ _).trans (teq ((lw_eq _ _).mpr rfl)).2) ?_
          show Steps p.tables e below (T314.setTop (mkF m 259 #[iv u0, iv u1, iv u2, .val (.long u3), .second, iv u4, .val (.long u5), .second, iv (3 : Int32), iv ka, iv kb, rv b145, rv b222, rv b290, iv (0 : Int32), iv (1 : Int32), iv (2 : Int32), iv (0 : Int32)] [])) _
          refine XS.iconst X314.here hx rfl (hb hby at_259) ?_
          show Steps p.tables e below (T314.setTop (mkF m 260 #[iv u0, iv u1, iv u2, .val (.long u3), .second, iv u4, .val (.long u5), .second, iv (3 : Int32), iv ka, iv kb, rv b145, rv b222, rv b290, iv (0 : Int32), iv (1 : Int32), iv (2 : Int32), iv (0 : Int32)] [(.int (1 : Int32))])) _
          refine XS.goto X314.here hx rfl (pc0 := 260) (pc' := 264) rfl (hb hby at_260) (by decide) (by decide) ?_
          show Steps p.tables e below (T314.setTop (mkF m 264 #[iv u0, iv u1, iv u2, .val (.long u3), .second, iv u4, .val (.long u5), .second, iv (3 : Int32), iv ka, iv kb, rv b145, rv b222, rv b290, iv (0 : Int32), iv (1 : Int32), iv (2 : Int32), iv (0 : Int32)] [(.int (1 : Int32))])) _
          refine XS.istore X314.here hx rfl (hb hby at_264) rfl (l' := #[iv u0, iv u1, iv u2, .val (.long u3), .second, iv u4, .val (.long u5), .second, iv (3 : Int32), iv ka, iv kb, rv b145, rv b222, rv b290, iv (0 : Int32), iv (1 : Int32), iv (2 : Int32), iv (0 : Int32)]) rfl ?_
          show Steps p.tables e below (T314.setTop (mkF m 266 #[iv u0, iv u1, iv u2, .val (.long u3), .second, iv u4, .val (.long u5), .second, iv (3 : Int32), iv ka, iv kb, rv b145, rv b222, rv b290, iv (0 : Int32), iv (1 : Int32), iv (2 : Int32), iv (0 : Int32)] [])) _
          refine XS.iload X314.here hx rfl (hb hby at_266) rfl ?_
          show Steps p.tables e below (T314.setTop (mkF m 268 #[iv u0, iv u1, iv u2, .val (.long u3), .second, iv u4, .val (.long u5), .second, iv (3 : Int32), iv ka, iv kb, rv b145, rv b222, rv b290, iv (0 : Int32), iv (1 : Int32), iv (2 : Int32), iv (0 : Int32)] [(.int (3 : Int32))])) _
          refine XS.iconst X314.here hx rfl (hb hby at_268) ?_
          show Steps p.tables e below (T314.setTop (mkF m 269 #[iv u0, iv u1, iv u2, .val (.long u3), .second, iv u4, .val (.long u5), .second, iv (3 : Int32), iv ka, iv kb, rv b145, rv b222, rv b290, iv (0 : Int32), iv (1 : Int32), iv (2 : Int32), iv (0 : Int32)] [(.int (2 : Int32)), (.int (3 : Int32))])) _
          refine XS.icmpNo X314.here hx rfl (hb hby at_269) rfl (flt (by decide : ¬ ((3 : Int32) < (2 : Int32)))).1 ?_
          show Steps p.tables e below (T314.setTop (mkF m 272 #[iv u0, iv u1, iv u2, .val (.long u3), .second, iv u4, .val (.long u5), .second, iv (3 : Int32), iv ka, iv kb, rv b145, rv b222, rv b290, iv (0 : Int32), iv (1 : Int32), iv (2 : Int32), iv (0 : Int32)] [])) _
          refine XS.iload X314.here hx rfl (hb hby at_272) rfl ?_
          show Steps p.tables e below (T314.setTop (mkF m 274 #[iv u0, iv u1, iv u2, .val (.long u3), .second, iv u4, .val (.long u5), .second, iv (3 : Int32), iv ka, iv kb, rv b145, rv b222, rv b290, iv (0 : Int32), iv (1 : Int32), iv (2 : Int32), iv (0 : Int32)] [(.int (1 : Int32))])) _
          refine XS.ifNo X314.here hx rfl (hb hby at_274) rfl ((if0 _ _).trans (feq (by decide : ¬ ((1 : Int32) = (0 : Int32)))).1) ?_
          show Steps p.tables e below (T314.setTop (mkF m 277 #[iv u0, iv u1, iv u2, .val (.long u3), .second, iv u4, .val (.long u5), .second, iv (3 : Int32), iv ka, iv kb, rv b145, rv b222, rv b290, iv (0 : Int32), iv (1 : Int32), iv (2 : Int32), iv (0 : Int32)] [])) _
          refine XS.aload X314.here hx rfl (hb hby at_277) rfl rfl ?_
          show Steps p.tables e below (T314.setTop (mkF m 279 #[iv u0, iv u1, iv u2, .val (.long u3), .second, iv u4, .val (.long u5), .second, iv (3 : Int32), iv ka, iv kb, rv b145, rv b222, rv b290, iv (0 : Int32), iv (1 : Int32), iv (2 : Int32), iv (0 : Int32)] [(.ref b290)])) _
          refine XS.iconst X314.here hx rfl (hb hby at_279) ?_
          show Steps p.tables e below (T314.setTop (mkF m 280 #[iv u0, iv u1, iv u2, .val (.long u3), .second, iv u4, .val (.long u5), .second, iv (3 : Int32), iv ka, iv kb, rv b145, rv b222, rv b290, iv (0 : Int32), iv (1 : Int32), iv (2 : Int32), iv (0 : Int32)] [(.int (1 : Int32)), (.ref b290)])) _
          refine st315.trans ?_
          show Steps p.tables e below (T315.setTop (mkF m 283 #[iv u0, iv u1, iv u2, .val (.long u3), .second, iv u4, .val (.long u5), .second, iv (3 : Int32), iv ka, iv kb, rv b145, rv b222, rv b290, iv (0 : Int32), iv (1 : Int32), iv (2 : Int32), iv (0 : Int32)] [(.int kb)])) _
          refine XS.iload X315.here hx rfl (hb hby at_283) rfl ?_
          show Steps p.tables e below (T315.setTop (mkF m 285 #[iv u0, iv u1, iv u2, .val (.long u3), .second, iv u4, .val (.long u5), .second, iv (3 : Int32), iv ka, iv kb, rv b145, rv b222, rv b290, iv (0 : Int32), iv (1 : Int32), iv (2 : Int32), iv (0 : Int32)] [(.int kb), (.int kb)])) _
          refine XS.icmpNo X315.here hx rfl (hb hby at_285) rfl (teq rfl).2 ?_
          show Steps p.tables e below (T315.setTop (mkF m 288 #[iv u0, iv u1, iv u2, .val (.long u3), .second, iv u4, .val (.long u5), .second, iv (3 : Int32), iv ka, iv kb, rv b145, rv b222, rv b290, iv (0 : Int32), iv (1 : Int32), iv (2 : Int32), iv (0 : Int32)] [])) _
          refine XS.aload X315.here hx rfl (hb hby at_288) rfl rfl ?_
          show Steps p.tables e below (T315.setTop (mkF m 290 #[iv u0, iv u1, iv u2, .val (.long u3), .second, iv u4, .val (.long u5), .second, iv (3 : Int32), iv ka, iv kb, rv b145, rv b222, rv b290, iv (0 : Int32), iv (1 : Int32), iv (2 : Int32), iv (0 : Int32)] [(.ref b290)])) _
          refine XS.iconst X315.here hx rfl (hb hby at_290) ?_
          show Steps p.tables e below (T315.setTop (mkF m 291 #[iv u0, iv u1, iv u2, .val (.long u3), .second, iv u4, .val (.long u5), .second, iv (3 : Int32), iv ka, iv kb, rv b145, rv b222, rv b290, iv (0 : Int32), iv (1 : Int32), iv (2 : Int32), iv (0 : Int32)] [(.int (1 : Int32)), (.ref b290)])) _
          refine st316.trans ?_
          show Steps p.tables e below (T316.setTop (mkF m 294 #[iv u0, iv u1, iv u2, .val (.long u3), .second, iv u4, .val (.long u5), .second, iv (3 : Int32), iv ka, iv kb, rv b145, rv b222, rv b290, iv (0 : Int32), iv (1 : Int32), iv (2 : Int32), iv (0 : Int32)] [(.int u4)])) _
          refine XS.iload X316.here hx rfl (hb hby at_294) rfl ?_
          show Steps p.tables e below (T316.setTop (mkF m 296 #[iv u0, iv u1, iv u2, .val (.long u3), .second, iv u4, .val (.long u5), .second, iv (3 : Int32), iv ka, iv kb, rv b145, rv b222, rv b290, iv (0 : Int32), iv (1 : Int32), iv (2 : Int32), iv (0 : Int32)] [(.int u4), (.int u4)])) _
          refine XS.icmpNo X316.here hx rfl (hb hby at_296) rfl (teq rfl).2 ?_
          show Steps p.tables e below (T316.setTop (mkF m 299 #[iv u0, iv u1, iv u2, .val (.long u3), .second, iv u4, .val (.long u5), .second, iv (3 : Int32), iv ka, iv kb, rv b145, rv b222, rv b290, iv (0 : Int32), iv (1 : Int32), iv (2 : Int32), iv (0 : Int32)] [])) _
          refine XS.aload X316.here hx rfl (hb hby at_299) rfl rfl ?_
          show Steps p.tables e below (T316.setTop (mkF m 301 #[iv u0, iv u1, iv u2, .val (.long u3), .second, iv u4, .val (.long u5), .second, iv (3 : Int32), iv ka, iv kb, rv b145, rv b222, rv b290, iv (0 : Int32), iv (1 : Int32), iv (2 : Int32), iv (0 : Int32)] [(.ref b290)])) _
          refine XS.iconst X316.here hx rfl (hb hby at_301) ?_
          show Steps p.tables e below (T316.setTop (mkF m 302 #[iv u0, iv u1, iv u2, .val (.long u3), .second, iv u4, .val (.long u5), .second, iv (3 : Int32), iv ka, iv kb, rv b145, rv b222, rv b290, iv (0 : Int32), iv (1 : Int32), iv (2 : Int32), iv (0 : Int32)] [(.int (1 : Int32)), (.ref b290)])) _
          refine st317.trans ?_
          show Steps p.tables e below (T317.setTop (mkF m 305 #[iv u0, iv u1, iv u2, .val (.long u3), .second, iv u4, .val (.long u5), .second, iv (3 : Int32), iv ka, iv kb, rv b145, rv b222, rv b290, iv (0 : Int32), iv (1 : Int32), iv (2 : Int32), iv (0 : Int32)] [(.ref b222)])) _
          refine XS.aload X317.here hx rfl (hb hby at_305) rfl rfl ?_
          show Steps p.tables e below (T317.setTop (mkF m 307 #[iv u0, iv u1, iv u2, .val (.long u3), .second, iv u4, .val (.long u5), .second, iv (3 : Int32), iv ka, iv kb, rv b145, rv b222, rv b290, iv (0 : Int32), iv (1 : Int32), iv (2 : Int32), iv (0 : Int32)] [(.ref b222), (.ref b222)])) _
          refine Jvm.RoadKit.acmp (g := (mkF m 307 #[iv u0, iv u1, iv u2, .val (.long u3), .second, iv u4, .val (.long u5), .second, iv (3 : Int32), iv ka, iv kb, rv b145, rv b222, rv b290, iv (0 : Int32), iv (1 : Int32), iv (2 : Int32), iv (0 : Int32)] [(.ref b222), (.ref b222)])) X317 hx rfl rfl rfl (pc0 := 307) (pc' := 310) (same := true) rfl (hb hby at_307) rfl (decide_eq_true rfl) (by decide) (by decide) ?_
          show Steps p.tables e below (T317.setTop (mkF m 310 #[iv u0, iv u1, iv u2, .val (.long u3), .second, iv u4, .val (.long u5), .second, iv (3 : Int32), iv ka, iv kb, rv b145, rv b222, rv b290, iv (0 : Int32), iv (1 : Int32), iv (2 : Int32), iv (0 : Int32)] [])) _
          refine XS.aload X317.here hx rfl (hb hby at_310) rfl rfl ?_
          show Steps p.tables e below (T317.setTop (mkF m 312 #[iv u0, iv u1, iv u2, .val (.long u3), .second, iv u4, .val (.long u5), .second, iv (3 : Int32), iv ka, iv kb, rv b145, rv b222, rv b290, iv (0 : Int32), iv (1 : Int32), iv (2 : Int32), iv (0 : Int32)] [(.ref b290)])) _
          refine XS.iconst X317.here hx rfl (hb hby at_312) ?_
          show Steps p.tables e below (T317.setTop (mkF m 313 #[iv u0, iv u1, iv u2, .val (.long u3), .second, iv u4, .val (.long u5), .second, iv (3 : Int32), iv ka, iv kb, rv b145, rv b222, rv b290, iv (0 : Int32), iv (1 : Int32), iv (2 : Int32), iv (0 : Int32)] [(.int (1 : Int32)), (.ref b290)])) _
          refine st318.trans ?_
          show Steps p.tables e below (T318.setTop (mkF m 316 #[iv u0, iv u1, iv u2, .val (.long u3), .second, iv u4, .val (.long u5), .second, iv (3 : Int32), iv ka, iv kb, rv b145, rv b222, rv b290, iv (0 : Int32), iv (1 : Int32), iv (2 : Int32), iv (0 : Int32)] [(.long u5)])) _
          refine XS.lload X318.here hx rfl (hb hby at_316) rfl ?_
          show Steps p.tables e below (T318.setTop (mkF m 318 #[iv u0, iv u1, iv u2, .val (.long u3), .second, iv u4, .val (.long u5), .second, iv (3 : Int32), iv ka, iv kb, rv b145, rv b222, rv b290, iv (0 : Int32), iv (1 : Int32), iv (2 : Int32), iv (0 : Int32)] [(.long u5), (.long u5)])) _
          refine XS.lcmp X318.here hx rfl (hb hby at_318) rfl ?_
          show Steps p.tables e below (T318.setTop (mkF m 319 #[iv u0, iv u1, iv u2, .val (.long u3), .second, iv u4, .val (.long u5), .second, iv (3 : Int32), iv ka, iv kb, rv b145, rv b222, rv b290, iv (0 : Int32), iv (1 : Int32), iv (2 : Int32), iv (0 : Int32)] [(.int (lcmpW u5 u5))])) _
          refine XS.ifNo X318.here hx rfl (hb hby at_319) rfl ((if0 _ _).trans (teq ((lw_eq _ _).mpr rfl)).2) ?_
          show Steps p.tables e below (T318.setTop (mkF m 322 #[iv u0, iv u1, iv u2, .val (.long u3), .second, iv u4, .val (.long u5), .second, iv (3 : Int32), iv ka, iv kb, rv b145, rv b222, rv b290, iv (0 : Int32), iv (1 : Int32), iv (2 : Int32), iv (0 : Int32)] [])) _
          refine XS.iconst X318.here hx rfl (hb hby at_322) ?_
          show Steps p.tables e below (T318.setTop (mkF m 323 #[iv u0, iv u1, iv u2, .val (.long u3), .second, iv u4, .val (.long u5), .second, iv (3 : Int32), iv ka, iv kb, rv b145, rv b222, rv b290, iv (0 : Int32), iv (1 : Int32), iv (2 : Int32), iv (0 : Int32)] [(.int (1 : Int32))])) _
          refine XS.goto X318.here hx rfl (pc0 := 323) (pc' := 327) rfl (hb hby at_323) (by decide) (by decide) ?_
          show Steps p.tables e below (T318.setTop (mkF m 327 #[iv u0, iv u1, iv u2, .val (.long u3), .second, iv u4, .val (.long u5), .second, iv (3 : Int32), iv ka, iv kb, rv b145, rv b222, rv b290, iv (0 : Int32), iv (1 : Int32), iv (2 : Int32), iv (0 : Int32)] [(.int (1 : Int32))])) _
          refine XS.istore X318.here hx rfl (hb hby at_327) rfl (l' := #[iv u0, iv u1, iv u2, .val (.long u3), .second, iv u4, .val (.long u5), .second, iv (3 : Int32), iv ka, iv kb, rv b145, rv b222, rv b290, iv (0 : Int32), iv (1 : Int32), iv (2 : Int32), iv (0 : Int32)]) rfl ?_
          show Steps p.tables e below (T318.setTop (mkF m 329 #[iv u0, iv u1, iv u2, .val (.long u3), .second, iv u4, .val (.long u5), .second, iv (3 : Int32), iv ka, iv kb, rv b145, rv b222, rv b290, iv (0 : Int32), iv (1 : Int32), iv (2 : Int32), iv (0 : Int32)] [])) _
          refine XS.iload X318.here hx rfl (hb hby at_329) rfl ?_
          show Steps p.tables e below (T318.setTop (mkF m 331 #[iv u0, iv u1, iv u2, .val (.long u3), .second, iv u4, .val (.long u5), .second, iv (3 : Int32), iv ka, iv kb, rv b145, rv b222, rv b290, iv (0 : Int32), iv (1 : Int32), iv (2 : Int32), iv (0 : Int32)] [(.int (1 : Int32))])) _
          exact retN X318 hx (t := .boolean) Bd.returns (by simp) (hb hby at_331) hr
        · show Q0 Z u0 u1 u2 u3 u4 u5 h0 n0 _ T318.heap _
          rw [eq318]
          exact ⟨rfl, N318⟩
set_option maxRecDepth 65536 in
set_option maxHeartbeats 40000000 in
theorem comes_1 {Post : Tables → Env → Array Value → State → Outcome → State → Prop} (hpost : ∀ tb e args s v u, (limb_1_1.after args s (.returned v) u = true ∧ limb_1_2.after args s (.returned v) u = true ∧ True) → FrameEnd s (.returned v) u (Jvm.fieldLocs frame_1_writes args s ++ Jvm.arrayLocs frame_1_arrays args s ++ Jvm.staticLocs frame_1_statics s) 24 128 → Post tb e args s (.returned v) u) :
    ArmFor flags0 classFile x code maxLocals ret World_1 tables_1 room_1 Calls_1 rest_1 Pre_1 Post := by
  intro l hfl _ _ p e ha hc hk s m args below hf hA hF happ hP
  obtain ⟨hcalls, hrest, hpre⟩ := hP
  obtain ⟨-, -, -, hnamed, -, -, -, hat⟩ := (Spec.applies_iff hf).mp happ
  obtain ⟨hg, hn⟩ := and_e (Cond.before_iff.mp (show (Jvm.Cond.and given_1 narrow_1).before args s = true from hpre))
  obtain ⟨g1, g2⟩ := and_e hg
  obtain ⟨g3, g4⟩ := and_e g2
  obtain ⟨g5, g6⟩ := and_e g4
  obtain ⟨g7, g8⟩ := and_e g6
  obtain ⟨g9, g10⟩ := and_e g8
  obtain ⟨g11, g12⟩ := and_e g10
  obtain ⟨w0, w1, w2, w3, w4, w5, rfl⟩ : ∃ w0 w1 w2 w3 w4 w5 : Value, args = #[w0, w1, w2, w3, w4, w5] := by
    have hs : args.size = 6 := by simpa [Cond.value, given_1] using g1
    obtain ⟨L⟩ := args
    match L, hs with
    | [w0, w1, w2, w3, w4, w5], _ => exact ⟨w0, w1, w2, w3, w4, w5, rfl⟩
  have hw := fun d (hd : d ∈ tables_1) => atoms_spec (ws := Jvm.Cond.code x code maxLocals ret :: tables_1) hat d (List.mem_cons_of_mem _ hd)
  have hfit : Fit s := fun {y c} hc i hi => by
    obtain ⟨ha, rfl⟩ := Array.getElem?_eq_some_iff.mp hc
    have q := List.all_eq_true.mp ((Array.all_eq_true_iff_forall_mem.mp hF) _ (Array.getElem_mem ha)) i (List.mem_range.mpr hi)
    simpa [Array.getElem?_eq_getElem hi] using q
  obtain ⟨i0, ei0⟩ := is_v g3
  obtain rfl : w0 = (.int i0) := Option.some.inj ei0
  obtain ⟨i1, ei1⟩ := is_v g5
  obtain rfl : w1 = (.int i1) := Option.some.inj ei1
  obtain ⟨i2, ei2⟩ := is_v g7
  obtain rfl : w2 = (.int i2) := Option.some.inj ei2
  obtain ⟨i3, ei3⟩ := isL_v g9
  obtain rfl : w3 = (.long i3) := Option.some.inj ei3
  obtain ⟨i4, ei4⟩ := is_v g11
  obtain rfl : w4 = (.int i4) := Option.some.inj ei4
  obtain ⟨i5, ei5⟩ := isL_v g12
  obtain rfl : w5 = (.long i5) := Option.some.inj ei5
  obtain ⟨n, o, h1, h2, h3, _, L, rfl, ⟨rfl, N⟩, hq⟩ := rm0 l s _ hw tables_1 i0 i1 i2 i3 i4 i5 s.heap s.heap.size (Nat.le_refl _)  p e ha hc hk s m _ below hf ((Spec.applies_iff_loose hf).mp happ).1 ⟨rfl, State.Warmed39.refl s, rfl⟩ trivial
  refine ⟨n, _, h1, h2, h3, hpost _ _ _ _ _ _ ⟨Cond.after_iff.mpr rfl, Cond.after_iff.mpr (eq_i res_at (Term.int_eval (1)) rfl), trivial⟩ ⟨hq.1, hq.2.1, (hq.2.2.sift fun y hy => Or.inr (N y hy)).mono (by decide) (by decide)⟩⟩
theorem main_1_1 : Claimed_1_1 := comes_1 fun _ _ _ _ _ _ h hF => ⟨h.1, hF⟩
theorem main_1_2 : Claimed_1_2 := comes_1 fun _ _ _ _ _ _ h hF => ⟨h.2.1, hF⟩
end Jvm.Pilot.@@N@@
namespace Jvm.Pilot.@@N@@
open Jvm Jvm.ClassFile Sem Op Lib Jvm.Free Jvm.Stand Jvm.Pilot.@@N@@.Jvm.D
/-! MADE BY PROGRAM (witnessworld.py) out of the Statement's table words and the real class files: 11 classes; the members and pool entries that the words name. The judged class is class 1, her method 1. -/
namespace start1
open Jvm.ClassFile
def u (s : String) : CpInfo := .utf8 (stringToUtf16 s)
/-- a pool by its gaps: so many unusable entries, then the entry; so many at the end -/
def gap : Nat → List CpInfo → List CpInfo
  | 0, r => r
  | n + 1, r => .unusable :: gap n r
def poolList (es : List (Nat × CpInfo)) (last : Nat) : List CpInfo := es.foldr (fun e r => gap e.1 (e.2 :: r)) (gap last [])
def pool (es : List (Nat × CpInfo)) (last : Nat) : Array CpInfo := ⟨poolList es last⟩
def fileOf (pool : Array CpInfo) (this : Nat) (attrs : Array Attribute := #[]) (ms : Array MethodInfo := #[]) (fl : Nat := 33) (sup : Nat := 0) (ifs : Array Nat := #[]) (fds : Array FieldInfo := #[]) : ClassFile where
  minorVersion := 0
  majorVersion := 65
  constantPool := pool
  accessFlags := fl
  thisClass := this
  superClass := sup
  interfaces := ifs
  fields := fds
  methods := ms
  attributes := attrs
def plain (name : String) (sup : Option ClassId) : Class where
  name := name
  kind := .ordinary
  loader := none
  accessFlags := 33
  super := sup
  interfaces := #[]
  cf := none
  fields := #[]
  methods := #[]
  instanceTypes := #[]
  staticTypes := #[]
  resolved := #[]
  callSites := []
  init := .initialized
  statics := none
  mirror := none

def pool0 : Array CpInfo := pool [(5, u "<init>"), (0, u "()V"), (1, .class_ 10), (1, u "java/lang/Object")] 113

def k0c0 : Code := { maxStack := 0, maxLocals := 1, code := object_method_1_code, exceptionTable := #[], attributes := #[] }
def k0m0 : Method := { name := "<init>", desc := "()V", sig := { parameters := [], returnType := none }, accessFlags := 1, code := some k0c0 }
/-- java/lang/Object -/
def k0 : Class := { plain "java/lang/Object" none with
  accessFlags := 33
  interfaces := #[]
  cf := some (fileOf pool0 8 #[] #[{ accessFlags := 1, nameIndex := 5, descriptorIndex := 6, attributes := #[] }] 33 0 #[] #[])
  fields := #[]
  methods := #[k0m0]
  instanceTypes := #[]
  staticTypes := #[]
  resolved := Array.replicate 124 none
  statics := none }

def pool1 : Array CpInfo := pool [(2, .class_ 4), (1, u "java/lang/Object"), (0, u "<init>"), (0, u "()V"), (0, .integer 65535), (0, .class_ 9), (0, u "com/example/agouti/agouti/store/IndexBuilder$Notes"), (0, .methodref 8 11), (0, .nameAndType 5 12), (0, u "(I)V"), (0, .methodref 8 14), (0, .nameAndType 15 16), (0, u "add"), (0, u "(BI[BJ)Z"), (0, .methodref 8 18), (0, .nameAndType 19 20), (0, u "count"), (0, u "()I"), (0, .methodref 8 22), (0, .nameAndType 23 24), (0, u "kind"), (0, u "(I)B"), (0, .methodref 8 26), (0, .nameAndType 27 28), (0, u "node"), (0, u "(I)I"), (0, .methodref 8 30), (0, .nameAndType 31 32), (0, u "value"), (0, u "(I)[B"), (0, .methodref 8 34), (0, .nameAndType 35 36), (0, u "hash"), (0, u "(I)J"), (0, .class_ 38), (0, u "com/example/agouti/agouti/store/IndexBuilderAddPinLaw"), (2, u "law"), (0, u "(IIIJIJ)Z")] 9

def k1m0 : Method := { name := "<init>", desc := "()V", sig := { parameters := [], returnType := none }, accessFlags := 1, code := none }
def k1c1 : Code := { maxStack := 6, maxLocals := 18, code := code, exceptionTable := #[], attributes := #[] }
def k1m1 : Method := { name := "law", desc := "(IIIJIJ)Z", sig := { parameters := [.int, .int, .int, .long, .int, .long], returnType := some .boolean }, accessFlags := 9, code := some k1c1 }
/-- com/example/agouti/agouti/store/IndexBuilderAddPinLaw -/
def k1 : Class := { plain "com/example/agouti/agouti/store/IndexBuilderAddPinLaw" (some 0) with
  accessFlags := 49
  interfaces := #[]
  cf := some (fileOf pool1 37 #[] #[{ accessFlags := 1, nameIndex := 5, descriptorIndex := 6, attributes := #[] }, { accessFlags := 9, nameIndex := 41, descriptorIndex := 42, attributes := #[] }] 49 2 #[] #[])
  fields := #[]
  methods := #[k1m0, k1m1]
  instanceTypes := #[]
  staticTypes := #[]
  resolved := Array.replicate 52 none
  statics := none }

def pool2 : Array CpInfo := pool [(1, .methodref 2 3), (0, .class_ 4), (0, .nameAndType 5 6), (0, u "java/lang/Object"), (0, u "<init>"), (0, u "()V"), (0, .fieldref 8 9), (0, .class_ 10), (0, .nameAndType 11 12), (0, u "com/example/agouti/agouti/store/IndexBuilder$Notes"), (0, u "kinds"), (0, u "[B"), (0, .fieldref 8 14), (0, .nameAndType 15 16), (0, u "nodes"), (0, u "[I"), (0, .class_ 12), (0, .fieldref 8 19), (0, .nameAndType 20 21), (0, u "values"), (0, u "[[B"), (0, .fieldref 8 23), (0, .nameAndType 24 25), (0, u "hashes"), (0, u "[J"), (0, .fieldref 8 27), (0, .nameAndType 28 29), (0, u "count"), (0, u "I"), (0, u "STARTS"), (0, u "B"), (2, u "ENDS"), (1, u "ATTRIBUTE"), (1, u "TEXT"), (1, u "OTHER_CHILD"), (1, u "(I)V"), (2, u "add"), (0, u "(BI[BJ)Z"), (1, u "()I"), (0, u "kind"), (0, u "(I)B"), (0, u "node"), (0, u "(I)I"), (0, u "value"), (0, u "(I)[B"), (0, u "hash"), (0, u "(I)J"), (4, .class_ 62), (0, u "com/example/agouti/agouti/store/IndexBuilder")] 2

def k2c0 : Code := { maxStack := 2, maxLocals := 2, code := prog_134_method_1_code, exceptionTable := #[], attributes := #[] }
def k2m0 : Method := { name := "<init>", desc := "(I)V", sig := { parameters := [.int], returnType := none }, accessFlags := 0, code := some k2c0 }
def k2c1 : Code := { maxStack := 4, maxLocals := 6, code := prog_134_method_2_code, exceptionTable := #[], attributes := #[] }
def k2m1 : Method := { name := "add", desc := "(BI[BJ)Z", sig := { parameters := [.byte, .int, (.array .byte), .long], returnType := some .boolean }, accessFlags := 0, code := some k2c1 }
def k2c2 : Code := { maxStack := 1, maxLocals := 1, code := prog_134_method_3_code, exceptionTable := #[], attributes := #[] }
def k2m2 : Method := { name := "count", desc := "()I", sig := { parameters := [], returnType := some .int }, accessFlags := 0, code := some k2c2 }
def k2c3 : Code := { maxStack := 2, maxLocals := 2, code := prog_134_method_4_code, exceptionTable := #[], attributes := #[] }
def k2m3 : Method := { name := "kind", desc := "(I)B", sig := { parameters := [.int], returnType := some .byte }, accessFlags := 0, code := some k2c3 }
def k2c4 : Code := { maxStack := 2, maxLocals := 2, code := prog_134_method_5_code, exceptionTable := #[], attributes := #[] }
def k2m4 : Method := { name := "node", desc := "(I)I", sig := { parameters := [.int], returnType := some .int }, accessFlags := 0, code := some k2c4 }
def k2c5 : Code := { maxStack := 2, maxLocals := 2, code := prog_134_method_6_code, exceptionTable := #[], attributes := #[] }
def k2m5 : Method := { name := "value", desc := "(I)[B", sig := { parameters := [.int], returnType := some (.array .byte) }, accessFlags := 0, code := some k2c5 }
def k2c6 : Code := { maxStack := 2, maxLocals := 2, code := prog_134_method_7_code, exceptionTable := #[], attributes := #[] }
def k2m6 : Method := { name := "hash", desc := "(I)J", sig := { parameters := [.int], returnType := some .long }, accessFlags := 0, code := some k2c6 }
/-- com/example/agouti/agouti/store/IndexBuilder$Notes -/
def k2 : Class := { plain "com/example/agouti/agouti/store/IndexBuilder$Notes" (some 0) with
  accessFlags := 49
  interfaces := #[]
  cf := some (fileOf pool2 8 #[.nestHost 61] #[{ accessFlags := 0, nameIndex := 5, descriptorIndex := 42, attributes := #[] }, { accessFlags := 0, nameIndex := 45, descriptorIndex := 46, attributes := #[] }, { accessFlags := 0, nameIndex := 28, descriptorIndex := 48, attributes := #[] }, { accessFlags := 0, nameIndex := 49, descriptorIndex := 50, attributes := #[] }, { accessFlags := 0, nameIndex := 51, descriptorIndex := 52, attributes := #[] }, { accessFlags := 0, nameIndex := 53, descriptorIndex := 54, attributes := #[] }, { accessFlags := 0, nameIndex := 55, descriptorIndex := 56, attributes := #[] }] 49 2 #[] #[{ accessFlags := 24, nameIndex := 30, descriptorIndex := 31, attributes := #[] }, { accessFlags := 24, nameIndex := 34, descriptorIndex := 31, attributes := #[] }, { accessFlags := 24, nameIndex := 36, descriptorIndex := 31, attributes := #[] }, { accessFlags := 24, nameIndex := 38, descriptorIndex := 31, attributes := #[] }, { accessFlags := 24, nameIndex := 40, descriptorIndex := 31, attributes := #[] }, { accessFlags := 18, nameIndex := 11, descriptorIndex := 12, attributes := #[] }, { accessFlags := 18, nameIndex := 15, descriptorIndex := 16, attributes := #[] }, { accessFlags := 2, nameIndex := 20, descriptorIndex := 21, attributes := #[] }, { accessFlags := 18, nameIndex := 24, descriptorIndex := 25, attributes := #[] }, { accessFlags := 2, nameIndex := 28, descriptorIndex := 29, attributes := #[] }])
  fields := #[{ name := "STARTS", type := .byte, accessFlags := 24, slot := 0, constantValue := 0 }, { name := "ENDS", type := .byte, accessFlags := 24, slot := 1, constantValue := 0 }, { name := "ATTRIBUTE", type := .byte, accessFlags := 24, slot := 2, constantValue := 0 }, { name := "TEXT", type := .byte, accessFlags := 24, slot := 3, constantValue := 0 }, { name := "OTHER_CHILD", type := .byte, accessFlags := 24, slot := 4, constantValue := 0 }, { name := "kinds", type := (.array .byte), accessFlags := 18, slot := 0, constantValue := 0 }, { name := "nodes", type := (.array .int), accessFlags := 18, slot := 1, constantValue := 0 }, { name := "values", type := (.array (.array .byte)), accessFlags := 2, slot := 2, constantValue := 0 }, { name := "hashes", type := (.array .long), accessFlags := 18, slot := 3, constantValue := 0 }, { name := "count", type := .int, accessFlags := 2, slot := 4, constantValue := 0 }]
  methods := #[k2m0, k2m1, k2m2, k2m3, k2m4, k2m5, k2m6]
  instanceTypes := #[(.array .byte), (.array .int), (.array (.array .byte)), (.array .long), .int]
  staticTypes := #[.byte, .byte, .byte, .byte, .byte]
  resolved := Array.replicate 65 none
  statics := none }

def pool3 : Array CpInfo := pool [(1, u "java/lang/Cloneable"), (0, .class_ 1), (0, u "java/lang/Object"), (0, .class_ 3)] 3

/-- java/lang/Cloneable -/
def k3 : Class := { plain "java/lang/Cloneable" (some 0) with
  accessFlags := 1537
  interfaces := #[]
  cf := some (fileOf pool3 2 #[] #[] 1537 4 #[] #[])
  fields := #[]
  methods := #[]
  instanceTypes := #[]
  staticTypes := #[]
  resolved := Array.replicate 8 none
  statics := none }

def pool4 : Array CpInfo := pool [(1, u "java/io/Serializable"), (0, .class_ 1), (0, u "java/lang/Object"), (0, .class_ 3)] 3

/-- java/io/Serializable -/
def k4 : Class := { plain "java/io/Serializable" (some 0) with
  accessFlags := 1537
  interfaces := #[]
  cf := some (fileOf pool4 2 #[] #[] 1537 4 #[] #[])
  fields := #[]
  methods := #[]
  instanceTypes := #[]
  staticTypes := #[]
  resolved := Array.replicate 8 none
  statics := none }

/-- the primitive byte -/
def k5 : Class := { plain "byte" none with kind := .primitive 'B', accessFlags := 0x411 }
/-- [B -/
def k6 : Class := { plain "[B" (some 0) with kind := .array 5 .byte, interfaces := #[3, 4], accessFlags := 1041 }

/-- the primitive int -/
def k7 : Class := { plain "int" none with kind := .primitive 'I', accessFlags := 0x411 }
/-- [I -/
def k8 : Class := { plain "[I" (some 0) with kind := .array 7 .int, interfaces := #[3, 4], accessFlags := 1041 }

/-- the primitive long -/
def k9 : Class := { plain "long" none with kind := .primitive 'J', accessFlags := 0x411 }
/-- [J -/
def k10 : Class := { plain "[J" (some 0) with kind := .array 9 .long, interfaces := #[3, 4], accessFlags := 1041 }
/-- [[B -/
def k11 : Class := { plain "[[B" (some 0) with kind := .array 6 (.array .byte), interfaces := #[3, 4], accessFlags := 1041 }

def heap : Heap := #[]
def classes : Array Class := #[k0, k1, k2, k3, k4, k5, k6, k7, k8, k9, k10, k11]
def interned : List (Array UInt16 × Addr) := []
def slotsUsed : Nat := 0
def theMethod : MethodId := ⟨1, 1⟩
def args0 : Array Value := #[.int 257, .int 3, .int 4, .long 5, .int 6, .long 7]
def aboutOver (below : List Frame) : State where
  vm := { classes := classes, interned := interned.toArray }
  heap := heap
  slotsUsed := slotsUsed
  threads := #[{ frames := .invoking theMethod args0 :: below }]
def below0 : List Frame := [.native { method := ⟨0, 0⟩, args := #[] }]
def about1 : State := aboutOver below0
def p0 : Program := .bare "" "" ""
def e0 : Env := launch0.env 0 0 0
theorem w_frames : about1.frames = Frame.invoking theMethod args0 :: below0 := rfl
set_option maxRecDepth 65536 in
theorem w_args : argsFit about1.vm theMethod args0 = true := by decide +kernel
set_option maxRecDepth 65536 in
theorem w_heap : heapFits about1 = true := by decide +kernel
set_option maxRecDepth 65536 in
theorem w_runnable : about1.curStatus? = some .runnable := by decide +kernel
set_option maxRecDepth 65536 in
theorem w_alone : about1.alone = true := by decide +kernel
set_option maxRecDepth 65536 in
theorem w_named : about1.methodNamed? x = some theMethod := by decide +kernel
set_option maxRecDepth 65536 in
theorem w_hears : about1.hears theMethod below0 = true := by decide +kernel
set_option maxRecDepth 65536 in
theorem w_ripe : about1.ripe theMethod args0 below0 = true := by decide +kernel
theorem w_running : about1.status = .running := rfl
set_option maxRecDepth 65536 in
theorem w_room : about1.hasRoom e0.platform room_1 = true :=
  launch0.hasRoom_least _ room_1 (by decide +kernel) (by decide +kernel) (by decide +kernel) (by decide +kernel) (by decide +kernel) (by decide +kernel)
theorem allAtoms_all (ts : List Jvm.Cond) (a : Array Jvm.Value) (st : Jvm.State) : (allAtoms ts).before a st = ts.all (fun c => c.before a st) := by
  induction ts with
  | nil => rfl
  | cons c t ih =>
    show (Jvm.Cond.and c (allAtoms t)).before a st = _
    rw [Jvm.Cond.before_and, ih, List.all_cons]
def words1 : List Jvm.Cond := Jvm.Cond.code x code maxLocals ret :: tables_1
/-- a 'code' word, met by the world's own term for the bytes: nothing is compared byte by byte -/
theorem code_word {y : MethodName} {bytes : ByteArray} {mx : Nat} {rt : Option FieldType} {a : Array Value} {s : State} {m : MethodId} {meth : Method} {c : Code} (h1 : s.methodNamed? y = some m) (h2 : s.vm.method? m = some meth) (h3 : meth.code = some c) (h4 : c.code = bytes)
    (h5 : (c.maxLocals == mx && c.exceptionTable.isEmpty && decide (c.maxStack ≤ mostOperands) && decide (meth.sig.returnType = rt) && !meth.locks && decide (parseMethodDescriptor y.desc = some meth.sig)) = true) : (Jvm.Cond.code y bytes mx rt).before a s = true := by
  simp only [Bool.and_eq_true, beq_iff_eq, Bool.not_eq_true', decide_eq_true_eq] at h5
  obtain ⟨⟨⟨⟨⟨g1, g2⟩, g3⟩, g4⟩, g5⟩, g6⟩ := h5
  simp [Cond.before, Cond.holds, Cond.value, h1, h2, h3, h4, g1, g2, g3, g4, g5, g6]
def isCode : Jvm.Cond → Bool
  | .code _ _ _ _ => true
  | _ => false
theorem all_split {L : List Jvm.Cond} {P : Jvm.Cond → Bool} (h1 : L.all (fun c => isCode c || P c) = true) (h2 : ∀ c ∈ L.filter isCode, P c = true) : L.all P = true := by
  refine List.all_eq_true.mpr fun c hc => ?_
  have h := List.all_eq_true.mp h1 c hc
  rcases Bool.eq_false_or_eq_true (isCode c) with hi | hi
  · exact h2 c (List.mem_filter.mpr ⟨hc, hi⟩)
  · simpa [hi] using h
set_option maxRecDepth 65536 in
theorem w_c0 : (Jvm.Cond.code x code maxLocals ret).before args0 about1 = true := code_word (m := ⟨1, 1⟩) (meth := k1m1) (c := k1c1) (by decide +kernel) rfl rfl rfl (by decide +kernel)
set_option maxRecDepth 65536 in
theorem w_c1 : (Jvm.Cond.code ({ cls := "com/example/agouti/agouti/store/IndexBuilder$Notes", name := "<init>", desc := "(I)V" } : Jvm.MethodName) prog_134_method_1_code (2 : Nat) (Option.none : Option Jvm.ClassFile.FieldType)).before args0 about1 = true := code_word (m := ⟨2, 0⟩) (meth := k2m0) (c := k2c0) (by decide +kernel) rfl rfl rfl (by decide +kernel)
set_option maxRecDepth 65536 in
theorem w_c2 : (Jvm.Cond.code ({ cls := "java/lang/Object", name := "<init>", desc := "()V" } : Jvm.MethodName) object_method_1_code (1 : Nat) (Option.none : Option Jvm.ClassFile.FieldType)).before args0 about1 = true := code_word (m := ⟨0, 0⟩) (meth := k0m0) (c := k0c0) (by decide +kernel) rfl rfl rfl (by decide +kernel)
set_option maxRecDepth 65536 in
theorem w_c3 : (Jvm.Cond.code ({ cls := "com/example/agouti/agouti/store/IndexBuilder$Notes", name := "add", desc := "(BI[BJ)Z" } : Jvm.MethodName) prog_134_method_2_code (6 : Nat) (Option.some Jvm.ClassFile.FieldType.boolean)).before args0 about1 = true := code_word (m := ⟨2, 1⟩) (meth := k2m1) (c := k2c1) (by decide +kernel) rfl rfl rfl (by decide +kernel)
set_option maxRecDepth 65536 in
theorem w_c4 : (Jvm.Cond.code ({ cls := "com/example/agouti/agouti/store/IndexBuilder$Notes", name := "count", desc := "()I" } : Jvm.MethodName) prog_134_method_3_code (1 : Nat) (Option.some Jvm.ClassFile.FieldType.int)).before args0 about1 = true := code_word (m := ⟨2, 2⟩) (meth := k2m2) (c := k2c2) (by decide +kernel) rfl rfl rfl (by decide +kernel)
set_option maxRecDepth 65536 in
theorem w_c5 : (Jvm.Cond.code ({ cls := "com/example/agouti/agouti/store/IndexBuilder$Notes", name := "kind", desc := "(I)B" } : Jvm.MethodName) prog_134_method_4_code (2 : Nat) (Option.some Jvm.ClassFile.FieldType.byte)).before args0 about1 = true := code_word (m := ⟨2, 3⟩) (meth := k2m3) (c := k2c3) (by decide +kernel) rfl rfl rfl (by decide +kernel)
set_option maxRecDepth 65536 in
theorem w_c6 : (Jvm.Cond.code ({ cls := "com/example/agouti/agouti/store/IndexBuilder$Notes", name := "node", desc := "(I)I" } : Jvm.MethodName) prog_134_method_5_code (2 : Nat) (Option.some Jvm.ClassFile.FieldType.int)).before args0 about1 = true := code_word (m := ⟨2, 4⟩) (meth := k2m4) (c := k2c4) (by decide +kernel) rfl rfl rfl (by decide +kernel)
set_option maxRecDepth 65536 in
theorem w_c7 : (Jvm.Cond.code ({ cls := "com/example/agouti/agouti/store/IndexBuilder$Notes", name := "value", desc := "(I)[B" } : Jvm.MethodName) prog_134_method_6_code (2 : Nat) (Option.some (Jvm.ClassFile.FieldType.array Jvm.ClassFile.FieldType.byte))).before args0 about1 = true := code_word (m := ⟨2, 5⟩) (meth := k2m5) (c := k2c5) (by decide +kernel) rfl rfl rfl (by decide +kernel)
set_option maxRecDepth 65536 in
theorem w_c8 : (Jvm.Cond.code ({ cls := "com/example/agouti/agouti/store/IndexBuilder$Notes", name := "hash", desc := "(I)J" } : Jvm.MethodName) prog_134_method_7_code (2 : Nat) (Option.some Jvm.ClassFile.FieldType.long)).before args0 about1 = true := code_word (m := ⟨2, 6⟩) (meth := k2m6) (c := k2c6) (by decide +kernel) rfl rfl rfl (by decide +kernel)
def codes1 : List Jvm.Cond := [Jvm.Cond.code x code maxLocals ret, Jvm.Cond.code ({ cls := "com/example/agouti/agouti/store/IndexBuilder$Notes", name := "<init>", desc := "(I)V" } : Jvm.MethodName) prog_134_method_1_code (2 : Nat) (Option.none : Option Jvm.ClassFile.FieldType), Jvm.Cond.code ({ cls := "java/lang/Object", name := "<init>", desc := "()V" } : Jvm.MethodName) object_method_1_code (1 : Nat) (Option.none : Option Jvm.ClassFile.FieldType), Jvm.Cond.code ({ cls := "com/example/agouti/agouti/store/IndexBuilder$Notes", name := "add", desc := "(BI[BJ)Z" } : Jvm.MethodName) prog_134_method_2_code (6 : Nat) (Option.some Jvm.ClassFile.FieldType.boolean), Jvm.Cond.code ({ cls := "com/example/agouti/agouti/store/IndexBuilder$Notes", name := "count", desc := "()I" } : Jvm.MethodName) prog_134_method_3_code (1 : Nat) (Option.some Jvm.ClassFile.FieldType.int), Jvm.Cond.code ({ cls := "com/example/agouti/agouti/store/IndexBuilder$Notes", name := "kind", desc := "(I)B" } : Jvm.MethodName) prog_134_method_4_code (2 : Nat) (Option.some Jvm.ClassFile.FieldType.byte), Jvm.Cond.code ({ cls := "com/example/agouti/agouti/store/IndexBuilder$Notes", name := "node", desc := "(I)I" } : Jvm.MethodName) prog_134_method_5_code (2 : Nat) (Option.some Jvm.ClassFile.FieldType.int), Jvm.Cond.code ({ cls := "com/example/agouti/agouti/store/IndexBuilder$Notes", name := "value", desc := "(I)[B" } : Jvm.MethodName) prog_134_method_6_code (2 : Nat) (Option.some (Jvm.ClassFile.FieldType.array Jvm.ClassFile.FieldType.byte)), Jvm.Cond.code ({ cls := "com/example/agouti/agouti/store/IndexBuilder$Notes", name := "hash", desc := "(I)J" } : Jvm.MethodName) prog_134_method_7_code (2 : Nat) (Option.some Jvm.ClassFile.FieldType.long)]
set_option maxRecDepth 65536 in
theorem codes_eq : words1.filter isCode = codes1 := rfl
theorem w_codes : ∀ c ∈ words1.filter isCode, c.before args0 about1 = true := by
  rw [codes_eq]
  intro c hc
  simp only [codes1, List.mem_cons, List.not_mem_nil, or_false] at hc
  rcases hc with rfl | rfl | rfl | rfl | rfl | rfl | rfl | rfl | rfl
  · exact w_c0
  · exact w_c1
  · exact w_c2
  · exact w_c3
  · exact w_c4
  · exact w_c5
  · exact w_c6
  · exact w_c7
  · exact w_c8
set_option maxRecDepth 65536 in
theorem w_t1 : (words1.take 24).all (fun c => isCode c || c.before args0 about1) = true := by decide +kernel
set_option maxRecDepth 65536 in
theorem w_t2 : ((words1.drop 24).take 24).all (fun c => isCode c || c.before args0 about1) = true := by decide +kernel
set_option maxRecDepth 65536 in
theorem w_t3 : ((words1.drop 24).drop 24).all (fun c => isCode c || c.before args0 about1) = true := by decide +kernel
theorem w_tables : (allAtoms (Jvm.Cond.code x code maxLocals ret :: tables_1)).before args0 about1 = true := by
  rw [allAtoms_all]
  show words1.all (fun c => c.before args0 about1) = true
  refine all_split ?_ w_codes
  rw [← List.take_append_drop 24 words1, List.all_append, w_t1, ← List.take_append_drop 24 (words1.drop 24), List.all_append, w_t2, w_t3]
  rfl
set_option maxRecDepth 65536 in
theorem w_case : (Jvm.Cond.and given_1 narrow_1).before args0 about1 = true := by decide +kernel
theorem w_applies : (headSpec (Jvm.Cond.code x code maxLocals ret :: tables_1) room_1).applies x e0.platform about1 = true :=
  (Spec.applies_iff w_frames).mpr ⟨w_running, w_runnable, w_alone, w_named, w_hears, w_ripe, w_room, w_tables⟩
theorem atStart : AtStart classFile x code maxLocals ret World_1 tables_1 room_1 Calls_1 rest_1 Pre_1 launch0 p0 e0 about1 theMethod args0 below0 :=
  ⟨lists_1, trivial, launch0.admits_env _ _ _, launch0.least_env, fairChoices_fair.cas, fairChoices_fair.clock, w_frames, w_args, w_heap, w_applies, trivial, trivial, w_case⟩
end start1
theorem witness_1 : WitnessClaimed_1 := ⟨start1.p0, start1.e0, start1.about1, start1.theMethod, start1.args0, start1.below0, start1.atStart⟩
end Jvm.Pilot.@@N@@
