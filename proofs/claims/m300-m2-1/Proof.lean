import JvmDerived
import JvmDerived.Pilot.@@N@@Statement
import JvmDerived.Pilot.@@N@@Code
set_option linter.unusedVariables false
set_option linter.unusedSimpArgs false
@@BLOCK:NumsL.lean.txt@@
namespace Jvm.RoadKit
open Sem ClassFile Op Lib Jvm.Stand Jvm.Free Jvm.LawKit
section New
variable {p : Program} {l : Launch} {e : Env} {R : Room} {s : State} {m : MethodId} {args : Array Value} {below : List Frame} {meth : Method} {c : Code} {T : State} {locs : List Loc} {cells slots : Nat}
theorem retI (X : Stand p l e R s m args below meth c T locs cells slots) (hx : p.tables.exec = Jvm.exec) {pc : Nat} {Ls : Array Slot} {z : Int32} {rest : List Value} (hret : meth.sig.returnType = some .int) (hd : decode c.code pc = .ok (.ireturn, 1)) {fs : List Frame}
    (hl : ∀ (f : JFrame) (acts : List Action), f.method = m → f.locked = none → f.entered = [] → (doReturn e (T.setTop f) acts (some (.int z))).1 = T.setFrames fs) : Steps p.tables e below (T.setTop (mkF m pc Ls (.int z :: rest))) (T.setFrames fs) := by
  have hm' : T.vm.method? m = some meth := X.method'
  have hn : narrow .int (.int z) = .int z := rfl
  show Steps p.tables e below (T.setTop { method := m, pc := pc, locals := Ls, stack := _ :: rest, locked := none }) _
  jvm_step X.here [X.here.top, hx, hd, hm', hret, hn]
  first | (intro acts; rw [hl _ acts rfl rfl rfl]) | rw [hl _ _ rfl rfl rfl]
  exact Steps.refl _
end New
end Jvm.RoadKit
namespace Jvm.Pilot.@@N@@
open Jvm Jvm.ClassFile Sem Op Lib Jvm.Free Jvm.Stand Jvm.LawKit Jvm.RoadKit Bundle Jvm.Pilot.@@N@@.Jvm.D
theorem own_nb (y : Int32) : nar .byte (y.toInt8.toInt32) = y.toInt8.toInt32 := by
  show (y.toInt8.toInt32).toInt8.toInt32 = _
  simp
theorem own_fb (y : Int32) : fits .byte (.int (y.toInt8.toInt32)) = true := fits_nar_byte y

def own_h (xs : List Int32) (acc i : Int32) : Nat → Int32
  | 0 => acc
  | k + 1 => own_h xs (((31 : Int32) * acc) + (xs.getD i.toNatClampNeg 0)) (i + (1 : Int32)) k
theorem own_getint (xs : List Int32) (i : Nat) : (xs.map Value.int).getD i (.int 0) = .int (xs.getD i 0) := by
  simp only [List.getD_eq_getElem?_getD, List.getElem?_map]
  cases xs[i]? <;> rfl
theorem own_idx (y : Int32) : 0 ≤ ((y &&& (2147483647 : Int32)) % (6 : Int32)).toInt ∧ ((y &&& (2147483647 : Int32)) % (6 : Int32)).toInt ≤ 5 := by
  have h := Jvm.Kit.i32_mask y 2147483647 (k := 31) (by decide) (by decide)
  have q := Jvm.Kit.i32_rem_nonneg (x := y &&& (2147483647 : Int32)) (y := 6) (by rw [h]; omega)
  have e : (6 : Int32).toInt = 6 := by decide
  rw [e] at q
  omega
theorem d2_0 : decode method_3_code 0 = .ok (.aload_n 0, 1) := by decide +kernel
theorem d2_1 : decode method_3_code 1 = .ok (.iload_n 1, 1) := by decide +kernel
theorem d2_2 : decode method_3_code 2 = .ok (.baload, 1) := by decide +kernel
theorem d2_3 : decode method_3_code 3 = .ok (.istore_n 3, 1) := by decide +kernel
theorem d2_4 : decode method_3_code 4 = .ok (.aload_n 0, 1) := by decide +kernel
theorem d2_5 : decode method_3_code 5 = .ok (.iload_n 1, 1) := by decide +kernel
theorem d2_6 : decode method_3_code 6 = .ok (.iconst 1, 1) := by decide +kernel
theorem d2_7 : decode method_3_code 7 = .ok (.iadd, 1) := by decide +kernel
theorem d2_8 : decode method_3_code 8 = .ok (.baload, 1) := by decide +kernel
theorem d2_9 : decode method_3_code 9 = .ok (.istore 4, 2) := by decide +kernel
theorem d2_11 : decode method_3_code 11 = .ok (.aload_n 0, 1) := by decide +kernel
theorem d2_12 : decode method_3_code 12 = .ok (.iload_n 1, 1) := by decide +kernel
theorem d2_13 : decode method_3_code 13 = .ok (.iconst 2, 1) := by decide +kernel
theorem d2_14 : decode method_3_code 14 = .ok (.iadd, 1) := by decide +kernel
theorem d2_15 : decode method_3_code 15 = .ok (.baload, 1) := by decide +kernel
theorem d2_16 : decode method_3_code 16 = .ok (.istore 5, 2) := by decide +kernel
theorem d2_18 : decode method_3_code 18 = .ok (.aload_n 0, 1) := by decide +kernel
theorem d2_19 : decode method_3_code 19 = .ok (.iload_n 1, 1) := by decide +kernel
theorem d2_20 : decode method_3_code 20 = .ok (.iconst 3, 1) := by decide +kernel
theorem d2_21 : decode method_3_code 21 = .ok (.iadd, 1) := by decide +kernel
theorem d2_22 : decode method_3_code 22 = .ok (.baload, 1) := by decide +kernel
theorem d2_23 : decode method_3_code 23 = .ok (.istore 6, 2) := by decide +kernel
theorem d2_25 : decode method_3_code 25 = .ok (.aload_n 0, 1) := by decide +kernel
theorem d2_26 : decode method_3_code 26 = .ok (.iload_n 1, 1) := by decide +kernel
theorem d2_27 : decode method_3_code 27 = .ok (.iconst 4, 1) := by decide +kernel
theorem d2_28 : decode method_3_code 28 = .ok (.iadd, 1) := by decide +kernel
theorem d2_29 : decode method_3_code 29 = .ok (.baload, 1) := by decide +kernel
theorem d2_30 : decode method_3_code 30 = .ok (.istore 7, 2) := by decide +kernel
theorem d2_32 : decode method_3_code 32 = .ok (.iload_n 2, 1) := by decide +kernel
theorem d2_33 : decode method_3_code 33 = .ok (.ifCond .ne 5, 3) := by decide +kernel
theorem d2_36 : decode method_3_code 36 = .ok (.iconst 0, 1) := by decide +kernel
theorem d2_37 : decode method_3_code 37 = .ok (.ireturn, 1) := by decide +kernel
theorem d2_38 : decode method_3_code 38 = .ok (.iload_n 2, 1) := by decide +kernel
theorem d2_39 : decode method_3_code 39 = .ok (.iconst 1, 1) := by decide +kernel
theorem d2_40 : decode method_3_code 40 = .ok (.if_icmp .ne 5, 3) := by decide +kernel
theorem d2_43 : decode method_3_code 43 = .ok (.iload_n 3, 1) := by decide +kernel
theorem d2_44 : decode method_3_code 44 = .ok (.ireturn, 1) := by decide +kernel
theorem d2_45 : decode method_3_code 45 = .ok (.iload_n 2, 1) := by decide +kernel
theorem d2_46 : decode method_3_code 46 = .ok (.iconst 2, 1) := by decide +kernel
theorem d2_47 : decode method_3_code 47 = .ok (.if_icmp .ne 11, 3) := by decide +kernel
theorem d2_50 : decode method_3_code 50 = .ok (.bipush 31, 2) := by decide +kernel
theorem d2_52 : decode method_3_code 52 = .ok (.iload_n 3, 1) := by decide +kernel
theorem d2_53 : decode method_3_code 53 = .ok (.imul, 1) := by decide +kernel
theorem d2_54 : decode method_3_code 54 = .ok (.iload 4, 2) := by decide +kernel
theorem d2_56 : decode method_3_code 56 = .ok (.iadd, 1) := by decide +kernel
theorem d2_57 : decode method_3_code 57 = .ok (.ireturn, 1) := by decide +kernel
theorem d2_58 : decode method_3_code 58 = .ok (.iload_n 2, 1) := by decide +kernel
theorem d2_59 : decode method_3_code 59 = .ok (.iconst 3, 1) := by decide +kernel
theorem d2_60 : decode method_3_code 60 = .ok (.if_icmp .ne 18, 3) := by decide +kernel
theorem d2_63 : decode method_3_code 63 = .ok (.sipush 961, 3) := by decide +kernel
theorem d2_66 : decode method_3_code 66 = .ok (.iload_n 3, 1) := by decide +kernel
theorem d2_67 : decode method_3_code 67 = .ok (.imul, 1) := by decide +kernel
theorem d2_68 : decode method_3_code 68 = .ok (.bipush 31, 2) := by decide +kernel
theorem d2_70 : decode method_3_code 70 = .ok (.iload 4, 2) := by decide +kernel
theorem d2_72 : decode method_3_code 72 = .ok (.imul, 1) := by decide +kernel
theorem d2_73 : decode method_3_code 73 = .ok (.iadd, 1) := by decide +kernel
theorem d2_74 : decode method_3_code 74 = .ok (.iload 5, 2) := by decide +kernel
theorem d2_76 : decode method_3_code 76 = .ok (.iadd, 1) := by decide +kernel
theorem d2_77 : decode method_3_code 77 = .ok (.ireturn, 1) := by decide +kernel
theorem d2_78 : decode method_3_code 78 = .ok (.iload_n 2, 1) := by decide +kernel
theorem d2_79 : decode method_3_code 79 = .ok (.iconst 4, 1) := by decide +kernel
theorem d2_80 : decode method_3_code 80 = .ok (.if_icmp .ne 25, 3) := by decide +kernel
theorem d2_83 : decode method_3_code 83 = .ok (.sipush 29791, 3) := by decide +kernel
theorem d2_86 : decode method_3_code 86 = .ok (.iload_n 3, 1) := by decide +kernel
theorem d2_87 : decode method_3_code 87 = .ok (.imul, 1) := by decide +kernel
theorem d2_88 : decode method_3_code 88 = .ok (.sipush 961, 3) := by decide +kernel
theorem d2_91 : decode method_3_code 91 = .ok (.iload 4, 2) := by decide +kernel
theorem d2_93 : decode method_3_code 93 = .ok (.imul, 1) := by decide +kernel
theorem d2_94 : decode method_3_code 94 = .ok (.iadd, 1) := by decide +kernel
theorem d2_95 : decode method_3_code 95 = .ok (.bipush 31, 2) := by decide +kernel
theorem d2_97 : decode method_3_code 97 = .ok (.iload 5, 2) := by decide +kernel
theorem d2_99 : decode method_3_code 99 = .ok (.imul, 1) := by decide +kernel
theorem d2_100 : decode method_3_code 100 = .ok (.iadd, 1) := by decide +kernel
theorem d2_101 : decode method_3_code 101 = .ok (.iload 6, 2) := by decide +kernel
theorem d2_103 : decode method_3_code 103 = .ok (.iadd, 1) := by decide +kernel
theorem d2_104 : decode method_3_code 104 = .ok (.ireturn, 1) := by decide +kernel
theorem d2_105 : decode method_3_code 105 = .ok (.ldc 19, 2) := by decide +kernel
theorem d2_107 : decode method_3_code 107 = .ok (.iload_n 3, 1) := by decide +kernel
theorem d2_108 : decode method_3_code 108 = .ok (.imul, 1) := by decide +kernel
theorem d2_109 : decode method_3_code 109 = .ok (.sipush 29791, 3) := by decide +kernel
theorem d2_112 : decode method_3_code 112 = .ok (.iload 4, 2) := by decide +kernel
theorem d2_114 : decode method_3_code 114 = .ok (.imul, 1) := by decide +kernel
theorem d2_115 : decode method_3_code 115 = .ok (.iadd, 1) := by decide +kernel
theorem d2_116 : decode method_3_code 116 = .ok (.sipush 961, 3) := by decide +kernel
theorem d2_119 : decode method_3_code 119 = .ok (.iload 5, 2) := by decide +kernel
theorem d2_121 : decode method_3_code 121 = .ok (.imul, 1) := by decide +kernel
theorem d2_122 : decode method_3_code 122 = .ok (.iadd, 1) := by decide +kernel
theorem d2_123 : decode method_3_code 123 = .ok (.bipush 31, 2) := by decide +kernel
theorem d2_125 : decode method_3_code 125 = .ok (.iload 6, 2) := by decide +kernel
theorem d2_127 : decode method_3_code 127 = .ok (.imul, 1) := by decide +kernel
theorem d2_128 : decode method_3_code 128 = .ok (.iadd, 1) := by decide +kernel
theorem d2_129 : decode method_3_code 129 = .ok (.iload 7, 2) := by decide +kernel
theorem d2_131 : decode method_3_code 131 = .ok (.iadd, 1) := by decide +kernel
theorem d2_132 : decode method_3_code 132 = .ok (.ireturn, 1) := by decide +kernel
theorem d1_0 : decode prog_26_method_9_code 0 = .ok (.iconst 0, 1) := by decide +kernel
theorem d1_1 : decode prog_26_method_9_code 1 = .ok (.istore_n 3, 1) := by decide +kernel
theorem d1_2 : decode prog_26_method_9_code 2 = .ok (.iload_n 1, 1) := by decide +kernel
theorem d1_3 : decode prog_26_method_9_code 3 = .ok (.istore 4, 2) := by decide +kernel
theorem d1_5 : decode prog_26_method_9_code 5 = .ok (.iload 4, 2) := by decide +kernel
theorem d1_7 : decode prog_26_method_9_code 7 = .ok (.iload_n 2, 1) := by decide +kernel
theorem d1_8 : decode prog_26_method_9_code 8 = .ok (.if_icmp .ge 19, 3) := by decide +kernel
theorem d1_11 : decode prog_26_method_9_code 11 = .ok (.bipush 31, 2) := by decide +kernel
theorem d1_13 : decode prog_26_method_9_code 13 = .ok (.iload_n 3, 1) := by decide +kernel
theorem d1_14 : decode prog_26_method_9_code 14 = .ok (.imul, 1) := by decide +kernel
theorem d1_15 : decode prog_26_method_9_code 15 = .ok (.aload_n 0, 1) := by decide +kernel
theorem d1_16 : decode prog_26_method_9_code 16 = .ok (.iload 4, 2) := by decide +kernel
theorem d1_18 : decode prog_26_method_9_code 18 = .ok (.baload, 1) := by decide +kernel
theorem d1_19 : decode prog_26_method_9_code 19 = .ok (.iadd, 1) := by decide +kernel
theorem d1_20 : decode prog_26_method_9_code 20 = .ok (.istore_n 3, 1) := by decide +kernel
theorem d1_21 : decode prog_26_method_9_code 21 = .ok (.iinc 4 1, 3) := by decide +kernel
theorem d1_24 : decode prog_26_method_9_code 24 = .ok (.goto (-19), 3) := by decide +kernel
theorem d1_27 : decode prog_26_method_9_code 27 = .ok (.iload_n 3, 1) := by decide +kernel
theorem d1_28 : decode prog_26_method_9_code 28 = .ok (.ireturn, 1) := by decide +kernel
theorem pn_0 : plainName "com/example/rivanna/rivanna/core/json/MemberNames$Table" = true := by first | (simp [plainName, overriddenIn]; done) | decide +kernel
def Q1 (Z : State) (a0_ : Addr) (u1 : Int32) (u2 : Int32) (kk : ClassId) (xs : List Int32) (kN : Nat) (h0 : Heap) (n0 : Nat) (v : Option Value) (h : Heap) (L : List Loc) : Prop := v = some (.int (own_h xs (0 : Int32) u1 kN)) ∧ Fr n0 L ∧ h = h0
theorem ef_rm1 (m : MethodId) (a0_ : Addr) (u1 : Int32) (u2 : Int32) : entryFrame m #[(.ref a0_), (.int u1), (.int u2)] 5 = mkF m 0 #[rv a0_, iv u1, iv u2, .unset, .unset] [] := by first | (simp [entryFrame, mkF, argsToLocals, Value.category]; done) | rfl
set_option maxRecDepth 65536 in
set_option maxHeartbeats 40000000 in
theorem rm1 (l : Launch) (Z : State) (a0 : Array Value) (hw : ∀ d ∈ tables_1, d.before a0 Z = true) (ws : List Jvm.Cond) (a0_ : Addr) (u1 : Int32) (u2 : Int32) (kk : ClassId) (xs : List Int32) (kN : Nat) (h0 : Heap) (n0 : Nat) (Z0 : n0 ≤ h0.size) (V0 : Arv Z h0 a0_ kk .byte (10 : Int32) (xs.map Value.int) (.int (0 : Int32))) (hf0 : 0 ≤ u1.toInt) (hf1 : u1.toInt + kN = u2.toInt) (hf2 : u2.toInt ≤ 10) :
    MetFree l (⟨"com/example/rivanna/rivanna/core/json/MemberNames$Table", "hashOfBytes", "([BII)I"⟩ : MethodName) (head1 (Jvm.Cond.code (⟨"com/example/rivanna/rivanna/core/json/MemberNames$Table", "hashOfBytes", "([BII)I"⟩ : MethodName) prog_26_method_9_code 5 (some .int) :: ws) ({ frames := 0, cells := 0, slots := 0, locals := 0 } : Room)) (fun a U => a = #[(.ref a0_), (.int u1), (.int u2)] ∧ Z.Warmed39 U.vm ∧ U.heap = h0) (fun _ _ _ _ _ => True) (fun _ U o U' => ∃ v L, o = .returned v ∧ Q1 Z a0_ u1 u2 kk xs kN h0 n0 v U'.heap L ∧ FrameEnd U o U' L ({ frames := 0, cells := 0, slots := 0, locals := 0 } : Room).cells ({ frames := 0, cells := 0, slots := 0, locals := 0 } : Room).slots) := by
  refine MetFree.of_bodySF (plainFor_of_name pn_0) hisR ?_
  intro p e s m args below meth c s₁ Bd hml0 hP hK
  obtain ⟨rfl, hZ, hh⟩ := hP
  have hx := Bd.exec
  have hby := Bd.bytes
  have hml : c.maxLocals = 5 := hml0
  have hown : s.vm.findClass "com/example/rivanna/rivanna/core/json/MemberNames$Table" = some m.cls := findClass_of_methodNamed Bd.named
  have hnm := (name_of_methodNamed Bd.named Bd.method).1
  have X0 : Stand p l e ({ frames := 0, cells := 0, slots := 0, locals := 0 } : Room) s m #[(.ref a0_), (.int u1), (.int u2)] below meth c s₁ [] 0 0 := Stand.of_body Bd
  have e0 : s₁.heap = h0 := by rw [← hh, Bd.state]; rfl
  have N0 := Fr.nil n0
  have S0 : ∀ t, Steps p.tables e below (s₁.setTop (mkF m 0 #[rv a0_, iv u1, iv u2, .unset, .unset] [])) t → Steps p.tables e below (s₁.setTop (entryFrame m #[(.ref a0_), (.int u1), (.int u2)] 5)) t := fun t k => castTop (ef_rm1 m a0_ u1 u2) k
  have S1 : ∀ t, Steps p.tables e below (s₁.setTop (mkF m 5 #[rv a0_, iv u1, iv u2, iv (0 : Int32), iv u1] [])) t → Steps p.tables e below (s₁.setTop (entryFrame m #[(.ref a0_), (.int u1), (.int u2)] 5)) t := by
    intro t k
    refine S0 t ?_
    show Steps p.tables e below (s₁.setTop (mkF m 0 #[rv a0_, iv u1, iv u2, .unset, .unset] [])) _
    refine XS.iconst X0.here hx rfl (hb hby d1_0) ?_
    show Steps p.tables e below (s₁.setTop (mkF m 1 #[rv a0_, iv u1, iv u2, .unset, .unset] [(.int (0 : Int32))])) _
    refine XS.istoreN X0.here hx rfl (hb hby d1_1) rfl (l' := #[rv a0_, iv u1, iv u2, iv (0 : Int32), .unset]) rfl ?_
    show Steps p.tables e below (s₁.setTop (mkF m 2 #[rv a0_, iv u1, iv u2, iv (0 : Int32), .unset] [])) _
    refine XS.iloadN X0.here hx rfl (hb hby d1_2) rfl ?_
    show Steps p.tables e below (s₁.setTop (mkF m 3 #[rv a0_, iv u1, iv u2, iv (0 : Int32), .unset] [(.int u1)])) _
    refine XS.istore X0.here hx rfl (hb hby d1_3) rfl (l' := #[rv a0_, iv u1, iv u2, iv (0 : Int32), iv u1]) rfl ?_
    exact k
  have loop : ∀ (k : Nat) (acc i_ : Int32), 0 ≤ i_.toInt → i_.toInt + k = u2.toInt → ∀ t, Steps p.tables e below (s₁.setTop (mkF m 27 #[rv a0_, iv u1, iv u2, iv (own_h xs acc i_ k), iv u2] [])) t → Steps p.tables e below (s₁.setTop (mkF m 5 #[rv a0_, iv u1, iv u2, iv acc, iv i_] [])) t := by
    intro k
    induction k with
    | zero =>
      intro acc i_ q0 q1 t kk
      have hi : i_ = u2 := Int32.toInt_inj.mp (by omega)
      rw [hi]
      show Steps p.tables e below (s₁.setTop (mkF m 5 #[rv a0_, iv u1, iv u2, iv acc, iv u2] [])) _
      refine XS.iload X0.here hx rfl (hb hby d1_5) rfl ?_
      show Steps p.tables e below (s₁.setTop (mkF m 7 #[rv a0_, iv u1, iv u2, iv acc, iv u2] [(.int u2)])) _
      refine XS.iloadN X0.here hx rfl (hb hby d1_7) rfl ?_
      show Steps p.tables e below (s₁.setTop (mkF m 8 #[rv a0_, iv u1, iv u2, iv acc, iv u2] [(.int u2), (.int u2)])) _
      refine XS.icmpYes X0.here hx rfl (pc0 := 8) (pc' := 27) rfl (hb hby d1_8) rfl (flt (by simp)).2.1 (by decide) (by decide) ?_
      exact kk
    | succ k ih =>
      intro acc i_ q0 q1 t kk
      have hlt : i_ < u2 := Int32.lt_iff_toInt_lt.mpr (by omega)
      have hs : (i_ + (1 : Int32)).toInt = i_.toInt + 1 := Jvm.Kit.i32_add (by simp only [Int32.reduceToInt]; omega) (by simp only [Int32.reduceToInt]; omega)
      obtain ⟨cl2, Ar2, qa2, Sa2, Na2, Ha2, Ga2⟩ := id V0
      have hin2 : ¬ (i_ < 0 ∨ cl2.slots.size ≤ (i_).toNatClampNeg) := inb_of Sa2 ⟨by rw [Int32.lt_iff_toInt_lt]; simp only [Int32.reduceToInt]; omega, by rw [Int32.lt_iff_toInt_lt]; simp only [Int32.reduceToInt]; omega⟩
      show Steps p.tables e below (s₁.setTop (mkF m 5 #[rv a0_, iv u1, iv u2, iv acc, iv i_] [])) _
      refine XS.iload X0.here hx rfl (hb hby d1_5) rfl ?_
      show Steps p.tables e below (s₁.setTop (mkF m 7 #[rv a0_, iv u1, iv u2, iv acc, iv i_] [(.int i_)])) _
      refine XS.iloadN X0.here hx rfl (hb hby d1_7) rfl ?_
      show Steps p.tables e below (s₁.setTop (mkF m 8 #[rv a0_, iv u1, iv u2, iv acc, iv i_] [(.int u2), (.int i_)])) _
      refine XS.icmpNo X0.here hx rfl (hb hby d1_8) rfl (tlt hlt).2.1 ?_
      show Steps p.tables e below (s₁.setTop (mkF m 11 #[rv a0_, iv u1, iv u2, iv acc, iv i_] [])) _
      refine XS.bipush X0.here hx rfl (hb hby d1_11) ?_
      show Steps p.tables e below (s₁.setTop (mkF m 13 #[rv a0_, iv u1, iv u2, iv acc, iv i_] [(.int (31 : Int32))])) _
      refine XS.iloadN X0.here hx rfl (hb hby d1_13) rfl ?_
      show Steps p.tables e below (s₁.setTop (mkF m 14 #[rv a0_, iv u1, iv u2, iv acc, iv i_] [(.int acc), (.int (31 : Int32))])) _
      refine XS.imul X0.here hx rfl (hb hby d1_14) rfl ?_
      show Steps p.tables e below (s₁.setTop (mkF m 15 #[rv a0_, iv u1, iv u2, iv acc, iv i_] [(.int ((31 : Int32) * acc))])) _
      refine XS.aloadN X0.here hx rfl (hb hby d1_15) rfl rfl ?_
      show Steps p.tables e below (s₁.setTop (mkF m 16 #[rv a0_, iv u1, iv u2, iv acc, iv i_] [(.ref a0_), (.int ((31 : Int32) * acc))])) _
      refine XS.iload X0.here hx rfl (hb hby d1_16) rfl ?_
      show Steps p.tables e below (s₁.setTop (mkF m 18 #[rv a0_, iv u1, iv u2, iv acc, iv i_] [(.int i_), (.ref a0_), (.int ((31 : Int32) * acc))])) _
      refine X0.baloadBytes hx (j := i_) (v := (.int (xs.getD (i_).toNatClampNeg 0))) (by rw [e0]; exact Ar2.1) (State.isArrayOf_alike hZ.alike Ar2.2.1) Ar2.2.2 hin2 (Has.at Ha2 hin2 (own_getint xs _)) (g := (mkF m 18 #[rv a0_, iv u1, iv u2, iv acc, iv i_] [(.int i_), (.ref a0_), (.int ((31 : Int32) * acc))])) rfl rfl (hb hby d1_18) _ ?_
      show Steps p.tables e below (s₁.setTop (mkF m 19 #[rv a0_, iv u1, iv u2, iv acc, iv i_] [(.int (xs.getD (i_).toNatClampNeg 0)), (.int ((31 : Int32) * acc))])) _
      refine XS.iadd X0.here hx rfl (hb hby d1_19) rfl ?_
      show Steps p.tables e below (s₁.setTop (mkF m 20 #[rv a0_, iv u1, iv u2, iv acc, iv i_] [(.int (((31 : Int32) * acc) + (xs.getD (i_).toNatClampNeg 0)))])) _
      refine XS.istoreN X0.here hx rfl (hb hby d1_20) rfl (l' := #[rv a0_, iv u1, iv u2, iv (((31 : Int32) * acc) + (xs.getD (i_).toNatClampNeg 0)), iv i_]) rfl ?_
      show Steps p.tables e below (s₁.setTop (mkF m 21 #[rv a0_, iv u1, iv u2, iv (((31 : Int32) * acc) + (xs.getD (i_).toNatClampNeg 0)), iv i_] [])) _
      refine XS.iinc X0.here hx rfl (hb hby d1_21) rfl (l' := #[rv a0_, iv u1, iv u2, iv (((31 : Int32) * acc) + (xs.getD (i_).toNatClampNeg 0)), iv (i_ + (1 : Int32))]) rfl ?_
      show Steps p.tables e below (s₁.setTop (mkF m 24 #[rv a0_, iv u1, iv u2, iv (((31 : Int32) * acc) + (xs.getD (i_).toNatClampNeg 0)), iv (i_ + (1 : Int32))] [])) _
      refine XS.goto X0.here hx rfl (pc0 := 24) (pc' := 5) rfl (hb hby d1_24) (by decide) (by decide) ?_
      exact ih _ _ (by omega) (by omega) t kk
  have S3 : ∀ t, Steps p.tables e below (s₁.setTop (mkF m 27 #[rv a0_, iv u1, iv u2, iv (own_h xs (0 : Int32) u1 kN), iv u2] [])) t → Steps p.tables e below (s₁.setTop (entryFrame m #[(.ref a0_), (.int u1), (.int u2)] 5)) t := fun t k => S1 t (loop kN (0 : Int32) u1 hf0 hf1 t k)
  obtain ⟨fs, hr, hrun, hended, hW, hsame⟩ := X0.leave (v := some (.int (own_h xs (0 : Int32) u1 kN))) (fun h => by rw [Bd.returns] at h; cases h)
  refine ⟨_, _, S3 _ ?_, hrun, hended, _, _, rfl, ?_, ⟨_, rfl⟩, hW, hsame.mono (by decide) (by decide)⟩
  · skip
    show Steps p.tables e below (s₁.setTop (mkF m 27 #[rv a0_, iv u1, iv u2, iv (own_h xs (0 : Int32) u1 kN), iv u2] [])) _
    refine XS.iloadN X0.here hx rfl (hb hby d1_27) rfl ?_
    show Steps p.tables e below (s₁.setTop (mkF m 28 #[rv a0_, iv u1, iv u2, iv (own_h xs (0 : Int32) u1 kN), iv u2] [(.int (own_h xs (0 : Int32) u1 kN))])) _
    exact retI X0 hx Bd.returns (hb hby d1_28) hr
  · show Q1 Z a0_ u1 u2 kk xs kN h0 n0 _ s₁.heap _
    rw [e0]
    exact ⟨rfl, N0, rfl⟩
def own_e (y0 y1 y2 y3 y4 u2 : Int32) : Int32 := if u2 = (0 : Int32) then (0 : Int32) else (if u2 = (1 : Int32) then y0 else (if u2 = (2 : Int32) then (((31 : Int32) * y0) + y1) else (if u2 = (3 : Int32) then ((((961 : Int32) * y0) + ((31 : Int32) * y1)) + y2) else (if u2 = (4 : Int32) then (((((29791 : Int32) * y0) + ((961 : Int32) * y1)) + ((31 : Int32) * y2)) + y3) else ((((((923521 : Int32) * y0) + ((29791 : Int32) * y1)) + ((961 : Int32) * y2)) + ((31 : Int32) * y3)) + y4)))))
theorem pn_1 : plainName "com/example/rivanna/rivanna/core/json/TableHashOfBytesPinLaw" = true := by first | (simp [plainName, overriddenIn]; done) | decide +kernel
def Q2 (Z : State) (a0_ : Addr) (u1 : Int32) (u2 : Int32) (kk : ClassId) (xs : List Int32) (h0 : Heap) (n0 : Nat) (v : Option Value) (h : Heap) (L : List Loc) : Prop := v = some (.int (own_e (xs.getD (u1).toNatClampNeg 0) (xs.getD ((u1 + (1 : Int32))).toNatClampNeg 0) (xs.getD ((u1 + (2 : Int32))).toNatClampNeg 0) (xs.getD ((u1 + (3 : Int32))).toNatClampNeg 0) (xs.getD ((u1 + (4 : Int32))).toNatClampNeg 0) u2)) ∧ Fr n0 L ∧ h = h0
theorem ef_rm2 (m : MethodId) (a0_ : Addr) (u1 : Int32) (u2 : Int32) : entryFrame m #[(.ref a0_), (.int u1), (.int u2)] 8 = mkF m 0 #[rv a0_, iv u1, iv u2, .unset, .unset, .unset, .unset, .unset] [] := by first | (simp [entryFrame, mkF, argsToLocals, Value.category]; done) | rfl
set_option maxRecDepth 65536 in
set_option maxHeartbeats 40000000 in
theorem rm2 (l : Launch) (Z : State) (a0 : Array Value) (hw : ∀ d ∈ tables_1, d.before a0 Z = true) (ws : List Jvm.Cond) (a0_ : Addr) (u1 : Int32) (u2 : Int32) (kk : ClassId) (xs : List Int32) (h0 : Heap) (n0 : Nat) (Z0 : n0 ≤ h0.size) (V0 : Arv Z h0 a0_ kk .byte (10 : Int32) (xs.map Value.int) (.int (0 : Int32))) (hf0 : 0 ≤ u1.toInt) (hf1 : u1.toInt ≤ 5) :
    MetFree l (⟨"com/example/rivanna/rivanna/core/json/TableHashOfBytesPinLaw", "expected", "([BII)I"⟩ : MethodName) (head1 (Jvm.Cond.code (⟨"com/example/rivanna/rivanna/core/json/TableHashOfBytesPinLaw", "expected", "([BII)I"⟩ : MethodName) method_3_code 8 (some .int) :: ws) ({ frames := 0, cells := 0, slots := 0, locals := 0 } : Room)) (fun a U => a = #[(.ref a0_), (.int u1), (.int u2)] ∧ Z.Warmed39 U.vm ∧ U.heap = h0) (fun _ _ _ _ _ => True) (fun _ U o U' => ∃ v L, o = .returned v ∧ Q2 Z a0_ u1 u2 kk xs h0 n0 v U'.heap L ∧ FrameEnd U o U' L ({ frames := 0, cells := 0, slots := 0, locals := 0 } : Room).cells ({ frames := 0, cells := 0, slots := 0, locals := 0 } : Room).slots) := by
  refine MetFree.of_bodySF (plainFor_of_name pn_1) hisR ?_
  intro p e s m args below meth c s₁ Bd hml0 hP hK
  obtain ⟨rfl, hZ, hh⟩ := hP
  have hx := Bd.exec
  have hby := Bd.bytes
  have hml : c.maxLocals = 8 := hml0
  have hown : s.vm.findClass "com/example/rivanna/rivanna/core/json/TableHashOfBytesPinLaw" = some m.cls := findClass_of_methodNamed Bd.named
  have hnm := (name_of_methodNamed Bd.named Bd.method).1
  have X0 : Stand p l e ({ frames := 0, cells := 0, slots := 0, locals := 0 } : Room) s m #[(.ref a0_), (.int u1), (.int u2)] below meth c s₁ [] 0 0 := Stand.of_body Bd
  have e0 : s₁.heap = h0 := by rw [← hh, Bd.state]; rfl
  have N0 := Fr.nil n0
  have S0 : ∀ t, Steps p.tables e below (s₁.setTop (mkF m 0 #[rv a0_, iv u1, iv u2, .unset, .unset, .unset, .unset, .unset] [])) t → Steps p.tables e below (s₁.setTop (entryFrame m #[(.ref a0_), (.int u1), (.int u2)] 8)) t := fun t k => castTop (ef_rm2 m a0_ u1 u2) k
  obtain ⟨cl1, Ar1, qa1, Sa1, Na1, Ha1, Ga1⟩ := id V0
  have hin1 : ¬ (u1 < 0 ∨ cl1.slots.size ≤ (u1).toNatClampNeg) := inb_of Sa1 ⟨by rw [Int32.lt_iff_toInt_lt]; simp only [Int32.reduceToInt]; omega, by rw [Int32.lt_iff_toInt_lt]; simp only [Int32.reduceToInt]; omega⟩
  obtain ⟨y0, ey0⟩ : ∃ z : Int32, z = (xs.getD (u1).toNatClampNeg 0) := ⟨_, rfl⟩
  obtain ⟨cl2, Ar2, qa2, Sa2, Na2, Ha2, Ga2⟩ := id V0
  have hj1 : ((u1 + (1 : Int32))).toInt = u1.toInt + 1 := Jvm.Kit.i32_add (by simp only [Int32.reduceToInt]; omega) (by simp only [Int32.reduceToInt]; omega)
  have hin2 : ¬ ((u1 + (1 : Int32)) < 0 ∨ cl2.slots.size ≤ ((u1 + (1 : Int32))).toNatClampNeg) := inb_of Sa2 ⟨by rw [Int32.lt_iff_toInt_lt]; simp only [Int32.reduceToInt]; omega, by rw [Int32.lt_iff_toInt_lt]; simp only [Int32.reduceToInt]; omega⟩
  obtain ⟨y1, ey1⟩ : ∃ z : Int32, z = (xs.getD ((u1 + (1 : Int32))).toNatClampNeg 0) := ⟨_, rfl⟩
  obtain ⟨cl3, Ar3, qa3, Sa3, Na3, Ha3, Ga3⟩ := id V0
  have hj2 : ((u1 + (2 : Int32))).toInt = u1.toInt + 2 := Jvm.Kit.i32_add (by simp only [Int32.reduceToInt]; omega) (by simp only [Int32.reduceToInt]; omega)
  have hin3 : ¬ ((u1 + (2 : Int32)) < 0 ∨ cl3.slots.size ≤ ((u1 + (2 : Int32))).toNatClampNeg) := inb_of Sa3 ⟨by rw [Int32.lt_iff_toInt_lt]; simp only [Int32.reduceToInt]; omega, by rw [Int32.lt_iff_toInt_lt]; simp only [Int32.reduceToInt]; omega⟩
  obtain ⟨y2, ey2⟩ : ∃ z : Int32, z = (xs.getD ((u1 + (2 : Int32))).toNatClampNeg 0) := ⟨_, rfl⟩
  obtain ⟨cl4, Ar4, qa4, Sa4, Na4, Ha4, Ga4⟩ := id V0
  have hj3 : ((u1 + (3 : Int32))).toInt = u1.toInt + 3 := Jvm.Kit.i32_add (by simp only [Int32.reduceToInt]; omega) (by simp only [Int32.reduceToInt]; omega)
  have hin4 : ¬ ((u1 + (3 : Int32)) < 0 ∨ cl4.slots.size ≤ ((u1 + (3 : Int32))).toNatClampNeg) := inb_of Sa4 ⟨by rw [Int32.lt_iff_toInt_lt]; simp only [Int32.reduceToInt]; omega, by rw [Int32.lt_iff_toInt_lt]; simp only [Int32.reduceToInt]; omega⟩
  obtain ⟨y3, ey3⟩ : ∃ z : Int32, z = (xs.getD ((u1 + (3 : Int32))).toNatClampNeg 0) := ⟨_, rfl⟩
  obtain ⟨cl5, Ar5, qa5, Sa5, Na5, Ha5, Ga5⟩ := id V0
  have hj4 : ((u1 + (4 : Int32))).toInt = u1.toInt + 4 := Jvm.Kit.i32_add (by simp only [Int32.reduceToInt]; omega) (by simp only [Int32.reduceToInt]; omega)
  have hin5 : ¬ ((u1 + (4 : Int32)) < 0 ∨ cl5.slots.size ≤ ((u1 + (4 : Int32))).toNatClampNeg) := inb_of Sa5 ⟨by rw [Int32.lt_iff_toInt_lt]; simp only [Int32.reduceToInt]; omega, by rw [Int32.lt_iff_toInt_lt]; simp only [Int32.reduceToInt]; omega⟩
  obtain ⟨y4, ey4⟩ : ∃ z : Int32, z = (xs.getD ((u1 + (4 : Int32))).toNatClampNeg 0) := ⟨_, rfl⟩
  have S6 : ∀ t, Steps p.tables e below (s₁.setTop (mkF m 33 #[rv a0_, iv u1, iv u2, iv y0, iv y1, iv y2, iv y3, iv y4] [(.int u2)])) t → Steps p.tables e below (s₁.setTop (entryFrame m #[(.ref a0_), (.int u1), (.int u2)] 8)) t := by
    intro t k
    refine S0 t ?_
    show Steps p.tables e below (s₁.setTop (mkF m 0 #[rv a0_, iv u1, iv u2, .unset, .unset, .unset, .unset, .unset] [])) _
    refine XS.aloadN X0.here hx rfl (hb hby d2_0) rfl rfl ?_
    show Steps p.tables e below (s₁.setTop (mkF m 1 #[rv a0_, iv u1, iv u2, .unset, .unset, .unset, .unset, .unset] [(.ref a0_)])) _
    refine XS.iloadN X0.here hx rfl (hb hby d2_1) rfl ?_
    show Steps p.tables e below (s₁.setTop (mkF m 2 #[rv a0_, iv u1, iv u2, .unset, .unset, .unset, .unset, .unset] [(.int u1), (.ref a0_)])) _
    refine X0.baloadBytes hx (j := u1) (v := (.int y0)) (by rw [e0]; exact Ar1.1) (State.isArrayOf_alike hZ.alike Ar1.2.1) Ar1.2.2 hin1 (Has.at Ha1 hin1 ((own_getint xs _).trans (congrArg Value.int ey0.symm))) (g := (mkF m 2 #[rv a0_, iv u1, iv u2, .unset, .unset, .unset, .unset, .unset] [(.int u1), (.ref a0_)])) rfl rfl (hb hby d2_2) _ ?_
    show Steps p.tables e below (s₁.setTop (mkF m 3 #[rv a0_, iv u1, iv u2, .unset, .unset, .unset, .unset, .unset] [(.int y0)])) _
    refine XS.istoreN X0.here hx rfl (hb hby d2_3) rfl (l' := #[rv a0_, iv u1, iv u2, iv y0, .unset, .unset, .unset, .unset]) rfl ?_
    show Steps p.tables e below (s₁.setTop (mkF m 4 #[rv a0_, iv u1, iv u2, iv y0, .unset, .unset, .unset, .unset] [])) _
    refine XS.aloadN X0.here hx rfl (hb hby d2_4) rfl rfl ?_
    show Steps p.tables e below (s₁.setTop (mkF m 5 #[rv a0_, iv u1, iv u2, iv y0, .unset, .unset, .unset, .unset] [(.ref a0_)])) _
    refine XS.iloadN X0.here hx rfl (hb hby d2_5) rfl ?_
    show Steps p.tables e below (s₁.setTop (mkF m 6 #[rv a0_, iv u1, iv u2, iv y0, .unset, .unset, .unset, .unset] [(.int u1), (.ref a0_)])) _
    refine XS.iconst X0.here hx rfl (hb hby d2_6) ?_
    show Steps p.tables e below (s₁.setTop (mkF m 7 #[rv a0_, iv u1, iv u2, iv y0, .unset, .unset, .unset, .unset] [(.int (1 : Int32)), (.int u1), (.ref a0_)])) _
    refine XS.iadd X0.here hx rfl (hb hby d2_7) rfl ?_
    show Steps p.tables e below (s₁.setTop (mkF m 8 #[rv a0_, iv u1, iv u2, iv y0, .unset, .unset, .unset, .unset] [(.int (u1 + (1 : Int32))), (.ref a0_)])) _
    refine X0.baloadBytes hx (j := (u1 + (1 : Int32))) (v := (.int y1)) (by rw [e0]; exact Ar2.1) (State.isArrayOf_alike hZ.alike Ar2.2.1) Ar2.2.2 hin2 (Has.at Ha2 hin2 ((own_getint xs _).trans (congrArg Value.int ey1.symm))) (g := (mkF m 8 #[rv a0_, iv u1, iv u2, iv y0, .unset, .unset, .unset, .unset] [(.int (u1 + (1 : Int32))), (.ref a0_)])) rfl rfl (hb hby d2_8) _ ?_
    show Steps p.tables e below (s₁.setTop (mkF m 9 #[rv a0_, iv u1, iv u2, iv y0, .unset, .unset, .unset, .unset] [(.int y1)])) _
    refine XS.istore X0.here hx rfl (hb hby d2_9) rfl (l' := #[rv a0_, iv u1, iv u2, iv y0, iv y1, .unset, .unset, .unset]) rfl ?_
    show Steps p.tables e below (s₁.setTop (mkF m 11 #[rv a0_, iv u1, iv u2, iv y0, iv y1, .unset, .unset, .unset] [])) _
    refine XS.aloadN X0.here hx rfl (hb hby d2_11) rfl rfl ?_
    show Steps p.tables e below (s₁.setTop (mkF m 12 #[rv a0_, iv u1, iv u2, iv y0, iv y1, .unset, .unset, .unset] [(.ref a0_)])) _
    refine XS.iloadN X0.here hx rfl (hb hby d2_12) rfl ?_
    show Steps p.tables e below (s₁.setTop (mkF m 13 #[rv a0_, iv u1, iv u2, iv y0, iv y1, .unset, .unset, .unset] [(.int u1), (.ref a0_)])) _
    refine XS.iconst X0.here hx rfl (hb hby d2_13) ?_
    show Steps p.tables e below (s₁.setTop (mkF m 14 #[rv a0_, iv u1, iv u2, iv y0, iv y1, .unset, .unset, .unset] [(.int (2 : Int32)), (.int u1), (.ref a0_)])) _
    refine XS.iadd X0.here hx rfl (hb hby d2_14) rfl ?_
    show Steps p.tables e below (s₁.setTop (mkF m 15 #[rv a0_, iv u1, iv u2, iv y0, iv y1, .unset, .unset, .unset] [(.int (u1 + (2 : Int32))), (.ref a0_)])) _
    refine X0.baloadBytes hx (j := (u1 + (2 : Int32))) (v := (.int y2)) (by rw [e0]; exact Ar3.1) (State.isArrayOf_alike hZ.alike Ar3.2.1) Ar3.2.2 hin3 (Has.at Ha3 hin3 ((own_getint xs _).trans (congrArg Value.int ey2.symm))) (g := (mkF m 15 #[rv a0_, iv u1, iv u2, iv y0, iv y1, .unset, .unset, .unset] [(.int (u1 + (2 : Int32))), (.ref a0_)])) rfl rfl (hb hby d2_15) _ ?_
    show Steps p.tables e below (s₁.setTop (mkF m 16 #[rv a0_, iv u1, iv u2, iv y0, iv y1, .unset, .unset, .unset] [(.int y2)])) _
    refine XS.istore X0.here hx rfl (hb hby d2_16) rfl (l' := #[rv a0_, iv u1, iv u2, iv y0, iv y1, iv y2, .unset, .unset]) rfl ?_
    show Steps p.tables e below (s₁.setTop (mkF m 18 #[rv a0_, iv u1, iv u2, iv y0, iv y1, iv y2, .unset, .unset] [])) _
    refine XS.aloadN X0.here hx rfl (hb hby d2_18) rfl rfl ?_
    show Steps p.tables e below (s₁.setTop (mkF m 19 #[rv a0_, iv u1, iv u2, iv y0, iv y1, iv y2, .unset, .unset] [(.ref a0_)])) _
    refine XS.iloadN X0.here hx rfl (hb hby d2_19) rfl ?_
    show Steps p.tables e below (s₁.setTop (mkF m 20 #[rv a0_, iv u1, iv u2, iv y0, iv y1, iv y2, .unset, .unset] [(.int u1), (.ref a0_)])) _
    refine XS.iconst X0.here hx rfl (hb hby d2_20) ?_
    show Steps p.tables e below (s₁.setTop (mkF m 21 #[rv a0_, iv u1, iv u2, iv y0, iv y1, iv y2, .unset, .unset] [(.int (3 : Int32)), (.int u1), (.ref a0_)])) _
    refine XS.iadd X0.here hx rfl (hb hby d2_21) rfl ?_
    show Steps p.tables e below (s₁.setTop (mkF m 22 #[rv a0_, iv u1, iv u2, iv y0, iv y1, iv y2, .unset, .unset] [(.int (u1 + (3 : Int32))), (.ref a0_)])) _
    refine X0.baloadBytes hx (j := (u1 + (3 : Int32))) (v := (.int y3)) (by rw [e0]; exact Ar4.1) (State.isArrayOf_alike hZ.alike Ar4.2.1) Ar4.2.2 hin4 (Has.at Ha4 hin4 ((own_getint xs _).trans (congrArg Value.int ey3.symm))) (g := (mkF m 22 #[rv a0_, iv u1, iv u2, iv y0, iv y1, iv y2, .unset, .unset] [(.int (u1 + (3 : Int32))), (.ref a0_)])) rfl rfl (hb hby d2_22) _ ?_
    show Steps p.tables e below (s₁.setTop (mkF m 23 #[rv a0_, iv u1, iv u2, iv y0, iv y1, iv y2, .unset, .unset] [(.int y3)])) _
    refine XS.istore X0.here hx rfl (hb hby d2_23) rfl (l' := #[rv a0_, iv u1, iv u2, iv y0, iv y1, iv y2, iv y3, .unset]) rfl ?_
    show Steps p.tables e below (s₁.setTop (mkF m 25 #[rv a0_, iv u1, iv u2, iv y0, iv y1, iv y2, iv y3, .unset] [])) _
    refine XS.aloadN X0.here hx rfl (hb hby d2_25) rfl rfl ?_
    show Steps p.tables e below (s₁.setTop (mkF m 26 #[rv a0_, iv u1, iv u2, iv y0, iv y1, iv y2, iv y3, .unset] [(.ref a0_)])) _
    refine XS.iloadN X0.here hx rfl (hb hby d2_26) rfl ?_
    show Steps p.tables e below (s₁.setTop (mkF m 27 #[rv a0_, iv u1, iv u2, iv y0, iv y1, iv y2, iv y3, .unset] [(.int u1), (.ref a0_)])) _
    refine XS.iconst X0.here hx rfl (hb hby d2_27) ?_
    show Steps p.tables e below (s₁.setTop (mkF m 28 #[rv a0_, iv u1, iv u2, iv y0, iv y1, iv y2, iv y3, .unset] [(.int (4 : Int32)), (.int u1), (.ref a0_)])) _
    refine XS.iadd X0.here hx rfl (hb hby d2_28) rfl ?_
    show Steps p.tables e below (s₁.setTop (mkF m 29 #[rv a0_, iv u1, iv u2, iv y0, iv y1, iv y2, iv y3, .unset] [(.int (u1 + (4 : Int32))), (.ref a0_)])) _
    refine X0.baloadBytes hx (j := (u1 + (4 : Int32))) (v := (.int y4)) (by rw [e0]; exact Ar5.1) (State.isArrayOf_alike hZ.alike Ar5.2.1) Ar5.2.2 hin5 (Has.at Ha5 hin5 ((own_getint xs _).trans (congrArg Value.int ey4.symm))) (g := (mkF m 29 #[rv a0_, iv u1, iv u2, iv y0, iv y1, iv y2, iv y3, .unset] [(.int (u1 + (4 : Int32))), (.ref a0_)])) rfl rfl (hb hby d2_29) _ ?_
    show Steps p.tables e below (s₁.setTop (mkF m 30 #[rv a0_, iv u1, iv u2, iv y0, iv y1, iv y2, iv y3, .unset] [(.int y4)])) _
    refine XS.istore X0.here hx rfl (hb hby d2_30) rfl (l' := #[rv a0_, iv u1, iv u2, iv y0, iv y1, iv y2, iv y3, iv y4]) rfl ?_
    show Steps p.tables e below (s₁.setTop (mkF m 32 #[rv a0_, iv u1, iv u2, iv y0, iv y1, iv y2, iv y3, iv y4] [])) _
    refine XS.iloadN X0.here hx rfl (hb hby d2_32) rfl ?_
    exact k
  by_cases hc7 : u2 = (0 : Int32)
  · skip
    obtain ⟨fs, hr, hrun, hended, hW, hsame⟩ := X0.leave (v := some (.int (0 : Int32))) (fun h => by rw [Bd.returns] at h; cases h)
    refine ⟨_, _, S6 _ ?_, hrun, hended, _, _, rfl, ?_, ⟨_, rfl⟩, hW, hsame.mono (by decide) (by decide)⟩
    · skip
      show Steps p.tables e below (s₁.setTop (mkF m 33 #[rv a0_, iv u1, iv u2, iv y0, iv y1, iv y2, iv y3, iv y4] [(.int u2)])) _
      refine XS.ifNo X0.here hx rfl (hb hby d2_33) rfl ((if0 _ _).trans (teq hc7).2) ?_
      show Steps p.tables e below (s₁.setTop (mkF m 36 #[rv a0_, iv u1, iv u2, iv y0, iv y1, iv y2, iv y3, iv y4] [])) _
      refine XS.iconst X0.here hx rfl (hb hby d2_36) ?_
      show Steps p.tables e below (s₁.setTop (mkF m 37 #[rv a0_, iv u1, iv u2, iv y0, iv y1, iv y2, iv y3, iv y4] [(.int (0 : Int32))])) _
      exact retI X0 hx Bd.returns (hb hby d2_37) hr
    · show Q2 Z a0_ u1 u2 kk xs h0 n0 _ s₁.heap _
      rw [e0]
      exact ⟨by rw [← ey0, ← ey1, ← ey2, ← ey3, ← ey4]; unfold own_e; rw [if_pos hc7], N0, rfl⟩
  · skip
    have S8 : ∀ t, Steps p.tables e below (s₁.setTop (mkF m 40 #[rv a0_, iv u1, iv u2, iv y0, iv y1, iv y2, iv y3, iv y4] [(.int (1 : Int32)), (.int u2)])) t → Steps p.tables e below (s₁.setTop (entryFrame m #[(.ref a0_), (.int u1), (.int u2)] 8)) t := by
      intro t k
      refine S6 t ?_
      show Steps p.tables e below (s₁.setTop (mkF m 33 #[rv a0_, iv u1, iv u2, iv y0, iv y1, iv y2, iv y3, iv y4] [(.int u2)])) _
      refine XS.ifYes X0.here hx rfl (pc0 := 33) (pc' := 38) rfl (hb hby d2_33) rfl ((if0 _ _).trans (feq hc7).2) (by decide) (by decide) ?_
      show Steps p.tables e below (s₁.setTop (mkF m 38 #[rv a0_, iv u1, iv u2, iv y0, iv y1, iv y2, iv y3, iv y4] [])) _
      refine XS.iloadN X0.here hx rfl (hb hby d2_38) rfl ?_
      show Steps p.tables e below (s₁.setTop (mkF m 39 #[rv a0_, iv u1, iv u2, iv y0, iv y1, iv y2, iv y3, iv y4] [(.int u2)])) _
      refine XS.iconst X0.here hx rfl (hb hby d2_39) ?_
      exact k
    by_cases hc9 : u2 = (1 : Int32)
    · skip
      obtain ⟨fs, hr, hrun, hended, hW, hsame⟩ := X0.leave (v := some (.int y0)) (fun h => by rw [Bd.returns] at h; cases h)
      refine ⟨_, _, S8 _ ?_, hrun, hended, _, _, rfl, ?_, ⟨_, rfl⟩, hW, hsame.mono (by decide) (by decide)⟩
      · skip
        show Steps p.tables e below (s₁.setTop (mkF m 40 #[rv a0_, iv u1, iv u2, iv y0, iv y1, iv y2, iv y3, iv y4] [(.int (1 : Int32)), (.int u2)])) _
        refine XS.icmpNo X0.here hx rfl (hb hby d2_40) rfl (teq hc9).2 ?_
        show Steps p.tables e below (s₁.setTop (mkF m 43 #[rv a0_, iv u1, iv u2, iv y0, iv y1, iv y2, iv y3, iv y4] [])) _
        refine XS.iloadN X0.here hx rfl (hb hby d2_43) rfl ?_
        show Steps p.tables e below (s₁.setTop (mkF m 44 #[rv a0_, iv u1, iv u2, iv y0, iv y1, iv y2, iv y3, iv y4] [(.int y0)])) _
        exact retI X0 hx Bd.returns (hb hby d2_44) hr
      · show Q2 Z a0_ u1 u2 kk xs h0 n0 _ s₁.heap _
        rw [e0]
        exact ⟨by rw [← ey0, ← ey1, ← ey2, ← ey3, ← ey4]; unfold own_e; rw [if_neg hc7, if_pos hc9], N0, rfl⟩
    · skip
      have S10 : ∀ t, Steps p.tables e below (s₁.setTop (mkF m 47 #[rv a0_, iv u1, iv u2, iv y0, iv y1, iv y2, iv y3, iv y4] [(.int (2 : Int32)), (.int u2)])) t → Steps p.tables e below (s₁.setTop (entryFrame m #[(.ref a0_), (.int u1), (.int u2)] 8)) t := by
        intro t k
        refine S8 t ?_
        show Steps p.tables e below (s₁.setTop (mkF m 40 #[rv a0_, iv u1, iv u2, iv y0, iv y1, iv y2, iv y3, iv y4] [(.int (1 : Int32)), (.int u2)])) _
        refine XS.icmpYes X0.here hx rfl (pc0 := 40) (pc' := 45) rfl (hb hby d2_40) rfl (feq hc9).2 (by decide) (by decide) ?_
        show Steps p.tables e below (s₁.setTop (mkF m 45 #[rv a0_, iv u1, iv u2, iv y0, iv y1, iv y2, iv y3, iv y4] [])) _
        refine XS.iloadN X0.here hx rfl (hb hby d2_45) rfl ?_
        show Steps p.tables e below (s₁.setTop (mkF m 46 #[rv a0_, iv u1, iv u2, iv y0, iv y1, iv y2, iv y3, iv y4] [(.int u2)])) _
        refine XS.iconst X0.here hx rfl (hb hby d2_46) ?_
        exact k
      by_cases hc11 : u2 = (2 : Int32)
      · skip
        obtain ⟨fs, hr, hrun, hended, hW, hsame⟩ := X0.leave (v := some (.int (((31 : Int32) * y0) + y1))) (fun h => by rw [Bd.returns] at h; cases h)
        refine ⟨_, _, S10 _ ?_, hrun, hended, _, _, rfl, ?_, ⟨_, rfl⟩, hW, hsame.mono (by decide) (by decide)⟩
        · skip
          show Steps p.tables e below (s₁.setTop (mkF m 47 #[rv a0_, iv u1, iv u2, iv y0, iv y1, iv y2, iv y3, iv y4] [(.int (2 : Int32)), (.int u2)])) _
          refine XS.icmpNo X0.here hx rfl (hb hby d2_47) rfl (teq hc11).2 ?_
          show Steps p.tables e below (s₁.setTop (mkF m 50 #[rv a0_, iv u1, iv u2, iv y0, iv y1, iv y2, iv y3, iv y4] [])) _
          refine XS.bipush X0.here hx rfl (hb hby d2_50) ?_
          show Steps p.tables e below (s₁.setTop (mkF m 52 #[rv a0_, iv u1, iv u2, iv y0, iv y1, iv y2, iv y3, iv y4] [(.int (31 : Int32))])) _
          refine XS.iloadN X0.here hx rfl (hb hby d2_52) rfl ?_
          show Steps p.tables e below (s₁.setTop (mkF m 53 #[rv a0_, iv u1, iv u2, iv y0, iv y1, iv y2, iv y3, iv y4] [(.int y0), (.int (31 : Int32))])) _
          refine XS.imul X0.here hx rfl (hb hby d2_53) rfl ?_
          show Steps p.tables e below (s₁.setTop (mkF m 54 #[rv a0_, iv u1, iv u2, iv y0, iv y1, iv y2, iv y3, iv y4] [(.int ((31 : Int32) * y0))])) _
          refine XS.iload X0.here hx rfl (hb hby d2_54) rfl ?_
          show Steps p.tables e below (s₁.setTop (mkF m 56 #[rv a0_, iv u1, iv u2, iv y0, iv y1, iv y2, iv y3, iv y4] [(.int y1), (.int ((31 : Int32) * y0))])) _
          refine XS.iadd X0.here hx rfl (hb hby d2_56) rfl ?_
          show Steps p.tables e below (s₁.setTop (mkF m 57 #[rv a0_, iv u1, iv u2, iv y0, iv y1, iv y2, iv y3, iv y4] [(.int (((31 : Int32) * y0) + y1))])) _
          exact retI X0 hx Bd.returns (hb hby d2_57) hr
        · show Q2 Z a0_ u1 u2 kk xs h0 n0 _ s₁.heap _
          rw [e0]
          exact ⟨by rw [← ey0, ← ey1, ← ey2, ← ey3, ← ey4]; unfold own_e; rw [if_neg hc7, if_neg hc9, if_pos hc11], N0, rfl⟩
      · skip
        have S12 : ∀ t, Steps p.tables e below (s₁.setTop (mkF m 60 #[rv a0_, iv u1, iv u2, iv y0, iv y1, iv y2, iv y3, iv y4] [(.int (3 : Int32)), (.int u2)])) t → Steps p.tables e below (s₁.setTop (entryFrame m #[(.ref a0_), (.int u1), (.int u2)] 8)) t := by
          intro t k
          refine S10 t ?_
          show Steps p.tables e below (s₁.setTop (mkF m 47 #[rv a0_, iv u1, iv u2, iv y0, iv y1, iv y2, iv y3, iv y4] [(.int (2 : Int32)), (.int u2)])) _
          refine XS.icmpYes X0.here hx rfl (pc0 := 47) (pc' := 58) rfl (hb hby d2_47) rfl (feq hc11).2 (by decide) (by decide) ?_
          show Steps p.tables e below (s₁.setTop (mkF m 58 #[rv a0_, iv u1, iv u2, iv y0, iv y1, iv y2, iv y3, iv y4] [])) _
          refine XS.iloadN X0.here hx rfl (hb hby d2_58) rfl ?_
          show Steps p.tables e below (s₁.setTop (mkF m 59 #[rv a0_, iv u1, iv u2, iv y0, iv y1, iv y2, iv y3, iv y4] [(.int u2)])) _
          refine XS.iconst X0.here hx rfl (hb hby d2_59) ?_
          exact k
        by_cases hc13 : u2 = (3 : Int32)
        · skip
          obtain ⟨fs, hr, hrun, hended, hW, hsame⟩ := X0.leave (v := some (.int ((((961 : Int32) * y0) + ((31 : Int32) * y1)) + y2))) (fun h => by rw [Bd.returns] at h; cases h)
          refine ⟨_, _, S12 _ ?_, hrun, hended, _, _, rfl, ?_, ⟨_, rfl⟩, hW, hsame.mono (by decide) (by decide)⟩
          · skip
            show Steps p.tables e below (s₁.setTop (mkF m 60 #[rv a0_, iv u1, iv u2, iv y0, iv y1, iv y2, iv y3, iv y4] [(.int (3 : Int32)), (.int u2)])) _
            refine XS.icmpNo X0.here hx rfl (hb hby d2_60) rfl (teq hc13).2 ?_
            show Steps p.tables e below (s₁.setTop (mkF m 63 #[rv a0_, iv u1, iv u2, iv y0, iv y1, iv y2, iv y3, iv y4] [])) _
            refine XS.sipush X0.here hx rfl (hb hby d2_63) ?_
            show Steps p.tables e below (s₁.setTop (mkF m 66 #[rv a0_, iv u1, iv u2, iv y0, iv y1, iv y2, iv y3, iv y4] [(.int (961 : Int32))])) _
            refine XS.iloadN X0.here hx rfl (hb hby d2_66) rfl ?_
            show Steps p.tables e below (s₁.setTop (mkF m 67 #[rv a0_, iv u1, iv u2, iv y0, iv y1, iv y2, iv y3, iv y4] [(.int y0), (.int (961 : Int32))])) _
            refine XS.imul X0.here hx rfl (hb hby d2_67) rfl ?_
            show Steps p.tables e below (s₁.setTop (mkF m 68 #[rv a0_, iv u1, iv u2, iv y0, iv y1, iv y2, iv y3, iv y4] [(.int ((961 : Int32) * y0))])) _
            refine XS.bipush X0.here hx rfl (hb hby d2_68) ?_
            show Steps p.tables e below (s₁.setTop (mkF m 70 #[rv a0_, iv u1, iv u2, iv y0, iv y1, iv y2, iv y3, iv y4] [(.int (31 : Int32)), (.int ((961 : Int32) * y0))])) _
            refine XS.iload X0.here hx rfl (hb hby d2_70) rfl ?_
            show Steps p.tables e below (s₁.setTop (mkF m 72 #[rv a0_, iv u1, iv u2, iv y0, iv y1, iv y2, iv y3, iv y4] [(.int y1), (.int (31 : Int32)), (.int ((961 : Int32) * y0))])) _
            refine XS.imul X0.here hx rfl (hb hby d2_72) rfl ?_
            show Steps p.tables e below (s₁.setTop (mkF m 73 #[rv a0_, iv u1, iv u2, iv y0, iv y1, iv y2, iv y3, iv y4] [(.int ((31 : Int32) * y1)), (.int ((961 : Int32) * y0))])) _
            refine XS.iadd X0.here hx rfl (hb hby d2_73) rfl ?_
            show Steps p.tables e below (s₁.setTop (mkF m 74 #[rv a0_, iv u1, iv u2, iv y0, iv y1, iv y2, iv y3, iv y4] [(.int (((961 : Int32) * y0) + ((31 : Int32) * y1)))])) _
            refine XS.iload X0.here hx rfl (hb hby d2_74) rfl ?_
            show Steps p.tables e below (s₁.setTop (mkF m 76 #[rv a0_, iv u1, iv u2, iv y0, iv y1, iv y2, iv y3, iv y4] [(.int y2), (.int (((961 : Int32) * y0) + ((31 : Int32) * y1)))])) _
            refine XS.iadd X0.here hx rfl (hb hby d2_76) rfl ?_
            show Steps p.tables e below (s₁.setTop (mkF m 77 #[rv a0_, iv u1, iv u2, iv y0, iv y1, iv y2, iv y3, iv y4] [(.int ((((961 : Int32) * y0) + ((31 : Int32) * y1)) + y2))])) _
            exact retI X0 hx Bd.returns (hb hby d2_77) hr
          · show Q2 Z a0_ u1 u2 kk xs h0 n0 _ s₁.heap _
            rw [e0]
            exact ⟨by rw [← ey0, ← ey1, ← ey2, ← ey3, ← ey4]; unfold own_e; rw [if_neg hc7, if_neg hc9, if_neg hc11, if_pos hc13], N0, rfl⟩
        · skip
          have S14 : ∀ t, Steps p.tables e below (s₁.setTop (mkF m 80 #[rv a0_, iv u1, iv u2, iv y0, iv y1, iv y2, iv y3, iv y4] [(.int (4 : Int32)), (.int u2)])) t → Steps p.tables e below (s₁.setTop (entryFrame m #[(.ref a0_), (.int u1), (.int u2)] 8)) t := by
            intro t k
            refine S12 t ?_
            show Steps p.tables e below (s₁.setTop (mkF m 60 #[rv a0_, iv u1, iv u2, iv y0, iv y1, iv y2, iv y3, iv y4] [(.int (3 : Int32)), (.int u2)])) _
            refine XS.icmpYes X0.here hx rfl (pc0 := 60) (pc' := 78) rfl (hb hby d2_60) rfl (feq hc13).2 (by decide) (by decide) ?_
            show Steps p.tables e below (s₁.setTop (mkF m 78 #[rv a0_, iv u1, iv u2, iv y0, iv y1, iv y2, iv y3, iv y4] [])) _
            refine XS.iloadN X0.here hx rfl (hb hby d2_78) rfl ?_
            show Steps p.tables e below (s₁.setTop (mkF m 79 #[rv a0_, iv u1, iv u2, iv y0, iv y1, iv y2, iv y3, iv y4] [(.int u2)])) _
            refine XS.iconst X0.here hx rfl (hb hby d2_79) ?_
            exact k
          by_cases hc15 : u2 = (4 : Int32)
          · skip
            obtain ⟨fs, hr, hrun, hended, hW, hsame⟩ := X0.leave (v := some (.int (((((29791 : Int32) * y0) + ((961 : Int32) * y1)) + ((31 : Int32) * y2)) + y3))) (fun h => by rw [Bd.returns] at h; cases h)
            refine ⟨_, _, S14 _ ?_, hrun, hended, _, _, rfl, ?_, ⟨_, rfl⟩, hW, hsame.mono (by decide) (by decide)⟩
            · skip
              show Steps p.tables e below (s₁.setTop (mkF m 80 #[rv a0_, iv u1, iv u2, iv y0, iv y1, iv y2, iv y3, iv y4] [(.int (4 : Int32)), (.int u2)])) _
              refine XS.icmpNo X0.here hx rfl (hb hby d2_80) rfl (teq hc15).2 ?_
              show Steps p.tables e below (s₁.setTop (mkF m 83 #[rv a0_, iv u1, iv u2, iv y0, iv y1, iv y2, iv y3, iv y4] [])) _
              refine XS.sipush X0.here hx rfl (hb hby d2_83) ?_
              show Steps p.tables e below (s₁.setTop (mkF m 86 #[rv a0_, iv u1, iv u2, iv y0, iv y1, iv y2, iv y3, iv y4] [(.int (29791 : Int32))])) _
              refine XS.iloadN X0.here hx rfl (hb hby d2_86) rfl ?_
              show Steps p.tables e below (s₁.setTop (mkF m 87 #[rv a0_, iv u1, iv u2, iv y0, iv y1, iv y2, iv y3, iv y4] [(.int y0), (.int (29791 : Int32))])) _
              refine XS.imul X0.here hx rfl (hb hby d2_87) rfl ?_
              show Steps p.tables e below (s₁.setTop (mkF m 88 #[rv a0_, iv u1, iv u2, iv y0, iv y1, iv y2, iv y3, iv y4] [(.int ((29791 : Int32) * y0))])) _
              refine XS.sipush X0.here hx rfl (hb hby d2_88) ?_
              show Steps p.tables e below (s₁.setTop (mkF m 91 #[rv a0_, iv u1, iv u2, iv y0, iv y1, iv y2, iv y3, iv y4] [(.int (961 : Int32)), (.int ((29791 : Int32) * y0))])) _
              refine XS.iload X0.here hx rfl (hb hby d2_91) rfl ?_
              show Steps p.tables e below (s₁.setTop (mkF m 93 #[rv a0_, iv u1, iv u2, iv y0, iv y1, iv y2, iv y3, iv y4] [(.int y1), (.int (961 : Int32)), (.int ((29791 : Int32) * y0))])) _
              refine XS.imul X0.here hx rfl (hb hby d2_93) rfl ?_
              show Steps p.tables e below (s₁.setTop (mkF m 94 #[rv a0_, iv u1, iv u2, iv y0, iv y1, iv y2, iv y3, iv y4] [(.int ((961 : Int32) * y1)), (.int ((29791 : Int32) * y0))])) _
              refine XS.iadd X0.here hx rfl (hb hby d2_94) rfl ?_
              show Steps p.tables e below (s₁.setTop (mkF m 95 #[rv a0_, iv u1, iv u2, iv y0, iv y1, iv y2, iv y3, iv y4] [(.int (((29791 : Int32) * y0) + ((961 : Int32) * y1)))])) _
              refine XS.bipush X0.here hx rfl (hb hby d2_95) ?_
              show Steps p.tables e below (s₁.setTop (mkF m 97 #[rv a0_, iv u1, iv u2, iv y0, iv y1, iv y2, iv y3, iv y4] [(.int (31 : Int32)), (.int (((29791 : Int32) * y0) + ((961 : Int32) * y1)))])) _
              refine XS.iload X0.here hx rfl (hb hby d2_97) rfl ?_
              show Steps p.tables e below (s₁.setTop (mkF m 99 #[rv a0_, iv u1, iv u2, iv y0, iv y1, iv y2, iv y3, iv y4] [(.int y2), (.int (31 : Int32)), (.int (((29791 : Int32) * y0) + ((961 : Int32) * y1)))])) _
              refine XS.imul X0.here hx rfl (hb hby d2_99) rfl ?_
              show Steps p.tables e below (s₁.setTop (mkF m 100 #[rv a0_, iv u1, iv u2, iv y0, iv y1, iv y2, iv y3, iv y4] [(.int ((31 : Int32) * y2)), (.int (((29791 : Int32) * y0) + ((961 : Int32) * y1)))])) _
              refine XS.iadd X0.here hx rfl (hb hby d2_100) rfl ?_
              show Steps p.tables e below (s₁.setTop (mkF m 101 #[rv a0_, iv u1, iv u2, iv y0, iv y1, iv y2, iv y3, iv y4] [(.int ((((29791 : Int32) * y0) + ((961 : Int32) * y1)) + ((31 : Int32) * y2)))])) _
              refine XS.iload X0.here hx rfl (hb hby d2_101) rfl ?_
              show Steps p.tables e below (s₁.setTop (mkF m 103 #[rv a0_, iv u1, iv u2, iv y0, iv y1, iv y2, iv y3, iv y4] [(.int y3), (.int ((((29791 : Int32) * y0) + ((961 : Int32) * y1)) + ((31 : Int32) * y2)))])) _
              refine XS.iadd X0.here hx rfl (hb hby d2_103) rfl ?_
              show Steps p.tables e below (s₁.setTop (mkF m 104 #[rv a0_, iv u1, iv u2, iv y0, iv y1, iv y2, iv y3, iv y4] [(.int (((((29791 : Int32) * y0) + ((961 : Int32) * y1)) + ((31 : Int32) * y2)) + y3))])) _
              exact retI X0 hx Bd.returns (hb hby d2_104) hr
            · show Q2 Z a0_ u1 u2 kk xs h0 n0 _ s₁.heap _
              rw [e0]
              exact ⟨by rw [← ey0, ← ey1, ← ey2, ← ey3, ← ey4]; unfold own_e; rw [if_neg hc7, if_neg hc9, if_neg hc11, if_neg hc13, if_pos hc15], N0, rfl⟩
          · skip
            obtain ⟨fs, hr, hrun, hended, hW, hsame⟩ := X0.leave (v := some (.int ((((((923521 : Int32) * y0) + ((29791 : Int32) * y1)) + ((961 : Int32) * y2)) + ((31 : Int32) * y3)) + y4))) (fun h => by rw [Bd.returns] at h; cases h)
            refine ⟨_, _, S14 _ ?_, hrun, hended, _, _, rfl, ?_, ⟨_, rfl⟩, hW, hsame.mono (by decide) (by decide)⟩
            · skip
              show Steps p.tables e below (s₁.setTop (mkF m 80 #[rv a0_, iv u1, iv u2, iv y0, iv y1, iv y2, iv y3, iv y4] [(.int (4 : Int32)), (.int u2)])) _
              refine XS.icmpYes X0.here hx rfl (pc0 := 80) (pc' := 105) rfl (hb hby d2_80) rfl (feq hc15).2 (by decide) (by decide) ?_
              show Steps p.tables e below (s₁.setTop (mkF m 105 #[rv a0_, iv u1, iv u2, iv y0, iv y1, iv y2, iv y3, iv y4] [])) _
              refine X0.ldcInt hx hown (mvT hZ (hw _ (List.mem_of_getElem? (i := 10) rfl))) (g := (mkF m 105 #[rv a0_, iv u1, iv u2, iv y0, iv y1, iv y2, iv y3, iv y4] [])) rfl (hb hby d2_105) _ ?_
              show Steps p.tables e below (s₁.setTop (mkF m 107 #[rv a0_, iv u1, iv u2, iv y0, iv y1, iv y2, iv y3, iv y4] [(.int (923521 : Int32))])) _
              refine XS.iloadN X0.here hx rfl (hb hby d2_107) rfl ?_
              show Steps p.tables e below (s₁.setTop (mkF m 108 #[rv a0_, iv u1, iv u2, iv y0, iv y1, iv y2, iv y3, iv y4] [(.int y0), (.int (923521 : Int32))])) _
              refine XS.imul X0.here hx rfl (hb hby d2_108) rfl ?_
              show Steps p.tables e below (s₁.setTop (mkF m 109 #[rv a0_, iv u1, iv u2, iv y0, iv y1, iv y2, iv y3, iv y4] [(.int ((923521 : Int32) * y0))])) _
              refine XS.sipush X0.here hx rfl (hb hby d2_109) ?_
              show Steps p.tables e below (s₁.setTop (mkF m 112 #[rv a0_, iv u1, iv u2, iv y0, iv y1, iv y2, iv y3, iv y4] [(.int (29791 : Int32)), (.int ((923521 : Int32) * y0))])) _
              refine XS.iload X0.here hx rfl (hb hby d2_112) rfl ?_
              show Steps p.tables e below (s₁.setTop (mkF m 114 #[rv a0_, iv u1, iv u2, iv y0, iv y1, iv y2, iv y3, iv y4] [(.int y1), (.int (29791 : Int32)), (.int ((923521 : Int32) * y0))])) _
              refine XS.imul X0.here hx rfl (hb hby d2_114) rfl ?_
              show Steps p.tables e below (s₁.setTop (mkF m 115 #[rv a0_, iv u1, iv u2, iv y0, iv y1, iv y2, iv y3, iv y4] [(.int ((29791 : Int32) * y1)), (.int ((923521 : Int32) * y0))])) _
              refine XS.iadd X0.here hx rfl (hb hby d2_115) rfl ?_
              show Steps p.tables e below (s₁.setTop (mkF m 116 #[rv a0_, iv u1, iv u2, iv y0, iv y1, iv y2, iv y3, iv y4] [(.int (((923521 : Int32) * y0) + ((29791 : Int32) * y1)))])) _
              refine XS.sipush X0.here hx rfl (hb hby d2_116) ?_
              show Steps p.tables e below (s₁.setTop (mkF m 119 #[rv a0_, iv u1, iv u2, iv y0, iv y1, iv y2, iv y3, iv y4] [(.int (961 : Int32)), (.int (((923521 : Int32) * y0) + ((29791 : Int32) * y1)))])) _
              refine XS.iload X0.here hx rfl (hb hby d2_119) rfl ?_
              show Steps p.tables e below (s₁.setTop (mkF m 121 #[rv a0_, iv u1, iv u2, iv y0, iv y1, iv y2, iv y3, iv y4] [(.int y2), (.int (961 : Int32)), (.int (((923521 : Int32) * y0) + ((29791 : Int32) * y1)))])) _
              refine XS.imul X0.here hx rfl (hb hby d2_121) rfl ?_
              show Steps p.tables e below (s₁.setTop (mkF m 122 #[rv a0_, iv u1, iv u2, iv y0, iv y1, iv y2, iv y3, iv y4] [(.int ((961 : Int32) * y2)), (.int (((923521 : Int32) * y0) + ((29791 : Int32) * y1)))])) _
              refine XS.iadd X0.here hx rfl (hb hby d2_122) rfl ?_
              show Steps p.tables e below (s₁.setTop (mkF m 123 #[rv a0_, iv u1, iv u2, iv y0, iv y1, iv y2, iv y3, iv y4] [(.int ((((923521 : Int32) * y0) + ((29791 : Int32) * y1)) + ((961 : Int32) * y2)))])) _
              refine XS.bipush X0.here hx rfl (hb hby d2_123) ?_
              show Steps p.tables e below (s₁.setTop (mkF m 125 #[rv a0_, iv u1, iv u2, iv y0, iv y1, iv y2, iv y3, iv y4] [(.int (31 : Int32)), (.int ((((923521 : Int32) * y0) + ((29791 : Int32) * y1)) + ((961 : Int32) * y2)))])) _
              refine XS.iload X0.here hx rfl (hb hby d2_125) rfl ?_
              show Steps p.tables e below (s₁.setTop (mkF m 127 #[rv a0_, iv u1, iv u2, iv y0, iv y1, iv y2, iv y3, iv y4] [(.int y3), (.int (31 : Int32)), (.int ((((923521 : Int32) * y0) + ((29791 : Int32) * y1)) + ((961 : Int32) * y2)))])) _
              refine XS.imul X0.here hx rfl (hb hby d2_127) rfl ?_
              show Steps p.tables e below (s₁.setTop (mkF m 128 #[rv a0_, iv u1, iv u2, iv y0, iv y1, iv y2, iv y3, iv y4] [(.int ((31 : Int32) * y3)), (.int ((((923521 : Int32) * y0) + ((29791 : Int32) * y1)) + ((961 : Int32) * y2)))])) _
              refine XS.iadd X0.here hx rfl (hb hby d2_128) rfl ?_
              show Steps p.tables e below (s₁.setTop (mkF m 129 #[rv a0_, iv u1, iv u2, iv y0, iv y1, iv y2, iv y3, iv y4] [(.int (((((923521 : Int32) * y0) + ((29791 : Int32) * y1)) + ((961 : Int32) * y2)) + ((31 : Int32) * y3)))])) _
              refine XS.iload X0.here hx rfl (hb hby d2_129) rfl ?_
              show Steps p.tables e below (s₁.setTop (mkF m 131 #[rv a0_, iv u1, iv u2, iv y0, iv y1, iv y2, iv y3, iv y4] [(.int y4), (.int (((((923521 : Int32) * y0) + ((29791 : Int32) * y1)) + ((961 : Int32) * y2)) + ((31 : Int32) * y3)))])) _
              refine XS.iadd X0.here hx rfl (hb hby d2_131) rfl ?_
              show Steps p.tables e below (s₁.setTop (mkF m 132 #[rv a0_, iv u1, iv u2, iv y0, iv y1, iv y2, iv y3, iv y4] [(.int ((((((923521 : Int32) * y0) + ((29791 : Int32) * y1)) + ((961 : Int32) * y2)) + ((31 : Int32) * y3)) + y4))])) _
              exact retI X0 hx Bd.returns (hb hby d2_132) hr
            · show Q2 Z a0_ u1 u2 kk xs h0 n0 _ s₁.heap _
              rw [e0]
              exact ⟨by rw [← ey0, ← ey1, ← ey2, ← ey3, ← ey4]; unfold own_e; rw [if_neg hc7, if_neg hc9, if_neg hc11, if_neg hc13, if_neg hc15], N0, rfl⟩
theorem own_plain (xs : List Int32) (f len : Int32) (h : 0 ≤ len.toInt) (h' : len.toInt ≤ 5) : own_h xs 0 f len.toInt.toNat = own_e (xs.getD f.toNatClampNeg 0) (xs.getD (f + (1 : Int32)).toNatClampNeg 0) (xs.getD (f + (2 : Int32)).toNatClampNeg 0) (xs.getD (f + (3 : Int32)).toNatClampNeg 0) (xs.getD (f + (4 : Int32)).toNatClampNeg 0) len := by
  have a2 : f + (1 : Int32) + (1 : Int32) = f + 2 := by rw [Int32.add_assoc]; rfl
  have a3 : f + (2 : Int32) + (1 : Int32) = f + 3 := by rw [Int32.add_assoc]; rfl
  have a4 : f + (3 : Int32) + (1 : Int32) = f + 4 := by rw [Int32.add_assoc]; rfl
  have hc : len = 0 ∨ len = 1 ∨ len = 2 ∨ len = 3 ∨ len = 4 ∨ len = 5 := by
    simp only [← Int32.toInt_inj, Int32.reduceToInt]; omega
  rcases hc with rfl | rfl | rfl | rfl | rfl | rfl
  · rfl
  · show own_h xs 0 f 1 = _
    simp only [own_h, own_e]
    generalize xs.getD f.toNatClampNeg 0 = y0
    rw [if_neg (by decide), if_pos (by decide)]; grind
  · show own_h xs 0 f 2 = _
    simp only [own_h, own_e, a2, a3, a4]
    generalize xs.getD f.toNatClampNeg 0 = y0
    generalize xs.getD (f + 1).toNatClampNeg 0 = y1
    rw [if_neg (by decide), if_neg (by decide), if_pos (by decide)]; grind
  · show own_h xs 0 f 3 = _
    simp only [own_h, own_e, a2, a3, a4]
    generalize xs.getD f.toNatClampNeg 0 = y0
    generalize xs.getD (f + 1).toNatClampNeg 0 = y1
    generalize xs.getD (f + 2).toNatClampNeg 0 = y2
    rw [if_neg (by decide), if_neg (by decide), if_neg (by decide), if_pos (by decide)]; grind
  · show own_h xs 0 f 4 = _
    simp only [own_h, own_e, a2, a3, a4]
    generalize xs.getD f.toNatClampNeg 0 = y0
    generalize xs.getD (f + 1).toNatClampNeg 0 = y1
    generalize xs.getD (f + 2).toNatClampNeg 0 = y2
    generalize xs.getD (f + 3).toNatClampNeg 0 = y3
    rw [if_neg (by decide), if_neg (by decide), if_neg (by decide), if_neg (by decide), if_pos (by decide)]; grind
  · show own_h xs 0 f 5 = _
    simp only [own_h, own_e, a2, a3, a4]
    generalize xs.getD f.toNatClampNeg 0 = y0
    generalize xs.getD (f + 1).toNatClampNeg 0 = y1
    generalize xs.getD (f + 2).toNatClampNeg 0 = y2
    generalize xs.getD (f + 3).toNatClampNeg 0 = y3
    generalize xs.getD (f + 4).toNatClampNeg 0 = y4
    rw [if_neg (by decide), if_neg (by decide), if_neg (by decide), if_neg (by decide), if_neg (by decide)]; grind

theorem pd_0 : parseMethodDescriptor "([BII)I" = some ⟨[(.array .byte), .int, .int], some .int⟩ := by decide +kernel
def Q0 (Z : State) (u0 : Int32) (u1 : Int32) (u2 : Int32) (u3 : Int32)  (h0 : Heap) (n0 : Nat) (v : Option Value) (h : Heap) (L : List Loc) : Prop := v = some (.int 1) ∧ Fr n0 L
theorem ef_rm0 (m : MethodId) (u0 : Int32) (u1 : Int32) (u2 : Int32) (u3 : Int32) : entryFrame m #[(.int u0), (.int u1), (.int u2), (.int u3)] maxLocals = mkF m 0 #[iv u0, iv u1, iv u2, iv u3, .unset, .unset, .unset, .unset, .unset] [] := by first | (simp [entryFrame, mkF, argsToLocals, Value.category, maxLocals]; done) | rfl
set_option maxRecDepth 65536 in
set_option maxHeartbeats 40000000 in
theorem rm0 (l : Launch) (Z : State) (a0 : Array Value) (hw : ∀ d ∈ tables_1, d.before a0 Z = true) (ws : List Jvm.Cond) (u0 : Int32) (u1 : Int32) (u2 : Int32) (u3 : Int32)  (h0 : Heap) (n0 : Nat) (Z0 : n0 ≤ h0.size) :
    MetFree l x (head1 (Jvm.Cond.code x code maxLocals ret :: ws) room_1) (fun a U => a = #[(.int u0), (.int u1), (.int u2), (.int u3)] ∧ Z.Warmed39 U.vm ∧ U.heap = h0) (fun _ _ _ _ _ => True) (fun _ U o U' => ∃ v L, o = .returned v ∧ Q0 Z u0 u1 u2 u3 h0 n0 v U'.heap L ∧ FrameEnd U o U' L room_1.cells room_1.slots) := by
  refine MetFree.of_bodySF (plainFor_of_name pn_1) hisR ?_
  intro p e s m args below meth c s₁ Bd hml0 hP hK
  obtain ⟨rfl, hZ, hh⟩ := hP
  have hx := Bd.exec
  have hby := Bd.bytes
  have hml : c.maxLocals = 9 := hml0
  have hown : s.vm.findClass "com/example/rivanna/rivanna/core/json/TableHashOfBytesPinLaw" = some m.cls := findClass_of_methodNamed Bd.named
  have hnm := (name_of_methodNamed Bd.named Bd.method).1
  have X0 : Stand p l e room_1 s m #[(.int u0), (.int u1), (.int u2), (.int u3)] below meth c s₁ [] 0 0 := Stand.of_body Bd
  have e0 : s₁.heap = h0 := by rw [← hh, Bd.state]; rfl
  have N0 := Fr.nil n0
  have S0 : ∀ t, Steps p.tables e below (s₁.setTop (mkF m 0 #[iv u0, iv u1, iv u2, iv u3, .unset, .unset, .unset, .unset, .unset] [])) t → Steps p.tables e below (s₁.setTop (entryFrame m #[(.int u0), (.int u1), (.int u2), (.int u3)] maxLocals)) t := fun t k => castTop (ef_rm0 m u0 u1 u2 u3) k
  obtain ⟨T1, h1, k1, X1, e1, E1, A1, st1⟩ := newP X0 hx hZ (hw _ (List.mem_of_getElem? (i := 0) rfl)) e0 (g := (mkF m 2 #[iv u0, iv u1, iv u2, iv u3, .unset, .unset, .unset, .unset, .unset] [(.int (10 : Int32))])) rfl (hb hby at_2) rfl (by decide) (cap := 10) (by decide) (by decide) (by decide) (by decide)
  obtain ⟨b1, g1⟩ : ∃ z, z = h0.size := ⟨_, rfl⟩
  rw [← g1] at A1 st1
  have ge_b1 : n0 ≤ b1 := Nat.le_trans Z0 (Nat.le_of_eq g1.symm)
  have V1 : Arv Z h1 b1 k1 .byte (10 : Int32) [(.int (0 : Int32)), (.int (0 : Int32)), (.int (0 : Int32)), (.int (0 : Int32)), (.int (0 : Int32)), (.int (0 : Int32)), (.int (0 : Int32)), (.int (0 : Int32)), (.int (0 : Int32)), (.int (0 : Int32))] (.int (0 : Int32)) := (Arv.new A1 (by decide)).pad (pad_rep [] (.int (0 : Int32)) 10)
  have Z1 : n0 ≤ h1.size := Nat.le_trans Z0 E1.1
  obtain ⟨cl2, Ar2, qa2, Sa2, Na2, Ha2, Ga2⟩ := id V1
  have hin2 : ¬ ((0 : Int32) < 0 ∨ cl2.slots.size ≤ ((0 : Int32)).toNatClampNeg) := inb_of Sa2 ⟨by decide, by decide⟩
  obtain ⟨T3, h3, X3, e3, W3, st3⟩ := stB X1 hx hZ e1 Ar2 (j := (0 : Int32)) hin2 (g := (mkF m 11 #[iv u0, iv u1, iv u2, iv u3, rv b1, .unset, .unset, .unset, .unset] [(.int (u0.toInt8.toInt32)), (.int (0 : Int32)), (.ref b1)])) rfl rfl (hb hby at_11)
  rw [own_nb] at W3
  have V3 : Arv Z h3 b1 k1 .byte (10 : Int32) [(.int (u0.toInt8.toInt32)), (.int (0 : Int32)), (.int (0 : Int32)), (.int (0 : Int32)), (.int (0 : Int32)), (.int (0 : Int32)), (.int (0 : Int32)), (.int (0 : Int32)), (.int (0 : Int32)), (.int (0 : Int32))] (.int (0 : Int32)) := Arv.set Ar2 qa2 Sa2 Na2 Ha2 Ga2 (own_fb _) W3 0 rfl (Nat.le_of_ble_eq_true rfl)
  have N3 := Fr.snoc X3 N0 ge_b1
  have Z3 : n0 ≤ h3.size := Nat.le_trans Z1 (Keep.of_wr W3).1
  obtain ⟨cl5, Ar5, qa5, Sa5, Na5, Ha5, Ga5⟩ := id V3
  have hin5 : ¬ ((1 : Int32) < 0 ∨ cl5.slots.size ≤ ((1 : Int32)).toNatClampNeg) := inb_of Sa5 ⟨by decide, by decide⟩
  obtain ⟨T6, h6, X6, e6, W6, st6⟩ := stB X3 hx hZ e3 Ar5 (j := (1 : Int32)) hin5 (g := (mkF m 20 #[iv u0, iv u1, iv u2, iv u3, rv b1, .unset, .unset, .unset, .unset] [(.int ((u0 >>> ((8 : Int32) &&& 31)).toInt8.toInt32)), (.int (1 : Int32)), (.ref b1)])) rfl rfl (hb hby at_20)
  rw [own_nb] at W6
  have V6 : Arv Z h6 b1 k1 .byte (10 : Int32) [(.int (u0.toInt8.toInt32)), (.int ((u0 >>> ((8 : Int32) &&& 31)).toInt8.toInt32)), (.int (0 : Int32)), (.int (0 : Int32)), (.int (0 : Int32)), (.int (0 : Int32)), (.int (0 : Int32)), (.int (0 : Int32)), (.int (0 : Int32)), (.int (0 : Int32))] (.int (0 : Int32)) := Arv.set Ar5 qa5 Sa5 Na5 Ha5 Ga5 (own_fb _) W6 1 rfl (Nat.le_of_ble_eq_true rfl)
  have N6 := Fr.snoc X6 N3 ge_b1
  have Z6 : n0 ≤ h6.size := Nat.le_trans Z3 (Keep.of_wr W6).1
  obtain ⟨cl8, Ar8, qa8, Sa8, Na8, Ha8, Ga8⟩ := id V6
  have hin8 : ¬ ((2 : Int32) < 0 ∨ cl8.slots.size ≤ ((2 : Int32)).toNatClampNeg) := inb_of Sa8 ⟨by decide, by decide⟩
  obtain ⟨T9, h9, X9, e9, W9, st9⟩ := stB X6 hx hZ e6 Ar8 (j := (2 : Int32)) hin8 (g := (mkF m 29 #[iv u0, iv u1, iv u2, iv u3, rv b1, .unset, .unset, .unset, .unset] [(.int ((u0 >>> ((16 : Int32) &&& 31)).toInt8.toInt32)), (.int (2 : Int32)), (.ref b1)])) rfl rfl (hb hby at_29)
  rw [own_nb] at W9
  have V9 : Arv Z h9 b1 k1 .byte (10 : Int32) [(.int (u0.toInt8.toInt32)), (.int ((u0 >>> ((8 : Int32) &&& 31)).toInt8.toInt32)), (.int ((u0 >>> ((16 : Int32) &&& 31)).toInt8.toInt32)), (.int (0 : Int32)), (.int (0 : Int32)), (.int (0 : Int32)), (.int (0 : Int32)), (.int (0 : Int32)), (.int (0 : Int32)), (.int (0 : Int32))] (.int (0 : Int32)) := Arv.set Ar8 qa8 Sa8 Na8 Ha8 Ga8 (own_fb _) W9 2 rfl (Nat.le_of_ble_eq_true rfl)
  have N9 := Fr.snoc X9 N6 ge_b1
  have Z9 : n0 ≤ h9.size := Nat.le_trans Z6 (Keep.of_wr W9).1
  obtain ⟨cl11, Ar11, qa11, Sa11, Na11, Ha11, Ga11⟩ := id V9
  have hin11 : ¬ ((3 : Int32) < 0 ∨ cl11.slots.size ≤ ((3 : Int32)).toNatClampNeg) := inb_of Sa11 ⟨by decide, by decide⟩
  obtain ⟨T12, h12, X12, e12, W12, st12⟩ := stB X9 hx hZ e9 Ar11 (j := (3 : Int32)) hin11 (g := (mkF m 38 #[iv u0, iv u1, iv u2, iv u3, rv b1, .unset, .unset, .unset, .unset] [(.int ((u0 >>> ((24 : Int32) &&& 31)).toInt8.toInt32)), (.int (3 : Int32)), (.ref b1)])) rfl rfl (hb hby at_38)
  rw [own_nb] at W12
  have V12 : Arv Z h12 b1 k1 .byte (10 : Int32) [(.int (u0.toInt8.toInt32)), (.int ((u0 >>> ((8 : Int32) &&& 31)).toInt8.toInt32)), (.int ((u0 >>> ((16 : Int32) &&& 31)).toInt8.toInt32)), (.int ((u0 >>> ((24 : Int32) &&& 31)).toInt8.toInt32)), (.int (0 : Int32)), (.int (0 : Int32)), (.int (0 : Int32)), (.int (0 : Int32)), (.int (0 : Int32)), (.int (0 : Int32))] (.int (0 : Int32)) := Arv.set Ar11 qa11 Sa11 Na11 Ha11 Ga11 (own_fb _) W12 3 rfl (Nat.le_of_ble_eq_true rfl)
  have N12 := Fr.snoc X12 N9 ge_b1
  have Z12 : n0 ≤ h12.size := Nat.le_trans Z9 (Keep.of_wr W12).1
  obtain ⟨cl14, Ar14, qa14, Sa14, Na14, Ha14, Ga14⟩ := id V12
  have hin14 : ¬ ((4 : Int32) < 0 ∨ cl14.slots.size ≤ ((4 : Int32)).toNatClampNeg) := inb_of Sa14 ⟨by decide, by decide⟩
  obtain ⟨T15, h15, X15, e15, W15, st15⟩ := stB X12 hx hZ e12 Ar14 (j := (4 : Int32)) hin14 (g := (mkF m 44 #[iv u0, iv u1, iv u2, iv u3, rv b1, .unset, .unset, .unset, .unset] [(.int (u1.toInt8.toInt32)), (.int (4 : Int32)), (.ref b1)])) rfl rfl (hb hby at_44)
  rw [own_nb] at W15
  have V15 : Arv Z h15 b1 k1 .byte (10 : Int32) [(.int (u0.toInt8.toInt32)), (.int ((u0 >>> ((8 : Int32) &&& 31)).toInt8.toInt32)), (.int ((u0 >>> ((16 : Int32) &&& 31)).toInt8.toInt32)), (.int ((u0 >>> ((24 : Int32) &&& 31)).toInt8.toInt32)), (.int (u1.toInt8.toInt32)), (.int (0 : Int32)), (.int (0 : Int32)), (.int (0 : Int32)), (.int (0 : Int32)), (.int (0 : Int32))] (.int (0 : Int32)) := Arv.set Ar14 qa14 Sa14 Na14 Ha14 Ga14 (own_fb _) W15 4 rfl (Nat.le_of_ble_eq_true rfl)
  have N15 := Fr.snoc X15 N12 ge_b1
  have Z15 : n0 ≤ h15.size := Nat.le_trans Z12 (Keep.of_wr W15).1
  obtain ⟨cl17, Ar17, qa17, Sa17, Na17, Ha17, Ga17⟩ := id V15
  have hin17 : ¬ ((5 : Int32) < 0 ∨ cl17.slots.size ≤ ((5 : Int32)).toNatClampNeg) := inb_of Sa17 ⟨by decide, by decide⟩
  obtain ⟨T18, h18, X18, e18, W18, st18⟩ := stB X15 hx hZ e15 Ar17 (j := (5 : Int32)) hin17 (g := (mkF m 53 #[iv u0, iv u1, iv u2, iv u3, rv b1, .unset, .unset, .unset, .unset] [(.int ((u1 >>> ((8 : Int32) &&& 31)).toInt8.toInt32)), (.int (5 : Int32)), (.ref b1)])) rfl rfl (hb hby at_53)
  rw [own_nb] at W18
  have V18 : Arv Z h18 b1 k1 .byte (10 : Int32) [(.int (u0.toInt8.toInt32)), (.int ((u0 >>> ((8 : Int32) &&& 31)).toInt8.toInt32)), (.int ((u0 >>> ((16 : Int32) &&& 31)).toInt8.toInt32)), (.int ((u0 >>> ((24 : Int32) &&& 31)).toInt8.toInt32)), (.int (u1.toInt8.toInt32)), (.int ((u1 >>> ((8 : Int32) &&& 31)).toInt8.toInt32)), (.int (0 : Int32)), (.int (0 : Int32)), (.int (0 : Int32)), (.int (0 : Int32))] (.int (0 : Int32)) := Arv.set Ar17 qa17 Sa17 Na17 Ha17 Ga17 (own_fb _) W18 5 rfl (Nat.le_of_ble_eq_true rfl)
  have N18 := Fr.snoc X18 N15 ge_b1
  have Z18 : n0 ≤ h18.size := Nat.le_trans Z15 (Keep.of_wr W18).1
  obtain ⟨cl20, Ar20, qa20, Sa20, Na20, Ha20, Ga20⟩ := id V18
  have hin20 : ¬ ((6 : Int32) < 0 ∨ cl20.slots.size ≤ ((6 : Int32)).toNatClampNeg) := inb_of Sa20 ⟨by decide, by decide⟩
  obtain ⟨T21, h21, X21, e21, W21, st21⟩ := stB X18 hx hZ e18 Ar20 (j := (6 : Int32)) hin20 (g := (mkF m 63 #[iv u0, iv u1, iv u2, iv u3, rv b1, .unset, .unset, .unset, .unset] [(.int ((u1 >>> ((16 : Int32) &&& 31)).toInt8.toInt32)), (.int (6 : Int32)), (.ref b1)])) rfl rfl (hb hby at_63)
  rw [own_nb] at W21
  have V21 : Arv Z h21 b1 k1 .byte (10 : Int32) [(.int (u0.toInt8.toInt32)), (.int ((u0 >>> ((8 : Int32) &&& 31)).toInt8.toInt32)), (.int ((u0 >>> ((16 : Int32) &&& 31)).toInt8.toInt32)), (.int ((u0 >>> ((24 : Int32) &&& 31)).toInt8.toInt32)), (.int (u1.toInt8.toInt32)), (.int ((u1 >>> ((8 : Int32) &&& 31)).toInt8.toInt32)), (.int ((u1 >>> ((16 : Int32) &&& 31)).toInt8.toInt32)), (.int (0 : Int32)), (.int (0 : Int32)), (.int (0 : Int32))] (.int (0 : Int32)) := Arv.set Ar20 qa20 Sa20 Na20 Ha20 Ga20 (own_fb _) W21 6 rfl (Nat.le_of_ble_eq_true rfl)
  have N21 := Fr.snoc X21 N18 ge_b1
  have Z21 : n0 ≤ h21.size := Nat.le_trans Z18 (Keep.of_wr W21).1
  obtain ⟨cl23, Ar23, qa23, Sa23, Na23, Ha23, Ga23⟩ := id V21
  have hin23 : ¬ ((7 : Int32) < 0 ∨ cl23.slots.size ≤ ((7 : Int32)).toNatClampNeg) := inb_of Sa23 ⟨by decide, by decide⟩
  obtain ⟨T24, h24, X24, e24, W24, st24⟩ := stB X21 hx hZ e21 Ar23 (j := (7 : Int32)) hin23 (g := (mkF m 73 #[iv u0, iv u1, iv u2, iv u3, rv b1, .unset, .unset, .unset, .unset] [(.int ((u1 >>> ((24 : Int32) &&& 31)).toInt8.toInt32)), (.int (7 : Int32)), (.ref b1)])) rfl rfl (hb hby at_73)
  rw [own_nb] at W24
  have V24 : Arv Z h24 b1 k1 .byte (10 : Int32) [(.int (u0.toInt8.toInt32)), (.int ((u0 >>> ((8 : Int32) &&& 31)).toInt8.toInt32)), (.int ((u0 >>> ((16 : Int32) &&& 31)).toInt8.toInt32)), (.int ((u0 >>> ((24 : Int32) &&& 31)).toInt8.toInt32)), (.int (u1.toInt8.toInt32)), (.int ((u1 >>> ((8 : Int32) &&& 31)).toInt8.toInt32)), (.int ((u1 >>> ((16 : Int32) &&& 31)).toInt8.toInt32)), (.int ((u1 >>> ((24 : Int32) &&& 31)).toInt8.toInt32)), (.int (0 : Int32)), (.int (0 : Int32))] (.int (0 : Int32)) := Arv.set Ar23 qa23 Sa23 Na23 Ha23 Ga23 (own_fb _) W24 7 rfl (Nat.le_of_ble_eq_true rfl)
  have N24 := Fr.snoc X24 N21 ge_b1
  have Z24 : n0 ≤ h24.size := Nat.le_trans Z21 (Keep.of_wr W24).1
  obtain ⟨cl26, Ar26, qa26, Sa26, Na26, Ha26, Ga26⟩ := id V24
  have hin26 : ¬ ((8 : Int32) < 0 ∨ cl26.slots.size ≤ ((8 : Int32)).toNatClampNeg) := inb_of Sa26 ⟨by decide, by decide⟩
  obtain ⟨T27, h27, X27, e27, W27, st27⟩ := stB X24 hx hZ e24 Ar26 (j := (8 : Int32)) hin26 (g := (mkF m 80 #[iv u0, iv u1, iv u2, iv u3, rv b1, .unset, .unset, .unset, .unset] [(.int (u2.toInt8.toInt32)), (.int (8 : Int32)), (.ref b1)])) rfl rfl (hb hby at_80)
  rw [own_nb] at W27
  have V27 : Arv Z h27 b1 k1 .byte (10 : Int32) [(.int (u0.toInt8.toInt32)), (.int ((u0 >>> ((8 : Int32) &&& 31)).toInt8.toInt32)), (.int ((u0 >>> ((16 : Int32) &&& 31)).toInt8.toInt32)), (.int ((u0 >>> ((24 : Int32) &&& 31)).toInt8.toInt32)), (.int (u1.toInt8.toInt32)), (.int ((u1 >>> ((8 : Int32) &&& 31)).toInt8.toInt32)), (.int ((u1 >>> ((16 : Int32) &&& 31)).toInt8.toInt32)), (.int ((u1 >>> ((24 : Int32) &&& 31)).toInt8.toInt32)), (.int (u2.toInt8.toInt32)), (.int (0 : Int32))] (.int (0 : Int32)) := Arv.set Ar26 qa26 Sa26 Na26 Ha26 Ga26 (own_fb _) W27 8 rfl (Nat.le_of_ble_eq_true rfl)
  have N27 := Fr.snoc X27 N24 ge_b1
  have Z27 : n0 ≤ h27.size := Nat.le_trans Z24 (Keep.of_wr W27).1
  obtain ⟨cl29, Ar29, qa29, Sa29, Na29, Ha29, Ga29⟩ := id V27
  have hin29 : ¬ ((9 : Int32) < 0 ∨ cl29.slots.size ≤ ((9 : Int32)).toNatClampNeg) := inb_of Sa29 ⟨by decide, by decide⟩
  obtain ⟨T30, h30, X30, e30, W30, st30⟩ := stB X27 hx hZ e27 Ar29 (j := (9 : Int32)) hin29 (g := (mkF m 90 #[iv u0, iv u1, iv u2, iv u3, rv b1, .unset, .unset, .unset, .unset] [(.int ((u2 >>> ((8 : Int32) &&& 31)).toInt8.toInt32)), (.int (9 : Int32)), (.ref b1)])) rfl rfl (hb hby at_90)
  rw [own_nb] at W30
  have V30 : Arv Z h30 b1 k1 .byte (10 : Int32) [(.int (u0.toInt8.toInt32)), (.int ((u0 >>> ((8 : Int32) &&& 31)).toInt8.toInt32)), (.int ((u0 >>> ((16 : Int32) &&& 31)).toInt8.toInt32)), (.int ((u0 >>> ((24 : Int32) &&& 31)).toInt8.toInt32)), (.int (u1.toInt8.toInt32)), (.int ((u1 >>> ((8 : Int32) &&& 31)).toInt8.toInt32)), (.int ((u1 >>> ((16 : Int32) &&& 31)).toInt8.toInt32)), (.int ((u1 >>> ((24 : Int32) &&& 31)).toInt8.toInt32)), (.int (u2.toInt8.toInt32)), (.int ((u2 >>> ((8 : Int32) &&& 31)).toInt8.toInt32))] (.int (0 : Int32)) := Arv.set Ar29 qa29 Sa29 Na29 Ha29 Ga29 (own_fb _) W30 9 rfl (Nat.le_of_ble_eq_true rfl)
  have N30 := Fr.snoc X30 N27 ge_b1
  have Z30 : n0 ≤ h30.size := Nat.le_trans Z27 (Keep.of_wr W30).1
  have hfr := own_idx u3
  have hln := own_idx ((u3.toUInt32 >>> ((8 : Int32) &&& 31).toUInt32).toInt32)
  have hto : ((((u3 &&& (2147483647 : Int32)) % (6 : Int32)) + ((((u3.toUInt32 >>> ((8 : Int32) &&& 31).toUInt32).toInt32) &&& (2147483647 : Int32)) % (6 : Int32)))).toInt = (((u3 &&& (2147483647 : Int32)) % (6 : Int32))).toInt + (((((u3.toUInt32 >>> ((8 : Int32) &&& 31).toUInt32).toInt32) &&& (2147483647 : Int32)) % (6 : Int32))).toInt := Jvm.Kit.i32_add (by omega) (by omega)
  obtain ⟨_, _, ⟨T32, L32, k32, n32⟩, -, X32, ⟨Lc32, hQ32, l32, y32, z32⟩, st32⟩ := Jvm.LawKit.callS X30 hx (y := (⟨"com/example/rivanna/rivanna/core/json/MemberNames$Table", "hashOfBytes", "([BII)I"⟩ : MethodName)) hown (mvT hZ (hw _ (List.mem_of_getElem? (i := 2) rfl))) (mvT hZ (hw _ (List.mem_of_getElem? (i := 3) rfl))) (mvT hZ (hw _ (List.mem_of_getElem? (i := 4) rfl))) (mvT hZ (hw _ (List.mem_of_getElem? (i := 5) rfl))) (by decide) (backOf (W := 0) (rm1 l Z a0 hw [] b1 ((u3 &&& (2147483647 : Int32)) % (6 : Int32)) (((u3 &&& (2147483647 : Int32)) % (6 : Int32)) + ((((u3.toUInt32 >>> ((8 : Int32) &&& 31).toUInt32).toInt32) &&& (2147483647 : Int32)) % (6 : Int32))) k1 [(u0.toInt8.toInt32), ((u0 >>> ((8 : Int32) &&& 31)).toInt8.toInt32), ((u0 >>> ((16 : Int32) &&& 31)).toInt8.toInt32), ((u0 >>> ((24 : Int32) &&& 31)).toInt8.toInt32), (u1.toInt8.toInt32), ((u1 >>> ((8 : Int32) &&& 31)).toInt8.toInt32), ((u1 >>> ((16 : Int32) &&& 31)).toInt8.toInt32), ((u1 >>> ((24 : Int32) &&& 31)).toInt8.toInt32), (u2.toInt8.toInt32), ((u2 >>> ((8 : Int32) &&& 31)).toInt8.toInt32)] (((((u3.toUInt32 >>> ((8 : Int32) &&& 31).toUInt32).toInt32) &&& (2147483647 : Int32)) % (6 : Int32))).toInt.toNat h30 n0 Z30 V30 hfr.1 (by omega) (by omega)) hZ (hw _ (List.mem_of_getElem? (i := 5) rfl)) (hw _ (List.mem_of_getElem? (i := 4) rfl)) (by decide) (by decide)) (g := (mkF m 125 #[iv u0, iv u1, iv u2, iv u3, rv b1, iv ((u3 &&& (2147483647 : Int32)) % (6 : Int32)), iv ((((u3.toUInt32 >>> ((8 : Int32) &&& 31).toUInt32).toInt32) &&& (2147483647 : Int32)) % (6 : Int32)), iv (((u3 &&& (2147483647 : Int32)) % (6 : Int32)) + ((((u3.toUInt32 >>> ((8 : Int32) &&& 31).toUInt32).toInt32) &&& (2147483647 : Int32)) % (6 : Int32))), .unset] [(.int (((u3 &&& (2147483647 : Int32)) % (6 : Int32)) + ((((u3.toUInt32 >>> ((8 : Int32) &&& 31).toUInt32).toInt32) &&& (2147483647 : Int32)) % (6 : Int32)))), (.int ((u3 &&& (2147483647 : Int32)) % (6 : Int32))), (.ref b1)])) rfl (by rw [hml]; rfl) (argsL := [(.ref b1), (.int ((u3 &&& (2147483647 : Int32)) % (6 : Int32))), (.int (((u3 &&& (2147483647 : Int32)) % (6 : Int32)) + ((((u3.toUInt32 >>> ((8 : Int32) &&& 31).toUInt32).toInt32) &&& (2147483647 : Int32)) % (6 : Int32))))]) (rest := []) (lenOf pd_0 rfl) rfl (by show 2 * 0 + _ ≤ _; exact Nat.le_of_eq rfl) (hb hby at_125) (fun _ _ => ⟨rfl, e30, (by decide : 1 + 0 ≤ _), (by decide : 10 + 0 ≤ _)⟩)
  dsimp only [Pt.U, Pt.locs, Pt.cells, Pt.slots] at X32 l32 y32 z32 st32 hQ32
  subst l32 y32 z32
  obtain ⟨rfl, Nq32, eq32⟩ := hQ32
  have N32 := Fr.app N30 Nq32
  obtain ⟨_, _, ⟨T33, L33, k33, n33⟩, -, X33, ⟨Lc33, hQ33, l33, y33, z33⟩, st33⟩ := Jvm.LawKit.callS X32 hx (y := (⟨"com/example/rivanna/rivanna/core/json/TableHashOfBytesPinLaw", "expected", "([BII)I"⟩ : MethodName)) hown (mvT hZ (hw _ (List.mem_of_getElem? (i := 6) rfl))) (mvT hZ (hw _ (List.mem_of_getElem? (i := 7) rfl))) (mvT hZ (hw _ (List.mem_of_getElem? (i := 8) rfl))) (mvT hZ (hw _ (List.mem_of_getElem? (i := 9) rfl))) (by decide) (backOf (W := 1) (rm2 l Z a0 hw [] b1 ((u3 &&& (2147483647 : Int32)) % (6 : Int32)) ((((u3.toUInt32 >>> ((8 : Int32) &&& 31).toUInt32).toInt32) &&& (2147483647 : Int32)) % (6 : Int32)) k1 [(u0.toInt8.toInt32), ((u0 >>> ((8 : Int32) &&& 31)).toInt8.toInt32), ((u0 >>> ((16 : Int32) &&& 31)).toInt8.toInt32), ((u0 >>> ((24 : Int32) &&& 31)).toInt8.toInt32), (u1.toInt8.toInt32), ((u1 >>> ((8 : Int32) &&& 31)).toInt8.toInt32), ((u1 >>> ((16 : Int32) &&& 31)).toInt8.toInt32), ((u1 >>> ((24 : Int32) &&& 31)).toInt8.toInt32), (u2.toInt8.toInt32), ((u2 >>> ((8 : Int32) &&& 31)).toInt8.toInt32)] h30 n0 Z30 V30 hfr.1 hfr.2) hZ (hw _ (List.mem_of_getElem? (i := 9) rfl)) (hw _ (List.mem_of_getElem? (i := 8) rfl)) (by decide) (by decide)) (g := (mkF m 138 #[iv u0, iv u1, iv u2, iv u3, rv b1, iv ((u3 &&& (2147483647 : Int32)) % (6 : Int32)), iv ((((u3.toUInt32 >>> ((8 : Int32) &&& 31).toUInt32).toInt32) &&& (2147483647 : Int32)) % (6 : Int32)), iv (((u3 &&& (2147483647 : Int32)) % (6 : Int32)) + ((((u3.toUInt32 >>> ((8 : Int32) &&& 31).toUInt32).toInt32) &&& (2147483647 : Int32)) % (6 : Int32))), iv (own_h [(u0.toInt8.toInt32), ((u0 >>> ((8 : Int32) &&& 31)).toInt8.toInt32), ((u0 >>> ((16 : Int32) &&& 31)).toInt8.toInt32), ((u0 >>> ((24 : Int32) &&& 31)).toInt8.toInt32), (u1.toInt8.toInt32), ((u1 >>> ((8 : Int32) &&& 31)).toInt8.toInt32), ((u1 >>> ((16 : Int32) &&& 31)).toInt8.toInt32), ((u1 >>> ((24 : Int32) &&& 31)).toInt8.toInt32), (u2.toInt8.toInt32), ((u2 >>> ((8 : Int32) &&& 31)).toInt8.toInt32)] (0 : Int32) ((u3 &&& (2147483647 : Int32)) % (6 : Int32)) (((((u3.toUInt32 >>> ((8 : Int32) &&& 31).toUInt32).toInt32) &&& (2147483647 : Int32)) % (6 : Int32))).toInt.toNat)] [(.int ((((u3.toUInt32 >>> ((8 : Int32) &&& 31).toUInt32).toInt32) &&& (2147483647 : Int32)) % (6 : Int32))), (.int ((u3 &&& (2147483647 : Int32)) % (6 : Int32))), (.ref b1), (.int (own_h [(u0.toInt8.toInt32), ((u0 >>> ((8 : Int32) &&& 31)).toInt8.toInt32), ((u0 >>> ((16 : Int32) &&& 31)).toInt8.toInt32), ((u0 >>> ((24 : Int32) &&& 31)).toInt8.toInt32), (u1.toInt8.toInt32), ((u1 >>> ((8 : Int32) &&& 31)).toInt8.toInt32), ((u1 >>> ((16 : Int32) &&& 31)).toInt8.toInt32), ((u1 >>> ((24 : Int32) &&& 31)).toInt8.toInt32), (u2.toInt8.toInt32), ((u2 >>> ((8 : Int32) &&& 31)).toInt8.toInt32)] (0 : Int32) ((u3 &&& (2147483647 : Int32)) % (6 : Int32)) (((((u3.toUInt32 >>> ((8 : Int32) &&& 31).toUInt32).toInt32) &&& (2147483647 : Int32)) % (6 : Int32))).toInt.toNat))])) rfl (by rw [hml]; rfl) (argsL := [(.ref b1), (.int ((u3 &&& (2147483647 : Int32)) % (6 : Int32))), (.int ((((u3.toUInt32 >>> ((8 : Int32) &&& 31).toUInt32).toInt32) &&& (2147483647 : Int32)) % (6 : Int32)))]) (rest := [(.int (own_h [(u0.toInt8.toInt32), ((u0 >>> ((8 : Int32) &&& 31)).toInt8.toInt32), ((u0 >>> ((16 : Int32) &&& 31)).toInt8.toInt32), ((u0 >>> ((24 : Int32) &&& 31)).toInt8.toInt32), (u1.toInt8.toInt32), ((u1 >>> ((8 : Int32) &&& 31)).toInt8.toInt32), ((u1 >>> ((16 : Int32) &&& 31)).toInt8.toInt32), ((u1 >>> ((24 : Int32) &&& 31)).toInt8.toInt32), (u2.toInt8.toInt32), ((u2 >>> ((8 : Int32) &&& 31)).toInt8.toInt32)] (0 : Int32) ((u3 &&& (2147483647 : Int32)) % (6 : Int32)) (((((u3.toUInt32 >>> ((8 : Int32) &&& 31).toUInt32).toInt32) &&& (2147483647 : Int32)) % (6 : Int32))).toInt.toNat))]) (lenOf pd_0 rfl) rfl (by show 2 * 0 + _ ≤ _; exact Nat.le_of_eq rfl) (hb hby at_138) (fun _ _ => ⟨rfl, eq32, (by decide : 1 + 0 ≤ _), (by decide : 10 + 0 ≤ _)⟩)
  dsimp only [Pt.U, Pt.locs, Pt.cells, Pt.slots] at X33 l33 y33 z33 st33 hQ33
  subst l33 y33 z33
  obtain ⟨rfl, Nq33, eq33⟩ := hQ33
  have N33 := Fr.app N32 Nq33
  obtain ⟨fs, hr, hrun, hended, hW, hsame⟩ := X33.leave (v := some (.int (1 : Int32))) (fun h => by rw [Bd.returns] at h; cases h)
  refine ⟨_, _, S0 _ ?_, hrun, hended, _, _, rfl, ?_, ⟨_, rfl⟩, hW, hsame.mono (by decide) (by decide)⟩
  · skip
    show Steps p.tables e below (s₁.setTop (mkF m 0 #[iv u0, iv u1, iv u2, iv u3, .unset, .unset, .unset, .unset, .unset] [])) _
    refine XS.bipush X0.here hx rfl (hb hby at_0) ?_
    show Steps p.tables e below (s₁.setTop (mkF m 2 #[iv u0, iv u1, iv u2, iv u3, .unset, .unset, .unset, .unset, .unset] [(.int (10 : Int32))])) _
    refine st1 _ ?_
    show Steps p.tables e below (T1.setTop (mkF m 4 #[iv u0, iv u1, iv u2, iv u3, .unset, .unset, .unset, .unset, .unset] [(.ref b1)])) _
    refine XS.astore X1.here hx rfl (hb hby at_4) rfl rfl (l' := #[iv u0, iv u1, iv u2, iv u3, rv b1, .unset, .unset, .unset, .unset]) rfl ?_
    show Steps p.tables e below (T1.setTop (mkF m 6 #[iv u0, iv u1, iv u2, iv u3, rv b1, .unset, .unset, .unset, .unset] [])) _
    refine XS.aload X1.here hx rfl (hb hby at_6) rfl rfl ?_
    show Steps p.tables e below (T1.setTop (mkF m 8 #[iv u0, iv u1, iv u2, iv u3, rv b1, .unset, .unset, .unset, .unset] [(.ref b1)])) _
    refine XS.iconst X1.here hx rfl (hb hby at_8) ?_
    show Steps p.tables e below (T1.setTop (mkF m 9 #[iv u0, iv u1, iv u2, iv u3, rv b1, .unset, .unset, .unset, .unset] [(.int (0 : Int32)), (.ref b1)])) _
    refine XS.iloadN X1.here hx rfl (hb hby at_9) rfl ?_
    show Steps p.tables e below (T1.setTop (mkF m 10 #[iv u0, iv u1, iv u2, iv u3, rv b1, .unset, .unset, .unset, .unset] [(.int u0), (.int (0 : Int32)), (.ref b1)])) _
    refine XS.i2b X1.here hx rfl (hb hby at_10) rfl ?_
    show Steps p.tables e below (T1.setTop (mkF m 11 #[iv u0, iv u1, iv u2, iv u3, rv b1, .unset, .unset, .unset, .unset] [(.int (u0.toInt8.toInt32)), (.int (0 : Int32)), (.ref b1)])) _
    refine st3 _ ?_
    show Steps p.tables e below (T3.setTop (mkF m 12 #[iv u0, iv u1, iv u2, iv u3, rv b1, .unset, .unset, .unset, .unset] [])) _
    refine XS.aload X3.here hx rfl (hb hby at_12) rfl rfl ?_
    show Steps p.tables e below (T3.setTop (mkF m 14 #[iv u0, iv u1, iv u2, iv u3, rv b1, .unset, .unset, .unset, .unset] [(.ref b1)])) _
    refine XS.iconst X3.here hx rfl (hb hby at_14) ?_
    show Steps p.tables e below (T3.setTop (mkF m 15 #[iv u0, iv u1, iv u2, iv u3, rv b1, .unset, .unset, .unset, .unset] [(.int (1 : Int32)), (.ref b1)])) _
    refine XS.iloadN X3.here hx rfl (hb hby at_15) rfl ?_
    show Steps p.tables e below (T3.setTop (mkF m 16 #[iv u0, iv u1, iv u2, iv u3, rv b1, .unset, .unset, .unset, .unset] [(.int u0), (.int (1 : Int32)), (.ref b1)])) _
    refine XS.bipush X3.here hx rfl (hb hby at_16) ?_
    show Steps p.tables e below (T3.setTop (mkF m 18 #[iv u0, iv u1, iv u2, iv u3, rv b1, .unset, .unset, .unset, .unset] [(.int (8 : Int32)), (.int u0), (.int (1 : Int32)), (.ref b1)])) _
    refine XS.ishr X3.here hx rfl (hb hby at_18) rfl ?_
    show Steps p.tables e below (T3.setTop (mkF m 19 #[iv u0, iv u1, iv u2, iv u3, rv b1, .unset, .unset, .unset, .unset] [(.int (u0 >>> ((8 : Int32) &&& 31))), (.int (1 : Int32)), (.ref b1)])) _
    refine XS.i2b X3.here hx rfl (hb hby at_19) rfl ?_
    show Steps p.tables e below (T3.setTop (mkF m 20 #[iv u0, iv u1, iv u2, iv u3, rv b1, .unset, .unset, .unset, .unset] [(.int ((u0 >>> ((8 : Int32) &&& 31)).toInt8.toInt32)), (.int (1 : Int32)), (.ref b1)])) _
    refine st6 _ ?_
    show Steps p.tables e below (T6.setTop (mkF m 21 #[iv u0, iv u1, iv u2, iv u3, rv b1, .unset, .unset, .unset, .unset] [])) _
    refine XS.aload X6.here hx rfl (hb hby at_21) rfl rfl ?_
    show Steps p.tables e below (T6.setTop (mkF m 23 #[iv u0, iv u1, iv u2, iv u3, rv b1, .unset, .unset, .unset, .unset] [(.ref b1)])) _
    refine XS.iconst X6.here hx rfl (hb hby at_23) ?_
    show Steps p.tables e below (T6.setTop (mkF m 24 #[iv u0, iv u1, iv u2, iv u3, rv b1, .unset, .unset, .unset, .unset] [(.int (2 : Int32)), (.ref b1)])) _
    refine XS.iloadN X6.here hx rfl (hb hby at_24) rfl ?_
    show Steps p.tables e below (T6.setTop (mkF m 25 #[iv u0, iv u1, iv u2, iv u3, rv b1, .unset, .unset, .unset, .unset] [(.int u0), (.int (2 : Int32)), (.ref b1)])) _
    refine XS.bipush X6.here hx rfl (hb hby at_25) ?_
    show Steps p.tables e below (T6.setTop (mkF m 27 #[iv u0, iv u1, iv u2, iv u3, rv b1, .unset, .unset, .unset, .unset] [(.int (16 : Int32)), (.int u0), (.int (2 : Int32)), (.ref b1)])) _
    refine XS.ishr X6.here hx rfl (hb hby at_27) rfl ?_
    show Steps p.tables e below (T6.setTop (mkF m 28 #[iv u0, iv u1, iv u2, iv u3, rv b1, .unset, .unset, .unset, .unset] [(.int (u0 >>> ((16 : Int32) &&& 31))), (.int (2 : Int32)), (.ref b1)])) _
    refine XS.i2b X6.here hx rfl (hb hby at_28) rfl ?_
    show Steps p.tables e below (T6.setTop (mkF m 29 #[iv u0, iv u1, iv u2, iv u3, rv b1, .unset, .unset, .unset, .unset] [(.int ((u0 >>> ((16 : Int32) &&& 31)).toInt8.toInt32)), (.int (2 : Int32)), (.ref b1)])) _
    refine st9 _ ?_
    show Steps p.tables e below (T9.setTop (mkF m 30 #[iv u0, iv u1, iv u2, iv u3, rv b1, .unset, .unset, .unset, .unset] [])) _
    refine XS.aload X9.here hx rfl (hb hby at_30) rfl rfl ?_
    show Steps p.tables e below (T9.setTop (mkF m 32 #[iv u0, iv u1, iv u2, iv u3, rv b1, .unset, .unset, .unset, .unset] [(.ref b1)])) _
    refine XS.iconst X9.here hx rfl (hb hby at_32) ?_
    show Steps p.tables e below (T9.setTop (mkF m 33 #[iv u0, iv u1, iv u2, iv u3, rv b1, .unset, .unset, .unset, .unset] [(.int (3 : Int32)), (.ref b1)])) _
    refine XS.iloadN X9.here hx rfl (hb hby at_33) rfl ?_
    show Steps p.tables e below (T9.setTop (mkF m 34 #[iv u0, iv u1, iv u2, iv u3, rv b1, .unset, .unset, .unset, .unset] [(.int u0), (.int (3 : Int32)), (.ref b1)])) _
    refine XS.bipush X9.here hx rfl (hb hby at_34) ?_
    show Steps p.tables e below (T9.setTop (mkF m 36 #[iv u0, iv u1, iv u2, iv u3, rv b1, .unset, .unset, .unset, .unset] [(.int (24 : Int32)), (.int u0), (.int (3 : Int32)), (.ref b1)])) _
    refine XS.ishr X9.here hx rfl (hb hby at_36) rfl ?_
    show Steps p.tables e below (T9.setTop (mkF m 37 #[iv u0, iv u1, iv u2, iv u3, rv b1, .unset, .unset, .unset, .unset] [(.int (u0 >>> ((24 : Int32) &&& 31))), (.int (3 : Int32)), (.ref b1)])) _
    refine XS.i2b X9.here hx rfl (hb hby at_37) rfl ?_
    show Steps p.tables e below (T9.setTop (mkF m 38 #[iv u0, iv u1, iv u2, iv u3, rv b1, .unset, .unset, .unset, .unset] [(.int ((u0 >>> ((24 : Int32) &&& 31)).toInt8.toInt32)), (.int (3 : Int32)), (.ref b1)])) _
    refine st12 _ ?_
    show Steps p.tables e below (T12.setTop (mkF m 39 #[iv u0, iv u1, iv u2, iv u3, rv b1, .unset, .unset, .unset, .unset] [])) _
    refine XS.aload X12.here hx rfl (hb hby at_39) rfl rfl ?_
    show Steps p.tables e below (T12.setTop (mkF m 41 #[iv u0, iv u1, iv u2, iv u3, rv b1, .unset, .unset, .unset, .unset] [(.ref b1)])) _
    refine XS.iconst X12.here hx rfl (hb hby at_41) ?_
    show Steps p.tables e below (T12.setTop (mkF m 42 #[iv u0, iv u1, iv u2, iv u3, rv b1, .unset, .unset, .unset, .unset] [(.int (4 : Int32)), (.ref b1)])) _
    refine XS.iloadN X12.here hx rfl (hb hby at_42) rfl ?_
    show Steps p.tables e below (T12.setTop (mkF m 43 #[iv u0, iv u1, iv u2, iv u3, rv b1, .unset, .unset, .unset, .unset] [(.int u1), (.int (4 : Int32)), (.ref b1)])) _
    refine XS.i2b X12.here hx rfl (hb hby at_43) rfl ?_
    show Steps p.tables e below (T12.setTop (mkF m 44 #[iv u0, iv u1, iv u2, iv u3, rv b1, .unset, .unset, .unset, .unset] [(.int (u1.toInt8.toInt32)), (.int (4 : Int32)), (.ref b1)])) _
    refine st15 _ ?_
    show Steps p.tables e below (T15.setTop (mkF m 45 #[iv u0, iv u1, iv u2, iv u3, rv b1, .unset, .unset, .unset, .unset] [])) _
    refine XS.aload X15.here hx rfl (hb hby at_45) rfl rfl ?_
    show Steps p.tables e below (T15.setTop (mkF m 47 #[iv u0, iv u1, iv u2, iv u3, rv b1, .unset, .unset, .unset, .unset] [(.ref b1)])) _
    refine XS.iconst X15.here hx rfl (hb hby at_47) ?_
    show Steps p.tables e below (T15.setTop (mkF m 48 #[iv u0, iv u1, iv u2, iv u3, rv b1, .unset, .unset, .unset, .unset] [(.int (5 : Int32)), (.ref b1)])) _
    refine XS.iloadN X15.here hx rfl (hb hby at_48) rfl ?_
    show Steps p.tables e below (T15.setTop (mkF m 49 #[iv u0, iv u1, iv u2, iv u3, rv b1, .unset, .unset, .unset, .unset] [(.int u1), (.int (5 : Int32)), (.ref b1)])) _
    refine XS.bipush X15.here hx rfl (hb hby at_49) ?_
    show Steps p.tables e below (T15.setTop (mkF m 51 #[iv u0, iv u1, iv u2, iv u3, rv b1, .unset, .unset, .unset, .unset] [(.int (8 : Int32)), (.int u1), (.int (5 : Int32)), (.ref b1)])) _
    refine XS.ishr X15.here hx rfl (hb hby at_51) rfl ?_
    show Steps p.tables e below (T15.setTop (mkF m 52 #[iv u0, iv u1, iv u2, iv u3, rv b1, .unset, .unset, .unset, .unset] [(.int (u1 >>> ((8 : Int32) &&& 31))), (.int (5 : Int32)), (.ref b1)])) _
    refine XS.i2b X15.here hx rfl (hb hby at_52) rfl ?_
    show Steps p.tables e below (T15.setTop (mkF m 53 #[iv u0, iv u1, iv u2, iv u3, rv b1, .unset, .unset, .unset, .unset] [(.int ((u1 >>> ((8 : Int32) &&& 31)).toInt8.toInt32)), (.int (5 : Int32)), (.ref b1)])) _
    refine st18 _ ?_
    show Steps p.tables e below (T18.setTop (mkF m 54 #[iv u0, iv u1, iv u2, iv u3, rv b1, .unset, .unset, .unset, .unset] [])) _
    refine XS.aload X18.here hx rfl (hb hby at_54) rfl rfl ?_
    show Steps p.tables e below (T18.setTop (mkF m 56 #[iv u0, iv u1, iv u2, iv u3, rv b1, .unset, .unset, .unset, .unset] [(.ref b1)])) _
    refine XS.bipush X18.here hx rfl (hb hby at_56) ?_
    show Steps p.tables e below (T18.setTop (mkF m 58 #[iv u0, iv u1, iv u2, iv u3, rv b1, .unset, .unset, .unset, .unset] [(.int (6 : Int32)), (.ref b1)])) _
    refine XS.iloadN X18.here hx rfl (hb hby at_58) rfl ?_
    show Steps p.tables e below (T18.setTop (mkF m 59 #[iv u0, iv u1, iv u2, iv u3, rv b1, .unset, .unset, .unset, .unset] [(.int u1), (.int (6 : Int32)), (.ref b1)])) _
    refine XS.bipush X18.here hx rfl (hb hby at_59) ?_
    show Steps p.tables e below (T18.setTop (mkF m 61 #[iv u0, iv u1, iv u2, iv u3, rv b1, .unset, .unset, .unset, .unset] [(.int (16 : Int32)), (.int u1), (.int (6 : Int32)), (.ref b1)])) _
    refine XS.ishr X18.here hx rfl (hb hby at_61) rfl ?_
    show Steps p.tables e below (T18.setTop (mkF m 62 #[iv u0, iv u1, iv u2, iv u3, rv b1, .unset, .unset, .unset, .unset] [(.int (u1 >>> ((16 : Int32) &&& 31))), (.int (6 : Int32)), (.ref b1)])) _
    refine XS.i2b X18.here hx rfl (hb hby at_62) rfl ?_
    show Steps p.tables e below (T18.setTop (mkF m 63 #[iv u0, iv u1, iv u2, iv u3, rv b1, .unset, .unset, .unset, .unset] [(.int ((u1 >>> ((16 : Int32) &&& 31)).toInt8.toInt32)), (.int (6 : Int32)), (.ref b1)])) _
    refine st21 _ ?_
    show Steps p.tables e below (T21.setTop (mkF m 64 #[iv u0, iv u1, iv u2, iv u3, rv b1, .unset, .unset, .unset, .unset] [])) _
    refine XS.aload X21.here hx rfl (hb hby at_64) rfl rfl ?_
    show Steps p.tables e below (T21.setTop (mkF m 66 #[iv u0, iv u1, iv u2, iv u3, rv b1, .unset, .unset, .unset, .unset] [(.ref b1)])) _
    refine XS.bipush X21.here hx rfl (hb hby at_66) ?_
    show Steps p.tables e below (T21.setTop (mkF m 68 #[iv u0, iv u1, iv u2, iv u3, rv b1, .unset, .unset, .unset, .unset] [(.int (7 : Int32)), (.ref b1)])) _
    refine XS.iloadN X21.here hx rfl (hb hby at_68) rfl ?_
    show Steps p.tables e below (T21.setTop (mkF m 69 #[iv u0, iv u1, iv u2, iv u3, rv b1, .unset, .unset, .unset, .unset] [(.int u1), (.int (7 : Int32)), (.ref b1)])) _
    refine XS.bipush X21.here hx rfl (hb hby at_69) ?_
    show Steps p.tables e below (T21.setTop (mkF m 71 #[iv u0, iv u1, iv u2, iv u3, rv b1, .unset, .unset, .unset, .unset] [(.int (24 : Int32)), (.int u1), (.int (7 : Int32)), (.ref b1)])) _
    refine XS.ishr X21.here hx rfl (hb hby at_71) rfl ?_
    show Steps p.tables e below (T21.setTop (mkF m 72 #[iv u0, iv u1, iv u2, iv u3, rv b1, .unset, .unset, .unset, .unset] [(.int (u1 >>> ((24 : Int32) &&& 31))), (.int (7 : Int32)), (.ref b1)])) _
    refine XS.i2b X21.here hx rfl (hb hby at_72) rfl ?_
    show Steps p.tables e below (T21.setTop (mkF m 73 #[iv u0, iv u1, iv u2, iv u3, rv b1, .unset, .unset, .unset, .unset] [(.int ((u1 >>> ((24 : Int32) &&& 31)).toInt8.toInt32)), (.int (7 : Int32)), (.ref b1)])) _
    refine st24 _ ?_
    show Steps p.tables e below (T24.setTop (mkF m 74 #[iv u0, iv u1, iv u2, iv u3, rv b1, .unset, .unset, .unset, .unset] [])) _
    refine XS.aload X24.here hx rfl (hb hby at_74) rfl rfl ?_
    show Steps p.tables e below (T24.setTop (mkF m 76 #[iv u0, iv u1, iv u2, iv u3, rv b1, .unset, .unset, .unset, .unset] [(.ref b1)])) _
    refine XS.bipush X24.here hx rfl (hb hby at_76) ?_
    show Steps p.tables e below (T24.setTop (mkF m 78 #[iv u0, iv u1, iv u2, iv u3, rv b1, .unset, .unset, .unset, .unset] [(.int (8 : Int32)), (.ref b1)])) _
    refine XS.iloadN X24.here hx rfl (hb hby at_78) rfl ?_
    show Steps p.tables e below (T24.setTop (mkF m 79 #[iv u0, iv u1, iv u2, iv u3, rv b1, .unset, .unset, .unset, .unset] [(.int u2), (.int (8 : Int32)), (.ref b1)])) _
    refine XS.i2b X24.here hx rfl (hb hby at_79) rfl ?_
    show Steps p.tables e below (T24.setTop (mkF m 80 #[iv u0, iv u1, iv u2, iv u3, rv b1, .unset, .unset, .unset, .unset] [(.int (u2.toInt8.toInt32)), (.int (8 : Int32)), (.ref b1)])) _
    refine st27 _ ?_
    show Steps p.tables e below (T27.setTop (mkF m 81 #[iv u0, iv u1, iv u2, iv u3, rv b1, .unset, .unset, .unset, .unset] [])) _
    refine XS.aload X27.here hx rfl (hb hby at_81) rfl rfl ?_
    show Steps p.tables e below (T27.setTop (mkF m 83 #[iv u0, iv u1, iv u2, iv u3, rv b1, .unset, .unset, .unset, .unset] [(.ref b1)])) _
    refine XS.bipush X27.here hx rfl (hb hby at_83) ?_
    show Steps p.tables e below (T27.setTop (mkF m 85 #[iv u0, iv u1, iv u2, iv u3, rv b1, .unset, .unset, .unset, .unset] [(.int (9 : Int32)), (.ref b1)])) _
    refine XS.iloadN X27.here hx rfl (hb hby at_85) rfl ?_
    show Steps p.tables e below (T27.setTop (mkF m 86 #[iv u0, iv u1, iv u2, iv u3, rv b1, .unset, .unset, .unset, .unset] [(.int u2), (.int (9 : Int32)), (.ref b1)])) _
    refine XS.bipush X27.here hx rfl (hb hby at_86) ?_
    show Steps p.tables e below (T27.setTop (mkF m 88 #[iv u0, iv u1, iv u2, iv u3, rv b1, .unset, .unset, .unset, .unset] [(.int (8 : Int32)), (.int u2), (.int (9 : Int32)), (.ref b1)])) _
    refine XS.ishr X27.here hx rfl (hb hby at_88) rfl ?_
    show Steps p.tables e below (T27.setTop (mkF m 89 #[iv u0, iv u1, iv u2, iv u3, rv b1, .unset, .unset, .unset, .unset] [(.int (u2 >>> ((8 : Int32) &&& 31))), (.int (9 : Int32)), (.ref b1)])) _
    refine XS.i2b X27.here hx rfl (hb hby at_89) rfl ?_
    show Steps p.tables e below (T27.setTop (mkF m 90 #[iv u0, iv u1, iv u2, iv u3, rv b1, .unset, .unset, .unset, .unset] [(.int ((u2 >>> ((8 : Int32) &&& 31)).toInt8.toInt32)), (.int (9 : Int32)), (.ref b1)])) _
    refine st30 _ ?_
    show Steps p.tables e below (T30.setTop (mkF m 91 #[iv u0, iv u1, iv u2, iv u3, rv b1, .unset, .unset, .unset, .unset] [])) _
    refine XS.iloadN X30.here hx rfl (hb hby at_91) rfl ?_
    show Steps p.tables e below (T30.setTop (mkF m 92 #[iv u0, iv u1, iv u2, iv u3, rv b1, .unset, .unset, .unset, .unset] [(.int u3)])) _
    refine X30.ldcInt hx hown (mvT hZ (hw _ (List.mem_of_getElem? (i := 1) rfl))) (g := (mkF m 92 #[iv u0, iv u1, iv u2, iv u3, rv b1, .unset, .unset, .unset, .unset] [(.int u3)])) rfl (hb hby at_92) _ ?_
    show Steps p.tables e below (T30.setTop (mkF m 94 #[iv u0, iv u1, iv u2, iv u3, rv b1, .unset, .unset, .unset, .unset] [(.int (2147483647 : Int32)), (.int u3)])) _
    refine XS.iand X30.here hx rfl (hb hby at_94) rfl ?_
    show Steps p.tables e below (T30.setTop (mkF m 95 #[iv u0, iv u1, iv u2, iv u3, rv b1, .unset, .unset, .unset, .unset] [(.int (u3 &&& (2147483647 : Int32)))])) _
    refine XS.bipush X30.here hx rfl (hb hby at_95) ?_
    show Steps p.tables e below (T30.setTop (mkF m 97 #[iv u0, iv u1, iv u2, iv u3, rv b1, .unset, .unset, .unset, .unset] [(.int (6 : Int32)), (.int (u3 &&& (2147483647 : Int32)))])) _
    refine iremM X30 hx rfl (hb hby at_97) rfl (by decide) ?_
    show Steps p.tables e below (T30.setTop (mkF m 98 #[iv u0, iv u1, iv u2, iv u3, rv b1, .unset, .unset, .unset, .unset] [(.int ((u3 &&& (2147483647 : Int32)) % (6 : Int32)))])) _
    refine XS.istore X30.here hx rfl (hb hby at_98) rfl (l' := #[iv u0, iv u1, iv u2, iv u3, rv b1, iv ((u3 &&& (2147483647 : Int32)) % (6 : Int32)), .unset, .unset, .unset]) rfl ?_
    show Steps p.tables e below (T30.setTop (mkF m 100 #[iv u0, iv u1, iv u2, iv u3, rv b1, iv ((u3 &&& (2147483647 : Int32)) % (6 : Int32)), .unset, .unset, .unset] [])) _
    refine XS.iloadN X30.here hx rfl (hb hby at_100) rfl ?_
    show Steps p.tables e below (T30.setTop (mkF m 101 #[iv u0, iv u1, iv u2, iv u3, rv b1, iv ((u3 &&& (2147483647 : Int32)) % (6 : Int32)), .unset, .unset, .unset] [(.int u3)])) _
    refine XS.bipush X30.here hx rfl (hb hby at_101) ?_
    show Steps p.tables e below (T30.setTop (mkF m 103 #[iv u0, iv u1, iv u2, iv u3, rv b1, iv ((u3 &&& (2147483647 : Int32)) % (6 : Int32)), .unset, .unset, .unset] [(.int (8 : Int32)), (.int u3)])) _
    refine XS.iushr X30.here hx rfl (hb hby at_103) rfl ?_
    show Steps p.tables e below (T30.setTop (mkF m 104 #[iv u0, iv u1, iv u2, iv u3, rv b1, iv ((u3 &&& (2147483647 : Int32)) % (6 : Int32)), .unset, .unset, .unset] [(.int ((u3.toUInt32 >>> ((8 : Int32) &&& 31).toUInt32).toInt32))])) _
    refine X30.ldcInt hx hown (mvT hZ (hw _ (List.mem_of_getElem? (i := 1) rfl))) (g := (mkF m 104 #[iv u0, iv u1, iv u2, iv u3, rv b1, iv ((u3 &&& (2147483647 : Int32)) % (6 : Int32)), .unset, .unset, .unset] [(.int ((u3.toUInt32 >>> ((8 : Int32) &&& 31).toUInt32).toInt32))])) rfl (hb hby at_104) _ ?_
    show Steps p.tables e below (T30.setTop (mkF m 106 #[iv u0, iv u1, iv u2, iv u3, rv b1, iv ((u3 &&& (2147483647 : Int32)) % (6 : Int32)), .unset, .unset, .unset] [(.int (2147483647 : Int32)), (.int ((u3.toUInt32 >>> ((8 : Int32) &&& 31).toUInt32).toInt32))])) _
    refine XS.iand X30.here hx rfl (hb hby at_106) rfl ?_
    show Steps p.tables e below (T30.setTop (mkF m 107 #[iv u0, iv u1, iv u2, iv u3, rv b1, iv ((u3 &&& (2147483647 : Int32)) % (6 : Int32)), .unset, .unset, .unset] [(.int (((u3.toUInt32 >>> ((8 : Int32) &&& 31).toUInt32).toInt32) &&& (2147483647 : Int32)))])) _
    refine XS.bipush X30.here hx rfl (hb hby at_107) ?_
    show Steps p.tables e below (T30.setTop (mkF m 109 #[iv u0, iv u1, iv u2, iv u3, rv b1, iv ((u3 &&& (2147483647 : Int32)) % (6 : Int32)), .unset, .unset, .unset] [(.int (6 : Int32)), (.int (((u3.toUInt32 >>> ((8 : Int32) &&& 31).toUInt32).toInt32) &&& (2147483647 : Int32)))])) _
    refine iremM X30 hx rfl (hb hby at_109) rfl (by decide) ?_
    show Steps p.tables e below (T30.setTop (mkF m 110 #[iv u0, iv u1, iv u2, iv u3, rv b1, iv ((u3 &&& (2147483647 : Int32)) % (6 : Int32)), .unset, .unset, .unset] [(.int ((((u3.toUInt32 >>> ((8 : Int32) &&& 31).toUInt32).toInt32) &&& (2147483647 : Int32)) % (6 : Int32)))])) _
    refine XS.istore X30.here hx rfl (hb hby at_110) rfl (l' := #[iv u0, iv u1, iv u2, iv u3, rv b1, iv ((u3 &&& (2147483647 : Int32)) % (6 : Int32)), iv ((((u3.toUInt32 >>> ((8 : Int32) &&& 31).toUInt32).toInt32) &&& (2147483647 : Int32)) % (6 : Int32)), .unset, .unset]) rfl ?_
    show Steps p.tables e below (T30.setTop (mkF m 112 #[iv u0, iv u1, iv u2, iv u3, rv b1, iv ((u3 &&& (2147483647 : Int32)) % (6 : Int32)), iv ((((u3.toUInt32 >>> ((8 : Int32) &&& 31).toUInt32).toInt32) &&& (2147483647 : Int32)) % (6 : Int32)), .unset, .unset] [])) _
    refine XS.iload X30.here hx rfl (hb hby at_112) rfl ?_
    show Steps p.tables e below (T30.setTop (mkF m 114 #[iv u0, iv u1, iv u2, iv u3, rv b1, iv ((u3 &&& (2147483647 : Int32)) % (6 : Int32)), iv ((((u3.toUInt32 >>> ((8 : Int32) &&& 31).toUInt32).toInt32) &&& (2147483647 : Int32)) % (6 : Int32)), .unset, .unset] [(.int ((u3 &&& (2147483647 : Int32)) % (6 : Int32)))])) _
    refine XS.iload X30.here hx rfl (hb hby at_114) rfl ?_
    show Steps p.tables e below (T30.setTop (mkF m 116 #[iv u0, iv u1, iv u2, iv u3, rv b1, iv ((u3 &&& (2147483647 : Int32)) % (6 : Int32)), iv ((((u3.toUInt32 >>> ((8 : Int32) &&& 31).toUInt32).toInt32) &&& (2147483647 : Int32)) % (6 : Int32)), .unset, .unset] [(.int ((((u3.toUInt32 >>> ((8 : Int32) &&& 31).toUInt32).toInt32) &&& (2147483647 : Int32)) % (6 : Int32))), (.int ((u3 &&& (2147483647 : Int32)) % (6 : Int32)))])) _
    refine XS.iadd X30.here hx rfl (hb hby at_116) rfl ?_
    show Steps p.tables e below (T30.setTop (mkF m 117 #[iv u0, iv u1, iv u2, iv u3, rv b1, iv ((u3 &&& (2147483647 : Int32)) % (6 : Int32)), iv ((((u3.toUInt32 >>> ((8 : Int32) &&& 31).toUInt32).toInt32) &&& (2147483647 : Int32)) % (6 : Int32)), .unset, .unset] [(.int (((u3 &&& (2147483647 : Int32)) % (6 : Int32)) + ((((u3.toUInt32 >>> ((8 : Int32) &&& 31).toUInt32).toInt32) &&& (2147483647 : Int32)) % (6 : Int32))))])) _
    refine XS.istore X30.here hx rfl (hb hby at_117) rfl (l' := #[iv u0, iv u1, iv u2, iv u3, rv b1, iv ((u3 &&& (2147483647 : Int32)) % (6 : Int32)), iv ((((u3.toUInt32 >>> ((8 : Int32) &&& 31).toUInt32).toInt32) &&& (2147483647 : Int32)) % (6 : Int32)), iv (((u3 &&& (2147483647 : Int32)) % (6 : Int32)) + ((((u3.toUInt32 >>> ((8 : Int32) &&& 31).toUInt32).toInt32) &&& (2147483647 : Int32)) % (6 : Int32))), .unset]) rfl ?_
    show Steps p.tables e below (T30.setTop (mkF m 119 #[iv u0, iv u1, iv u2, iv u3, rv b1, iv ((u3 &&& (2147483647 : Int32)) % (6 : Int32)), iv ((((u3.toUInt32 >>> ((8 : Int32) &&& 31).toUInt32).toInt32) &&& (2147483647 : Int32)) % (6 : Int32)), iv (((u3 &&& (2147483647 : Int32)) % (6 : Int32)) + ((((u3.toUInt32 >>> ((8 : Int32) &&& 31).toUInt32).toInt32) &&& (2147483647 : Int32)) % (6 : Int32))), .unset] [])) _
    refine XS.aload X30.here hx rfl (hb hby at_119) rfl rfl ?_
    show Steps p.tables e below (T30.setTop (mkF m 121 #[iv u0, iv u1, iv u2, iv u3, rv b1, iv ((u3 &&& (2147483647 : Int32)) % (6 : Int32)), iv ((((u3.toUInt32 >>> ((8 : Int32) &&& 31).toUInt32).toInt32) &&& (2147483647 : Int32)) % (6 : Int32)), iv (((u3 &&& (2147483647 : Int32)) % (6 : Int32)) + ((((u3.toUInt32 >>> ((8 : Int32) &&& 31).toUInt32).toInt32) &&& (2147483647 : Int32)) % (6 : Int32))), .unset] [(.ref b1)])) _
    refine XS.iload X30.here hx rfl (hb hby at_121) rfl ?_
    show Steps p.tables e below (T30.setTop (mkF m 123 #[iv u0, iv u1, iv u2, iv u3, rv b1, iv ((u3 &&& (2147483647 : Int32)) % (6 : Int32)), iv ((((u3.toUInt32 >>> ((8 : Int32) &&& 31).toUInt32).toInt32) &&& (2147483647 : Int32)) % (6 : Int32)), iv (((u3 &&& (2147483647 : Int32)) % (6 : Int32)) + ((((u3.toUInt32 >>> ((8 : Int32) &&& 31).toUInt32).toInt32) &&& (2147483647 : Int32)) % (6 : Int32))), .unset] [(.int ((u3 &&& (2147483647 : Int32)) % (6 : Int32))), (.ref b1)])) _
    refine XS.iload X30.here hx rfl (hb hby at_123) rfl ?_
    show Steps p.tables e below (T30.setTop (mkF m 125 #[iv u0, iv u1, iv u2, iv u3, rv b1, iv ((u3 &&& (2147483647 : Int32)) % (6 : Int32)), iv ((((u3.toUInt32 >>> ((8 : Int32) &&& 31).toUInt32).toInt32) &&& (2147483647 : Int32)) % (6 : Int32)), iv (((u3 &&& (2147483647 : Int32)) % (6 : Int32)) + ((((u3.toUInt32 >>> ((8 : Int32) &&& 31).toUInt32).toInt32) &&& (2147483647 : Int32)) % (6 : Int32))), .unset] [(.int (((u3 &&& (2147483647 : Int32)) % (6 : Int32)) + ((((u3.toUInt32 >>> ((8 : Int32) &&& 31).toUInt32).toInt32) &&& (2147483647 : Int32)) % (6 : Int32)))), (.int ((u3 &&& (2147483647 : Int32)) % (6 : Int32))), (.ref b1)])) _
    refine st32 _ ?_
    show Steps p.tables e below (T32.setTop (mkF m 128 #[iv u0, iv u1, iv u2, iv u3, rv b1, iv ((u3 &&& (2147483647 : Int32)) % (6 : Int32)), iv ((((u3.toUInt32 >>> ((8 : Int32) &&& 31).toUInt32).toInt32) &&& (2147483647 : Int32)) % (6 : Int32)), iv (((u3 &&& (2147483647 : Int32)) % (6 : Int32)) + ((((u3.toUInt32 >>> ((8 : Int32) &&& 31).toUInt32).toInt32) &&& (2147483647 : Int32)) % (6 : Int32))), .unset] [(.int (own_h [(u0.toInt8.toInt32), ((u0 >>> ((8 : Int32) &&& 31)).toInt8.toInt32), ((u0 >>> ((16 : Int32) &&& 31)).toInt8.toInt32), ((u0 >>> ((24 : Int32) &&& 31)).toInt8.toInt32), (u1.toInt8.toInt32), ((u1 >>> ((8 : Int32) &&& 31)).toInt8.toInt32), ((u1 >>> ((16 : Int32) &&& 31)).toInt8.toInt32), ((u1 >>> ((24 : Int32) &&& 31)).toInt8.toInt32), (u2.toInt8.toInt32), ((u2 >>> ((8 : Int32) &&& 31)).toInt8.toInt32)] (0 : Int32) ((u3 &&& (2147483647 : Int32)) % (6 : Int32)) (((((u3.toUInt32 >>> ((8 : Int32) &&& 31).toUInt32).toInt32) &&& (2147483647 : Int32)) % (6 : Int32))).toInt.toNat))])) _
    refine XS.istore X32.here hx rfl (hb hby at_128) rfl (l' := #[iv u0, iv u1, iv u2, iv u3, rv b1, iv ((u3 &&& (2147483647 : Int32)) % (6 : Int32)), iv ((((u3.toUInt32 >>> ((8 : Int32) &&& 31).toUInt32).toInt32) &&& (2147483647 : Int32)) % (6 : Int32)), iv (((u3 &&& (2147483647 : Int32)) % (6 : Int32)) + ((((u3.toUInt32 >>> ((8 : Int32) &&& 31).toUInt32).toInt32) &&& (2147483647 : Int32)) % (6 : Int32))), iv (own_h [(u0.toInt8.toInt32), ((u0 >>> ((8 : Int32) &&& 31)).toInt8.toInt32), ((u0 >>> ((16 : Int32) &&& 31)).toInt8.toInt32), ((u0 >>> ((24 : Int32) &&& 31)).toInt8.toInt32), (u1.toInt8.toInt32), ((u1 >>> ((8 : Int32) &&& 31)).toInt8.toInt32), ((u1 >>> ((16 : Int32) &&& 31)).toInt8.toInt32), ((u1 >>> ((24 : Int32) &&& 31)).toInt8.toInt32), (u2.toInt8.toInt32), ((u2 >>> ((8 : Int32) &&& 31)).toInt8.toInt32)] (0 : Int32) ((u3 &&& (2147483647 : Int32)) % (6 : Int32)) (((((u3.toUInt32 >>> ((8 : Int32) &&& 31).toUInt32).toInt32) &&& (2147483647 : Int32)) % (6 : Int32))).toInt.toNat)]) rfl ?_
    show Steps p.tables e below (T32.setTop (mkF m 130 #[iv u0, iv u1, iv u2, iv u3, rv b1, iv ((u3 &&& (2147483647 : Int32)) % (6 : Int32)), iv ((((u3.toUInt32 >>> ((8 : Int32) &&& 31).toUInt32).toInt32) &&& (2147483647 : Int32)) % (6 : Int32)), iv (((u3 &&& (2147483647 : Int32)) % (6 : Int32)) + ((((u3.toUInt32 >>> ((8 : Int32) &&& 31).toUInt32).toInt32) &&& (2147483647 : Int32)) % (6 : Int32))), iv (own_h [(u0.toInt8.toInt32), ((u0 >>> ((8 : Int32) &&& 31)).toInt8.toInt32), ((u0 >>> ((16 : Int32) &&& 31)).toInt8.toInt32), ((u0 >>> ((24 : Int32) &&& 31)).toInt8.toInt32), (u1.toInt8.toInt32), ((u1 >>> ((8 : Int32) &&& 31)).toInt8.toInt32), ((u1 >>> ((16 : Int32) &&& 31)).toInt8.toInt32), ((u1 >>> ((24 : Int32) &&& 31)).toInt8.toInt32), (u2.toInt8.toInt32), ((u2 >>> ((8 : Int32) &&& 31)).toInt8.toInt32)] (0 : Int32) ((u3 &&& (2147483647 : Int32)) % (6 : Int32)) (((((u3.toUInt32 >>> ((8 : Int32) &&& 31).toUInt32).toInt32) &&& (2147483647 : Int32)) % (6 : Int32))).toInt.toNat)] [])) _
    refine XS.iload X32.here hx rfl (hb hby at_130) rfl ?_
    show Steps p.tables e below (T32.setTop (mkF m 132 #[iv u0, iv u1, iv u2, iv u3, rv b1, iv ((u3 &&& (2147483647 : Int32)) % (6 : Int32)), iv ((((u3.toUInt32 >>> ((8 : Int32) &&& 31).toUInt32).toInt32) &&& (2147483647 : Int32)) % (6 : Int32)), iv (((u3 &&& (2147483647 : Int32)) % (6 : Int32)) + ((((u3.toUInt32 >>> ((8 : Int32) &&& 31).toUInt32).toInt32) &&& (2147483647 : Int32)) % (6 : Int32))), iv (own_h [(u0.toInt8.toInt32), ((u0 >>> ((8 : Int32) &&& 31)).toInt8.toInt32), ((u0 >>> ((16 : Int32) &&& 31)).toInt8.toInt32), ((u0 >>> ((24 : Int32) &&& 31)).toInt8.toInt32), (u1.toInt8.toInt32), ((u1 >>> ((8 : Int32) &&& 31)).toInt8.toInt32), ((u1 >>> ((16 : Int32) &&& 31)).toInt8.toInt32), ((u1 >>> ((24 : Int32) &&& 31)).toInt8.toInt32), (u2.toInt8.toInt32), ((u2 >>> ((8 : Int32) &&& 31)).toInt8.toInt32)] (0 : Int32) ((u3 &&& (2147483647 : Int32)) % (6 : Int32)) (((((u3.toUInt32 >>> ((8 : Int32) &&& 31).toUInt32).toInt32) &&& (2147483647 : Int32)) % (6 : Int32))).toInt.toNat)] [(.int (own_h [(u0.toInt8.toInt32), ((u0 >>> ((8 : Int32) &&& 31)).toInt8.toInt32), ((u0 >>> ((16 : Int32) &&& 31)).toInt8.toInt32), ((u0 >>> ((24 : Int32) &&& 31)).toInt8.toInt32), (u1.toInt8.toInt32), ((u1 >>> ((8 : Int32) &&& 31)).toInt8.toInt32), ((u1 >>> ((16 : Int32) &&& 31)).toInt8.toInt32), ((u1 >>> ((24 : Int32) &&& 31)).toInt8.toInt32), (u2.toInt8.toInt32), ((u2 >>> ((8 : Int32) &&& 31)).toInt8.toInt32)] (0 : Int32) ((u3 &&& (2147483647 : Int32)) % (6 : Int32)) (((((u3.toUInt32 >>> ((8 : Int32) &&& 31).toUInt32).toInt32) &&& (2147483647 : Int32)) % (6 : Int32))).toInt.toNat))])) _
    refine XS.aload X32.here hx rfl (hb hby at_132) rfl rfl ?_
    show Steps p.tables e below (T32.setTop (mkF m 134 #[iv u0, iv u1, iv u2, iv u3, rv b1, iv ((u3 &&& (2147483647 : Int32)) % (6 : Int32)), iv ((((u3.toUInt32 >>> ((8 : Int32) &&& 31).toUInt32).toInt32) &&& (2147483647 : Int32)) % (6 : Int32)), iv (((u3 &&& (2147483647 : Int32)) % (6 : Int32)) + ((((u3.toUInt32 >>> ((8 : Int32) &&& 31).toUInt32).toInt32) &&& (2147483647 : Int32)) % (6 : Int32))), iv (own_h [(u0.toInt8.toInt32), ((u0 >>> ((8 : Int32) &&& 31)).toInt8.toInt32), ((u0 >>> ((16 : Int32) &&& 31)).toInt8.toInt32), ((u0 >>> ((24 : Int32) &&& 31)).toInt8.toInt32), (u1.toInt8.toInt32), ((u1 >>> ((8 : Int32) &&& 31)).toInt8.toInt32), ((u1 >>> ((16 : Int32) &&& 31)).toInt8.toInt32), ((u1 >>> ((24 : Int32) &&& 31)).toInt8.toInt32), (u2.toInt8.toInt32), ((u2 >>> ((8 : Int32) &&& 31)).toInt8.toInt32)] (0 : Int32) ((u3 &&& (2147483647 : Int32)) % (6 : Int32)) (((((u3.toUInt32 >>> ((8 : Int32) &&& 31).toUInt32).toInt32) &&& (2147483647 : Int32)) % (6 : Int32))).toInt.toNat)] [(.ref b1), (.int (own_h [(u0.toInt8.toInt32), ((u0 >>> ((8 : Int32) &&& 31)).toInt8.toInt32), ((u0 >>> ((16 : Int32) &&& 31)).toInt8.toInt32), ((u0 >>> ((24 : Int32) &&& 31)).toInt8.toInt32), (u1.toInt8.toInt32), ((u1 >>> ((8 : Int32) &&& 31)).toInt8.toInt32), ((u1 >>> ((16 : Int32) &&& 31)).toInt8.toInt32), ((u1 >>> ((24 : Int32) &&& 31)).toInt8.toInt32), (u2.toInt8.toInt32), ((u2 >>> ((8 : Int32) &&& 31)).toInt8.toInt32)] (0 : Int32) ((u3 &&& (2147483647 : Int32)) % (6 : Int32)) (((((u3.toUInt32 >>> ((8 : Int32) &&& 31).toUInt32).toInt32) &&& (2147483647 : Int32)) % (6 : Int32))).toInt.toNat))])) _
    refine XS.iload X32.here hx rfl (hb hby at_134) rfl ?_
    show Steps p.tables e below (T32.setTop (mkF m 136 #[iv u0, iv u1, iv u2, iv u3, rv b1, iv ((u3 &&& (2147483647 : Int32)) % (6 : Int32)), iv ((((u3.toUInt32 >>> ((8 : Int32) &&& 31).toUInt32).toInt32) &&& (2147483647 : Int32)) % (6 : Int32)), iv (((u3 &&& (2147483647 : Int32)) % (6 : Int32)) + ((((u3.toUInt32 >>> ((8 : Int32) &&& 31).toUInt32).toInt32) &&& (2147483647 : Int32)) % (6 : Int32))), iv (own_h [(u0.toInt8.toInt32), ((u0 >>> ((8 : Int32) &&& 31)).toInt8.toInt32), ((u0 >>> ((16 : Int32) &&& 31)).toInt8.toInt32), ((u0 >>> ((24 : Int32) &&& 31)).toInt8.toInt32), (u1.toInt8.toInt32), ((u1 >>> ((8 : Int32) &&& 31)).toInt8.toInt32), ((u1 >>> ((16 : Int32) &&& 31)).toInt8.toInt32), ((u1 >>> ((24 : Int32) &&& 31)).toInt8.toInt32), (u2.toInt8.toInt32), ((u2 >>> ((8 : Int32) &&& 31)).toInt8.toInt32)] (0 : Int32) ((u3 &&& (2147483647 : Int32)) % (6 : Int32)) (((((u3.toUInt32 >>> ((8 : Int32) &&& 31).toUInt32).toInt32) &&& (2147483647 : Int32)) % (6 : Int32))).toInt.toNat)] [(.int ((u3 &&& (2147483647 : Int32)) % (6 : Int32))), (.ref b1), (.int (own_h [(u0.toInt8.toInt32), ((u0 >>> ((8 : Int32) &&& 31)).toInt8.toInt32), ((u0 >>> ((16 : Int32) &&& 31)).toInt8.toInt32), ((u0 >>> ((24 : Int32) &&& 31)).toInt8.toInt32), (u1.toInt8.toInt32), ((u1 >>> ((8 : Int32) &&& 31)).toInt8.toInt32), ((u1 >>> ((16 : Int32) &&& 31)).toInt8.toInt32), ((u1 >>> ((24 : Int32) &&& 31)).toInt8.toInt32), (u2.toInt8.toInt32), ((u2 >>> ((8 : Int32) &&& 31)).toInt8.toInt32)] (0 : Int32) ((u3 &&& (2147483647 : Int32)) % (6 : Int32)) (((((u3.toUInt32 >>> ((8 : Int32) &&& 31).toUInt32).toInt32) &&& (2147483647 : Int32)) % (6 : Int32))).toInt.toNat))])) _
    refine XS.iload X32.here hx rfl (hb hby at_136) rfl ?_
    show Steps p.tables e below (T32.setTop (mkF m 138 #[iv u0, iv u1, iv u2, iv u3, rv b1, iv ((u3 &&& (2147483647 : Int32)) % (6 : Int32)), iv ((((u3.toUInt32 >>> ((8 : Int32) &&& 31).toUInt32).toInt32) &&& (2147483647 : Int32)) % (6 : Int32)), iv (((u3 &&& (2147483647 : Int32)) % (6 : Int32)) + ((((u3.toUInt32 >>> ((8 : Int32) &&& 31).toUInt32).toInt32) &&& (2147483647 : Int32)) % (6 : Int32))), iv (own_h [(u0.toInt8.toInt32), ((u0 >>> ((8 : Int32) &&& 31)).toInt8.toInt32), ((u0 >>> ((16 : Int32) &&& 31)).toInt8.toInt32), ((u0 >>> ((24 : Int32) &&& 31)).toInt8.toInt32), (u1.toInt8.toInt32), ((u1 >>> ((8 : Int32) &&& 31)).toInt8.toInt32), ((u1 >>> ((16 : Int32) &&& 31)).toInt8.toInt32), ((u1 >>> ((24 : Int32) &&& 31)).toInt8.toInt32), (u2.toInt8.toInt32), ((u2 >>> ((8 : Int32) &&& 31)).toInt8.toInt32)] (0 : Int32) ((u3 &&& (2147483647 : Int32)) % (6 : Int32)) (((((u3.toUInt32 >>> ((8 : Int32) &&& 31).toUInt32).toInt32) &&& (2147483647 : Int32)) % (6 : Int32))).toInt.toNat)] [(.int ((((u3.toUInt32 >>> ((8 : Int32) &&& 31).toUInt32).toInt32) &&& (2147483647 : Int32)) % (6 : Int32))), (.int ((u3 &&& (2147483647 : Int32)) % (6 : Int32))), (.ref b1), (.int (own_h [(u0.toInt8.toInt32), ((u0 >>> ((8 : Int32) &&& 31)).toInt8.toInt32), ((u0 >>> ((16 : Int32) &&& 31)).toInt8.toInt32), ((u0 >>> ((24 : Int32) &&& 31)).toInt8.toInt32), (u1.toInt8.toInt32), ((u1 >>> ((8 : Int32) &&& 31)).toInt8.toInt32), ((u1 >>> ((16 : Int32) &&& 31)).toInt8.toInt32), ((u1 >>> ((24 : Int32) &&& 31)).toInt8.toInt32), (u2.toInt8.toInt32), ((u2 >>> ((8 : Int32) &&& 31)).toInt8.toInt32)] (0 : Int32) ((u3 &&& (2147483647 : Int32)) % (6 : Int32)) (((((u3.toUInt32 >>> ((8 : Int32) &&& 31).toUInt32).toInt32) &&& (2147483647 : Int32)) % (6 : Int32))).toInt.toNat))])) _
    refine st33 _ ?_
    show Steps p.tables e below (T33.setTop (mkF m 141 #[iv u0, iv u1, iv u2, iv u3, rv b1, iv ((u3 &&& (2147483647 : Int32)) % (6 : Int32)), iv ((((u3.toUInt32 >>> ((8 : Int32) &&& 31).toUInt32).toInt32) &&& (2147483647 : Int32)) % (6 : Int32)), iv (((u3 &&& (2147483647 : Int32)) % (6 : Int32)) + ((((u3.toUInt32 >>> ((8 : Int32) &&& 31).toUInt32).toInt32) &&& (2147483647 : Int32)) % (6 : Int32))), iv (own_h [(u0.toInt8.toInt32), ((u0 >>> ((8 : Int32) &&& 31)).toInt8.toInt32), ((u0 >>> ((16 : Int32) &&& 31)).toInt8.toInt32), ((u0 >>> ((24 : Int32) &&& 31)).toInt8.toInt32), (u1.toInt8.toInt32), ((u1 >>> ((8 : Int32) &&& 31)).toInt8.toInt32), ((u1 >>> ((16 : Int32) &&& 31)).toInt8.toInt32), ((u1 >>> ((24 : Int32) &&& 31)).toInt8.toInt32), (u2.toInt8.toInt32), ((u2 >>> ((8 : Int32) &&& 31)).toInt8.toInt32)] (0 : Int32) ((u3 &&& (2147483647 : Int32)) % (6 : Int32)) (((((u3.toUInt32 >>> ((8 : Int32) &&& 31).toUInt32).toInt32) &&& (2147483647 : Int32)) % (6 : Int32))).toInt.toNat)] [(.int (own_e (([(u0.toInt8.toInt32), ((u0 >>> ((8 : Int32) &&& 31)).toInt8.toInt32), ((u0 >>> ((16 : Int32) &&& 31)).toInt8.toInt32), ((u0 >>> ((24 : Int32) &&& 31)).toInt8.toInt32), (u1.toInt8.toInt32), ((u1 >>> ((8 : Int32) &&& 31)).toInt8.toInt32), ((u1 >>> ((16 : Int32) &&& 31)).toInt8.toInt32), ((u1 >>> ((24 : Int32) &&& 31)).toInt8.toInt32), (u2.toInt8.toInt32), ((u2 >>> ((8 : Int32) &&& 31)).toInt8.toInt32)] : List Int32).getD (((u3 &&& (2147483647 : Int32)) % (6 : Int32))).toNatClampNeg 0) (([(u0.toInt8.toInt32), ((u0 >>> ((8 : Int32) &&& 31)).toInt8.toInt32), ((u0 >>> ((16 : Int32) &&& 31)).toInt8.toInt32), ((u0 >>> ((24 : Int32) &&& 31)).toInt8.toInt32), (u1.toInt8.toInt32), ((u1 >>> ((8 : Int32) &&& 31)).toInt8.toInt32), ((u1 >>> ((16 : Int32) &&& 31)).toInt8.toInt32), ((u1 >>> ((24 : Int32) &&& 31)).toInt8.toInt32), (u2.toInt8.toInt32), ((u2 >>> ((8 : Int32) &&& 31)).toInt8.toInt32)] : List Int32).getD ((((u3 &&& (2147483647 : Int32)) % (6 : Int32)) + (1 : Int32))).toNatClampNeg 0) (([(u0.toInt8.toInt32), ((u0 >>> ((8 : Int32) &&& 31)).toInt8.toInt32), ((u0 >>> ((16 : Int32) &&& 31)).toInt8.toInt32), ((u0 >>> ((24 : Int32) &&& 31)).toInt8.toInt32), (u1.toInt8.toInt32), ((u1 >>> ((8 : Int32) &&& 31)).toInt8.toInt32), ((u1 >>> ((16 : Int32) &&& 31)).toInt8.toInt32), ((u1 >>> ((24 : Int32) &&& 31)).toInt8.toInt32), (u2.toInt8.toInt32), ((u2 >>> ((8 : Int32) &&& 31)).toInt8.toInt32)] : List Int32).getD ((((u3 &&& (2147483647 : Int32)) % (6 : Int32)) + (2 : Int32))).toNatClampNeg 0) (([(u0.toInt8.toInt32), ((u0 >>> ((8 : Int32) &&& 31)).toInt8.toInt32), ((u0 >>> ((16 : Int32) &&& 31)).toInt8.toInt32), ((u0 >>> ((24 : Int32) &&& 31)).toInt8.toInt32), (u1.toInt8.toInt32), ((u1 >>> ((8 : Int32) &&& 31)).toInt8.toInt32), ((u1 >>> ((16 : Int32) &&& 31)).toInt8.toInt32), ((u1 >>> ((24 : Int32) &&& 31)).toInt8.toInt32), (u2.toInt8.toInt32), ((u2 >>> ((8 : Int32) &&& 31)).toInt8.toInt32)] : List Int32).getD ((((u3 &&& (2147483647 : Int32)) % (6 : Int32)) + (3 : Int32))).toNatClampNeg 0) (([(u0.toInt8.toInt32), ((u0 >>> ((8 : Int32) &&& 31)).toInt8.toInt32), ((u0 >>> ((16 : Int32) &&& 31)).toInt8.toInt32), ((u0 >>> ((24 : Int32) &&& 31)).toInt8.toInt32), (u1.toInt8.toInt32), ((u1 >>> ((8 : Int32) &&& 31)).toInt8.toInt32), ((u1 >>> ((16 : Int32) &&& 31)).toInt8.toInt32), ((u1 >>> ((24 : Int32) &&& 31)).toInt8.toInt32), (u2.toInt8.toInt32), ((u2 >>> ((8 : Int32) &&& 31)).toInt8.toInt32)] : List Int32).getD ((((u3 &&& (2147483647 : Int32)) % (6 : Int32)) + (4 : Int32))).toNatClampNeg 0) ((((u3.toUInt32 >>> ((8 : Int32) &&& 31).toUInt32).toInt32) &&& (2147483647 : Int32)) % (6 : Int32)))), (.int (own_h [(u0.toInt8.toInt32), ((u0 >>> ((8 : Int32) &&& 31)).toInt8.toInt32), ((u0 >>> ((16 : Int32) &&& 31)).toInt8.toInt32), ((u0 >>> ((24 : Int32) &&& 31)).toInt8.toInt32), (u1.toInt8.toInt32), ((u1 >>> ((8 : Int32) &&& 31)).toInt8.toInt32), ((u1 >>> ((16 : Int32) &&& 31)).toInt8.toInt32), ((u1 >>> ((24 : Int32) &&& 31)).toInt8.toInt32), (u2.toInt8.toInt32), ((u2 >>> ((8 : Int32) &&& 31)).toInt8.toInt32)] (0 : Int32) ((u3 &&& (2147483647 : Int32)) % (6 : Int32)) (((((u3.toUInt32 >>> ((8 : Int32) &&& 31).toUInt32).toInt32) &&& (2147483647 : Int32)) % (6 : Int32))).toInt.toNat))])) _
    refine XS.icmpNo X33.here hx rfl (hb hby at_141) rfl (teq (own_plain _ _ _ hln.1 hln.2)).2 ?_
    show Steps p.tables e below (T33.setTop (mkF m 144 #[iv u0, iv u1, iv u2, iv u3, rv b1, iv ((u3 &&& (2147483647 : Int32)) % (6 : Int32)), iv ((((u3.toUInt32 >>> ((8 : Int32) &&& 31).toUInt32).toInt32) &&& (2147483647 : Int32)) % (6 : Int32)), iv (((u3 &&& (2147483647 : Int32)) % (6 : Int32)) + ((((u3.toUInt32 >>> ((8 : Int32) &&& 31).toUInt32).toInt32) &&& (2147483647 : Int32)) % (6 : Int32))), iv (own_h [(u0.toInt8.toInt32), ((u0 >>> ((8 : Int32) &&& 31)).toInt8.toInt32), ((u0 >>> ((16 : Int32) &&& 31)).toInt8.toInt32), ((u0 >>> ((24 : Int32) &&& 31)).toInt8.toInt32), (u1.toInt8.toInt32), ((u1 >>> ((8 : Int32) &&& 31)).toInt8.toInt32), ((u1 >>> ((16 : Int32) &&& 31)).toInt8.toInt32), ((u1 >>> ((24 : Int32) &&& 31)).toInt8.toInt32), (u2.toInt8.toInt32), ((u2 >>> ((8 : Int32) &&& 31)).toInt8.toInt32)] (0 : Int32) ((u3 &&& (2147483647 : Int32)) % (6 : Int32)) (((((u3.toUInt32 >>> ((8 : Int32) &&& 31).toUInt32).toInt32) &&& (2147483647 : Int32)) % (6 : Int32))).toInt.toNat)] [])) _
    refine XS.iconst X33.here hx rfl (hb hby at_144) ?_
    show Steps p.tables e below (T33.setTop (mkF m 145 #[iv u0, iv u1, iv u2, iv u3, rv b1, iv ((u3 &&& (2147483647 : Int32)) % (6 : Int32)), iv ((((u3.toUInt32 >>> ((8 : Int32) &&& 31).toUInt32).toInt32) &&& (2147483647 : Int32)) % (6 : Int32)), iv (((u3 &&& (2147483647 : Int32)) % (6 : Int32)) + ((((u3.toUInt32 >>> ((8 : Int32) &&& 31).toUInt32).toInt32) &&& (2147483647 : Int32)) % (6 : Int32))), iv (own_h [(u0.toInt8.toInt32), ((u0 >>> ((8 : Int32) &&& 31)).toInt8.toInt32), ((u0 >>> ((16 : Int32) &&& 31)).toInt8.toInt32), ((u0 >>> ((24 : Int32) &&& 31)).toInt8.toInt32), (u1.toInt8.toInt32), ((u1 >>> ((8 : Int32) &&& 31)).toInt8.toInt32), ((u1 >>> ((16 : Int32) &&& 31)).toInt8.toInt32), ((u1 >>> ((24 : Int32) &&& 31)).toInt8.toInt32), (u2.toInt8.toInt32), ((u2 >>> ((8 : Int32) &&& 31)).toInt8.toInt32)] (0 : Int32) ((u3 &&& (2147483647 : Int32)) % (6 : Int32)) (((((u3.toUInt32 >>> ((8 : Int32) &&& 31).toUInt32).toInt32) &&& (2147483647 : Int32)) % (6 : Int32))).toInt.toNat)] [(.int (1 : Int32))])) _
    refine XS.goto X33.here hx rfl (pc0 := 145) (pc' := 149) rfl (hb hby at_145) (by decide) (by decide) ?_
    show Steps p.tables e below (T33.setTop (mkF m 149 #[iv u0, iv u1, iv u2, iv u3, rv b1, iv ((u3 &&& (2147483647 : Int32)) % (6 : Int32)), iv ((((u3.toUInt32 >>> ((8 : Int32) &&& 31).toUInt32).toInt32) &&& (2147483647 : Int32)) % (6 : Int32)), iv (((u3 &&& (2147483647 : Int32)) % (6 : Int32)) + ((((u3.toUInt32 >>> ((8 : Int32) &&& 31).toUInt32).toInt32) &&& (2147483647 : Int32)) % (6 : Int32))), iv (own_h [(u0.toInt8.toInt32), ((u0 >>> ((8 : Int32) &&& 31)).toInt8.toInt32), ((u0 >>> ((16 : Int32) &&& 31)).toInt8.toInt32), ((u0 >>> ((24 : Int32) &&& 31)).toInt8.toInt32), (u1.toInt8.toInt32), ((u1 >>> ((8 : Int32) &&& 31)).toInt8.toInt32), ((u1 >>> ((16 : Int32) &&& 31)).toInt8.toInt32), ((u1 >>> ((24 : Int32) &&& 31)).toInt8.toInt32), (u2.toInt8.toInt32), ((u2 >>> ((8 : Int32) &&& 31)).toInt8.toInt32)] (0 : Int32) ((u3 &&& (2147483647 : Int32)) % (6 : Int32)) (((((u3.toUInt32 >>> ((8 : Int32) &&& 31).toUInt32).toInt32) &&& (2147483647 : Int32)) % (6 : Int32))).toInt.toNat)] [(.int (1 : Int32))])) _
    exact retN X33 hx (t := .boolean) Bd.returns (by simp) (hb hby at_149) hr
  · show Q0 Z u0 u1 u2 u3 h0 n0 _ T33.heap _
    rw [eq33]
    exact ⟨rfl, N33⟩
set_option maxRecDepth 65536 in
set_option maxHeartbeats 40000000 in
theorem comes_1 {Post : Tables → Env → Array Value → State → Outcome → State → Prop} (hpost : ∀ tb e args s v u, (limb_1_1.after args s (.returned v) u = true ∧ limb_1_2.after args s (.returned v) u = true ∧ True) → FrameEnd s (.returned v) u (Jvm.fieldLocs frame_1_writes args s ++ Jvm.arrayLocs frame_1_arrays args s ++ Jvm.staticLocs frame_1_statics s) 16 128 → Post tb e args s (.returned v) u) :
    ArmFor flags0 classFile x code maxLocals ret World_1 tables_1 room_1 Calls_1 rest_1 Pre_1 Post := by
  intro l hfl _ _ p e ha hc hk s m args below hf hA hF happ hP
  obtain ⟨hcalls, hrest, hpre⟩ := hP
  obtain ⟨-, -, -, hnamed, -, -, -, hat⟩ := (Spec.applies_iff hf).mp happ
  obtain ⟨hg, hn⟩ := and_e (Cond.before_iff.mp (show (Jvm.Cond.and given_1 narrow_1).before args s = true from hpre))
  obtain ⟨g1, g2⟩ := and_e hg
  obtain ⟨g3, g4⟩ := and_e g2
  obtain ⟨g5, g6⟩ := and_e g4
  obtain ⟨g7, g8⟩ := and_e g6
  obtain ⟨w0, w1, w2, w3, rfl⟩ : ∃ w0 w1 w2 w3 : Value, args = #[w0, w1, w2, w3] := by
    have hs : args.size = 4 := by simpa [Cond.value, given_1] using g1
    obtain ⟨L⟩ := args
    match L, hs with
    | [w0, w1, w2, w3], _ => exact ⟨w0, w1, w2, w3, rfl⟩
  have hw := fun d (hd : d ∈ tables_1) => atoms_spec (ws := Jvm.Cond.code x code maxLocals ret :: tables_1) hat d (List.mem_cons_of_mem _ hd)
  have hfit : Fit s := fun {y c} hc i hi => by
    obtain ⟨ha, rfl⟩ := Array.getElem?_eq_some_iff.mp hc
    have q := List.all_eq_true.mp ((Array.all_eq_true_iff_forall_mem.mp hF) _ (Array.getElem_mem ha)) i (List.mem_range.mpr hi)
    simpa [Array.getElem?_eq_getElem hi] using q
  obtain ⟨i0, ei0⟩ := is_v g3
  obtain rfl : w0 = (.int i0) := Option.some.inj ei0
  obtain ⟨i1, ei1⟩ := is_v g5
  obtain rfl : w1 = (.int i1) := Option.some.inj ei1
  obtain ⟨i2, ei2⟩ := is_v g7
  obtain rfl : w2 = (.int i2) := Option.some.inj ei2
  obtain ⟨i3, ei3⟩ := is_v g8
  obtain rfl : w3 = (.int i3) := Option.some.inj ei3
  obtain ⟨n, o, h1, h2, h3, _, L, rfl, ⟨rfl, N⟩, hq⟩ := rm0 l s _ hw tables_1 i0 i1 i2 i3 s.heap s.heap.size (Nat.le_refl _)  p e ha hc hk s m _ below hf ((Spec.applies_iff_loose hf).mp happ).1 ⟨rfl, State.Warmed39.refl s, rfl⟩ trivial
  refine ⟨n, _, h1, h2, h3, hpost _ _ _ _ _ _ ⟨Cond.after_iff.mpr rfl, Cond.after_iff.mpr (eq_i res_at (Term.int_eval (1)) rfl), trivial⟩ ⟨hq.1, hq.2.1, (hq.2.2.sift fun y hy => Or.inr (N y hy)).mono (by decide) (by decide)⟩⟩
theorem main_1_1 : Claimed_1_1 := comes_1 fun _ _ _ _ _ _ h hF => ⟨h.1, hF⟩
theorem main_1_2 : Claimed_1_2 := comes_1 fun _ _ _ _ _ _ h hF => ⟨h.2.1, hF⟩
end Jvm.Pilot.@@N@@
namespace Jvm.Pilot.@@N@@
open Jvm Jvm.ClassFile Sem Op Lib Jvm.Free Jvm.Stand Jvm.Pilot.@@N@@.Jvm.D
/-! MADE BY PROGRAM (witnessworld.py) out of the Statement's table words and the real class files: 9 classes; the members and pool entries that the words name. The judged class is class 1, her method 1. -/
namespace start1
open Jvm.ClassFile
def u (s : String) : CpInfo := .utf8 (stringToUtf16 s)
/-- a pool by its gaps: so many unusable entries, then the entry; so many at the end -/
def gap : Nat → List CpInfo → List CpInfo
  | 0, r => r
  | n + 1, r => .unusable :: gap n r
def poolList (es : List (Nat × CpInfo)) (last : Nat) : List CpInfo := es.foldr (fun e r => gap e.1 (e.2 :: r)) (gap last [])
def pool (es : List (Nat × CpInfo)) (last : Nat) : Array CpInfo := ⟨poolList es last⟩
def fileOf (pool : Array CpInfo) (this : Nat) (attrs : Array Attribute := #[]) (ms : Array MethodInfo := #[]) (fl : Nat := 33) (sup : Nat := 0) (ifs : Array Nat := #[]) (fds : Array FieldInfo := #[]) : ClassFile where
  minorVersion := 0
  majorVersion := 65
  constantPool := pool
  accessFlags := fl
  thisClass := this
  superClass := sup
  interfaces := ifs
  fields := fds
  methods := ms
  attributes := attrs
def plain (name : String) (sup : Option ClassId) : Class where
  name := name
  kind := .ordinary
  loader := none
  accessFlags := 33
  super := sup
  interfaces := #[]
  cf := none
  fields := #[]
  methods := #[]
  instanceTypes := #[]
  staticTypes := #[]
  resolved := #[]
  callSites := []
  init := .initialized
  statics := none
  mirror := none

def pool0 : Array CpInfo := pool [(5, u "<init>"), (0, u "()V"), (1, .class_ 10), (1, u "java/lang/Object")] 113

def k0m0 : Method := { name := "<init>", desc := "()V", sig := { parameters := [], returnType := none }, accessFlags := 1, code := none }
/-- java/lang/Object -/
def k0 : Class := { plain "java/lang/Object" none with
  accessFlags := 33
  interfaces := #[]
  cf := some (fileOf pool0 8 #[] #[{ accessFlags := 1, nameIndex := 5, descriptorIndex := 6, attributes := #[] }] 33 0 #[] #[])
  fields := #[]
  methods := #[k0m0]
  instanceTypes := #[]
  staticTypes := #[]
  resolved := Array.replicate 124 none
  statics := none }

def pool1 : Array CpInfo := pool [(2, .class_ 4), (1, u "java/lang/Object"), (0, u "<init>"), (0, u "()V"), (0, .integer 2147483647), (0, .methodref 9 10), (0, .class_ 11), (0, .nameAndType 12 13), (0, u "com/example/rivanna/rivanna/core/json/MemberNames$Table"), (0, u "hashOfBytes"), (0, u "([BII)I"), (0, .methodref 15 16), (0, .class_ 17), (0, .nameAndType 18 13), (0, u "com/example/rivanna/rivanna/core/json/TableHashOfBytesPinLaw"), (0, u "expected"), (0, .integer 923521), (2, u "law"), (0, u "(IIII)Z")] 9

def k1m0 : Method := { name := "<init>", desc := "()V", sig := { parameters := [], returnType := none }, accessFlags := 1, code := none }
def k1c1 : Code := { maxStack := 4, maxLocals := 9, code := code, exceptionTable := #[], attributes := #[] }
def k1m1 : Method := { name := "law", desc := "(IIII)Z", sig := { parameters := [.int, .int, .int, .int], returnType := some .boolean }, accessFlags := 9, code := some k1c1 }
def k1c2 : Code := { maxStack := 3, maxLocals := 8, code := method_3_code, exceptionTable := #[], attributes := #[] }
def k1m2 : Method := { name := "expected", desc := "([BII)I", sig := { parameters := [(.array .byte), .int, .int], returnType := some .int }, accessFlags := 10, code := some k1c2 }
/-- com/example/rivanna/rivanna/core/json/TableHashOfBytesPinLaw -/
def k1 : Class := { plain "com/example/rivanna/rivanna/core/json/TableHashOfBytesPinLaw" (some 0) with
  accessFlags := 49
  interfaces := #[]
  cf := some (fileOf pool1 15 #[] #[{ accessFlags := 1, nameIndex := 5, descriptorIndex := 6, attributes := #[] }, { accessFlags := 9, nameIndex := 22, descriptorIndex := 23, attributes := #[] }, { accessFlags := 10, nameIndex := 18, descriptorIndex := 13, attributes := #[] }] 49 2 #[] #[])
  fields := #[]
  methods := #[k1m0, k1m1, k1m2]
  instanceTypes := #[]
  staticTypes := #[]
  resolved := Array.replicate 33 none
  statics := none }

def pool2 : Array CpInfo := pool [(1, .class_ 2), (0, u "com/example/rivanna/rivanna/core/json/MemberNames"), (1, .class_ 6), (1, u "java/lang/Object"), (0, u "<init>"), (0, u "()V"), (3, .class_ 14), (1, u "com/example/rivanna/rivanna/core/json/MemberNames$Table"), (0, u "names"), (0, u "[Ljava/lang/String;"), (4, u "utf8"), (0, u "[[B"), (2, u "hashes"), (0, u "[I"), (2, u "slots"), (27, u "hashOfBytes"), (0, u "([BII)I")] 36

def k2m0 : Method := { name := "<init>", desc := "()V", sig := { parameters := [], returnType := none }, accessFlags := 2, code := none }
def k2c1 : Code := { maxStack := 3, maxLocals := 5, code := prog_26_method_9_code, exceptionTable := #[], attributes := #[] }
def k2m1 : Method := { name := "hashOfBytes", desc := "([BII)I", sig := { parameters := [(.array .byte), .int, .int], returnType := some .int }, accessFlags := 8, code := some k2c1 }
/-- com/example/rivanna/rivanna/core/json/MemberNames$Table -/
def k2 : Class := { plain "com/example/rivanna/rivanna/core/json/MemberNames$Table" (some 0) with
  accessFlags := 48
  interfaces := #[]
  cf := some (fileOf pool2 12 #[.nestHost 1] #[{ accessFlags := 2, nameIndex := 7, descriptorIndex := 8, attributes := #[] }, { accessFlags := 8, nameIndex := 57, descriptorIndex := 58, attributes := #[] }] 48 4 #[] #[{ accessFlags := 18, nameIndex := 15, descriptorIndex := 16, attributes := #[] }, { accessFlags := 18, nameIndex := 21, descriptorIndex := 22, attributes := #[] }, { accessFlags := 18, nameIndex := 25, descriptorIndex := 26, attributes := #[] }, { accessFlags := 18, nameIndex := 29, descriptorIndex := 26, attributes := #[] }])
  fields := #[{ name := "names", type := (.array (.object "java/lang/String")), accessFlags := 18, slot := 0, constantValue := 0 }, { name := "utf8", type := (.array (.array .byte)), accessFlags := 18, slot := 1, constantValue := 0 }, { name := "hashes", type := (.array .int), accessFlags := 18, slot := 2, constantValue := 0 }, { name := "slots", type := (.array .int), accessFlags := 18, slot := 3, constantValue := 0 }]
  methods := #[k2m0, k2m1]
  instanceTypes := #[(.array (.object "java/lang/String")), (.array (.array .byte)), (.array .int), (.array .int)]
  staticTypes := #[]
  resolved := Array.replicate 95 none
  statics := none }

def pool3 : Array CpInfo := pool [(1, u "java/lang/Cloneable"), (0, .class_ 1), (0, u "java/lang/Object"), (0, .class_ 3)] 3

/-- java/lang/Cloneable -/
def k3 : Class := { plain "java/lang/Cloneable" (some 0) with
  accessFlags := 1537
  interfaces := #[]
  cf := some (fileOf pool3 2 #[] #[] 1537 4 #[] #[])
  fields := #[]
  methods := #[]
  instanceTypes := #[]
  staticTypes := #[]
  resolved := Array.replicate 8 none
  statics := none }

def pool4 : Array CpInfo := pool [(1, u "java/io/Serializable"), (0, .class_ 1), (0, u "java/lang/Object"), (0, .class_ 3)] 3

/-- java/io/Serializable -/
def k4 : Class := { plain "java/io/Serializable" (some 0) with
  accessFlags := 1537
  interfaces := #[]
  cf := some (fileOf pool4 2 #[] #[] 1537 4 #[] #[])
  fields := #[]
  methods := #[]
  instanceTypes := #[]
  staticTypes := #[]
  resolved := Array.replicate 8 none
  statics := none }

/-- the primitive byte -/
def k5 : Class := { plain "byte" none with kind := .primitive 'B', accessFlags := 0x411 }
/-- [B -/
def k6 : Class := { plain "[B" (some 0) with kind := .array 5 .byte, interfaces := #[3, 4], accessFlags := 1041 }

/-- the primitive int -/
def k7 : Class := { plain "int" none with kind := .primitive 'I', accessFlags := 0x411 }
/-- [I -/
def k8 : Class := { plain "[I" (some 0) with kind := .array 7 .int, interfaces := #[3, 4], accessFlags := 1041 }

def heap : Heap := #[]
def classes : Array Class := #[k0, k1, k2, k3, k4, k5, k6, k7, k8]
def interned : List (Array UInt16 × Addr) := []
def slotsUsed : Nat := 0
def theMethod : MethodId := ⟨1, 1⟩
def args0 : Array Value := #[.int 5, .int 6, .int 7, .int 259]
def aboutOver (below : List Frame) : State where
  vm := { classes := classes, interned := interned.toArray }
  heap := heap
  slotsUsed := slotsUsed
  threads := #[{ frames := .invoking theMethod args0 :: below }]
def below0 : List Frame := [.native { method := ⟨0, 0⟩, args := #[] }]
def about1 : State := aboutOver below0
def p0 : Program := .bare "" "" ""
def e0 : Env := launch0.env 0 0 0
theorem w_frames : about1.frames = Frame.invoking theMethod args0 :: below0 := rfl
set_option maxRecDepth 65536 in
theorem w_args : argsFit about1.vm theMethod args0 = true := by decide +kernel
set_option maxRecDepth 65536 in
theorem w_heap : heapFits about1 = true := by decide +kernel
set_option maxRecDepth 65536 in
theorem w_runnable : about1.curStatus? = some .runnable := by decide +kernel
set_option maxRecDepth 65536 in
theorem w_alone : about1.alone = true := by decide +kernel
set_option maxRecDepth 65536 in
theorem w_named : about1.methodNamed? x = some theMethod := by decide +kernel
set_option maxRecDepth 65536 in
theorem w_hears : about1.hears theMethod below0 = true := by decide +kernel
set_option maxRecDepth 65536 in
theorem w_ripe : about1.ripe theMethod args0 below0 = true := by decide +kernel
theorem w_running : about1.status = .running := rfl
set_option maxRecDepth 65536 in
theorem w_room : about1.hasRoom e0.platform room_1 = true :=
  launch0.hasRoom_least _ room_1 (by decide +kernel) (by decide +kernel) (by decide +kernel) (by decide +kernel) (by decide +kernel) (by decide +kernel)
theorem allAtoms_all (ts : List Jvm.Cond) (a : Array Jvm.Value) (st : Jvm.State) : (allAtoms ts).before a st = ts.all (fun c => c.before a st) := by
  induction ts with
  | nil => rfl
  | cons c t ih =>
    show (Jvm.Cond.and c (allAtoms t)).before a st = _
    rw [Jvm.Cond.before_and, ih, List.all_cons]
def words1 : List Jvm.Cond := Jvm.Cond.code x code maxLocals ret :: tables_1
/-- a 'code' word, met by the world's own term for the bytes: nothing is compared byte by byte -/
theorem code_word {y : MethodName} {bytes : ByteArray} {mx : Nat} {rt : Option FieldType} {a : Array Value} {s : State} {m : MethodId} {meth : Method} {c : Code} (h1 : s.methodNamed? y = some m) (h2 : s.vm.method? m = some meth) (h3 : meth.code = some c) (h4 : c.code = bytes)
    (h5 : (c.maxLocals == mx && c.exceptionTable.isEmpty && decide (c.maxStack ≤ mostOperands) && decide (meth.sig.returnType = rt) && !meth.locks && decide (parseMethodDescriptor y.desc = some meth.sig)) = true) : (Jvm.Cond.code y bytes mx rt).before a s = true := by
  simp only [Bool.and_eq_true, beq_iff_eq, Bool.not_eq_true', decide_eq_true_eq] at h5
  obtain ⟨⟨⟨⟨⟨g1, g2⟩, g3⟩, g4⟩, g5⟩, g6⟩ := h5
  simp [Cond.before, Cond.holds, Cond.value, h1, h2, h3, h4, g1, g2, g3, g4, g5, g6]
def isCode : Jvm.Cond → Bool
  | .code _ _ _ _ => true
  | _ => false
theorem all_split {L : List Jvm.Cond} {P : Jvm.Cond → Bool} (h1 : L.all (fun c => isCode c || P c) = true) (h2 : ∀ c ∈ L.filter isCode, P c = true) : L.all P = true := by
  refine List.all_eq_true.mpr fun c hc => ?_
  have h := List.all_eq_true.mp h1 c hc
  rcases Bool.eq_false_or_eq_true (isCode c) with hi | hi
  · exact h2 c (List.mem_filter.mpr ⟨hc, hi⟩)
  · simpa [hi] using h
set_option maxRecDepth 65536 in
theorem w_c0 : (Jvm.Cond.code x code maxLocals ret).before args0 about1 = true := code_word (m := ⟨1, 1⟩) (meth := k1m1) (c := k1c1) (by decide +kernel) rfl rfl rfl (by decide +kernel)
set_option maxRecDepth 65536 in
theorem w_c1 : (Jvm.Cond.code ({ cls := "com/example/rivanna/rivanna/core/json/MemberNames$Table", name := "hashOfBytes", desc := "([BII)I" } : Jvm.MethodName) prog_26_method_9_code (5 : Nat) (Option.some Jvm.ClassFile.FieldType.int)).before args0 about1 = true := code_word (m := ⟨2, 1⟩) (meth := k2m1) (c := k2c1) (by decide +kernel) rfl rfl rfl (by decide +kernel)
set_option maxRecDepth 65536 in
theorem w_c2 : (Jvm.Cond.code ({ cls := "com/example/rivanna/rivanna/core/json/TableHashOfBytesPinLaw", name := "expected", desc := "([BII)I" } : Jvm.MethodName) method_3_code (8 : Nat) (Option.some Jvm.ClassFile.FieldType.int)).before args0 about1 = true := code_word (m := ⟨1, 2⟩) (meth := k1m2) (c := k1c2) (by decide +kernel) rfl rfl rfl (by decide +kernel)
def codes1 : List Jvm.Cond := [Jvm.Cond.code x code maxLocals ret, Jvm.Cond.code ({ cls := "com/example/rivanna/rivanna/core/json/MemberNames$Table", name := "hashOfBytes", desc := "([BII)I" } : Jvm.MethodName) prog_26_method_9_code (5 : Nat) (Option.some Jvm.ClassFile.FieldType.int), Jvm.Cond.code ({ cls := "com/example/rivanna/rivanna/core/json/TableHashOfBytesPinLaw", name := "expected", desc := "([BII)I" } : Jvm.MethodName) method_3_code (8 : Nat) (Option.some Jvm.ClassFile.FieldType.int)]
set_option maxRecDepth 65536 in
theorem codes_eq : words1.filter isCode = codes1 := rfl
theorem w_codes : ∀ c ∈ words1.filter isCode, c.before args0 about1 = true := by
  rw [codes_eq]
  intro c hc
  simp only [codes1, List.mem_cons, List.not_mem_nil, or_false] at hc
  rcases hc with rfl | rfl | rfl
  · exact w_c0
  · exact w_c1
  · exact w_c2
set_option maxRecDepth 65536 in
theorem w_t1 : words1.all (fun c => isCode c || c.before args0 about1) = true := by decide +kernel
theorem w_tables : (allAtoms (Jvm.Cond.code x code maxLocals ret :: tables_1)).before args0 about1 = true := by
  rw [allAtoms_all]
  show words1.all (fun c => c.before args0 about1) = true
  refine all_split ?_ w_codes
  rw [w_t1]
set_option maxRecDepth 65536 in
theorem w_case : (Jvm.Cond.and given_1 narrow_1).before args0 about1 = true := by decide +kernel
theorem w_applies : (headSpec (Jvm.Cond.code x code maxLocals ret :: tables_1) room_1).applies x e0.platform about1 = true :=
  (Spec.applies_iff w_frames).mpr ⟨w_running, w_runnable, w_alone, w_named, w_hears, w_ripe, w_room, w_tables⟩
theorem atStart : AtStart classFile x code maxLocals ret World_1 tables_1 room_1 Calls_1 rest_1 Pre_1 launch0 p0 e0 about1 theMethod args0 below0 :=
  ⟨lists_1, trivial, launch0.admits_env _ _ _, launch0.least_env, fairChoices_fair.cas, fairChoices_fair.clock, w_frames, w_args, w_heap, w_applies, trivial, trivial, w_case⟩
end start1
theorem witness_1 : WitnessClaimed_1 := ⟨start1.p0, start1.e0, start1.about1, start1.theMethod, start1.args0, start1.below0, start1.atStart⟩
end Jvm.Pilot.@@N@@
