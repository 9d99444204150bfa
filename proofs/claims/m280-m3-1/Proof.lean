import JvmDerived
import JvmDerived.Pilot.@@N@@Statement
import JvmDerived.Pilot.@@N@@Code
set_option linter.unusedVariables false
set_option linter.unusedSimpArgs false
@@BLOCK:NumsL.lean.txt@@
namespace Jvm.Pilot.@@N@@
open Jvm Jvm.ClassFile Sem Op Lib Jvm.Free Jvm.Stand Jvm.LawKit Jvm.RoadKit Bundle Jvm.Pilot.@@N@@.Jvm.D
theorem own_nb (y : Int32) : nar .byte (y.toInt8.toInt32) = y.toInt8.toInt32 := by
  show (y.toInt8.toInt32).toInt8.toInt32 = _
  simp
theorem own_fb (y : Int32) : fits .byte (.int (y.toInt8.toInt32)) = true := fits_nar_byte y

theorem d1_0 : decode prog_92_method_12_code 0 = .ok (.aload_n 3, 1) := by decide +kernel
theorem d1_1 : decode prog_92_method_12_code 1 = .ok (.iconst 0, 1) := by decide +kernel
theorem d1_2 : decode prog_92_method_12_code 2 = .ok (.iload_n 0, 1) := by decide +kernel
theorem d1_3 : decode prog_92_method_12_code 3 = .ok (.i2b, 1) := by decide +kernel
theorem d1_4 : decode prog_92_method_12_code 4 = .ok (.bastore, 1) := by decide +kernel
theorem d1_5 : decode prog_92_method_12_code 5 = .ok (.aload_n 3, 1) := by decide +kernel
theorem d1_6 : decode prog_92_method_12_code 6 = .ok (.iconst 1, 1) := by decide +kernel
theorem d1_7 : decode prog_92_method_12_code 7 = .ok (.iload_n 1, 1) := by decide +kernel
theorem d1_8 : decode prog_92_method_12_code 8 = .ok (.bipush 8, 2) := by decide +kernel
theorem d1_10 : decode prog_92_method_12_code 10 = .ok (.iushr, 1) := by decide +kernel
theorem d1_11 : decode prog_92_method_12_code 11 = .ok (.i2b, 1) := by decide +kernel
theorem d1_12 : decode prog_92_method_12_code 12 = .ok (.bastore, 1) := by decide +kernel
theorem d1_13 : decode prog_92_method_12_code 13 = .ok (.aload_n 3, 1) := by decide +kernel
theorem d1_14 : decode prog_92_method_12_code 14 = .ok (.iconst 2, 1) := by decide +kernel
theorem d1_15 : decode prog_92_method_12_code 15 = .ok (.iload_n 1, 1) := by decide +kernel
theorem d1_16 : decode prog_92_method_12_code 16 = .ok (.i2b, 1) := by decide +kernel
theorem d1_17 : decode prog_92_method_12_code 17 = .ok (.bastore, 1) := by decide +kernel
theorem d1_18 : decode prog_92_method_12_code 18 = .ok (.aload_n 3, 1) := by decide +kernel
theorem d1_19 : decode prog_92_method_12_code 19 = .ok (.iconst 3, 1) := by decide +kernel
theorem d1_20 : decode prog_92_method_12_code 20 = .ok (.iload_n 2, 1) := by decide +kernel
theorem d1_21 : decode prog_92_method_12_code 21 = .ok (.bipush 8, 2) := by decide +kernel
theorem d1_23 : decode prog_92_method_12_code 23 = .ok (.iushr, 1) := by decide +kernel
theorem d1_24 : decode prog_92_method_12_code 24 = .ok (.i2b, 1) := by decide +kernel
theorem d1_25 : decode prog_92_method_12_code 25 = .ok (.bastore, 1) := by decide +kernel
theorem d1_26 : decode prog_92_method_12_code 26 = .ok (.aload_n 3, 1) := by decide +kernel
theorem d1_27 : decode prog_92_method_12_code 27 = .ok (.iconst 4, 1) := by decide +kernel
theorem d1_28 : decode prog_92_method_12_code 28 = .ok (.iload_n 2, 1) := by decide +kernel
theorem d1_29 : decode prog_92_method_12_code 29 = .ok (.i2b, 1) := by decide +kernel
theorem d1_30 : decode prog_92_method_12_code 30 = .ok (.bastore, 1) := by decide +kernel
theorem d1_31 : decode prog_92_method_12_code 31 = .ok (.return_, 1) := by decide +kernel
theorem pn_0 : plainName "com/example/tracewell/tracewell/record/WireRecord" = true := by first | (simp [plainName, overriddenIn]; done) | decide +kernel
def Q1 (Z : State) (u0 : Int32) (u1 : Int32) (u2 : Int32) (a3 : Addr) (kk : ClassId) (x0_ : Int32) (x1_ : Int32) (x2_ : Int32) (x3_ : Int32) (x4_ : Int32) (x5_ : Int32) (x6_ : Int32) (h0 : Heap) (n0 : Nat) (v : Option Value) (h : Heap) (L : List Loc) : Prop := v = none ∧ Fr n0 L ∧ n0 ≤ h.size ∧ Arv Z h a3 kk .byte (7 : Int32) [(.int (u0.toInt8.toInt32)), (.int (((u1.toUInt32 >>> ((8 : Int32) &&& 31).toUInt32).toInt32).toInt8.toInt32)), (.int (u1.toInt8.toInt32)), (.int (((u2.toUInt32 >>> ((8 : Int32) &&& 31).toUInt32).toInt32).toInt8.toInt32)), (.int (u2.toInt8.toInt32)), (.int x5_), (.int x6_)] (.int (0 : Int32))
theorem ef_rm1 (m : MethodId) (u0 : Int32) (u1 : Int32) (u2 : Int32) (a3 : Addr) : entryFrame m #[(.int u0), (.int u1), (.int u2), (.ref a3)] 4 = mkF m 0 #[iv u0, iv u1, iv u2, rv a3] [] := by first | (simp [entryFrame, mkF, argsToLocals, Value.category]; done) | rfl
set_option maxRecDepth 65536 in
set_option maxHeartbeats 40000000 in
theorem rm1 (l : Launch) (Z : State) (a0 : Array Value) (hw : ∀ d ∈ tables_1, d.before a0 Z = true) (ws : List Jvm.Cond) (u0 : Int32) (u1 : Int32) (u2 : Int32) (a3 : Addr) (kk : ClassId) (x0_ : Int32) (x1_ : Int32) (x2_ : Int32) (x3_ : Int32) (x4_ : Int32) (x5_ : Int32) (x6_ : Int32) (h0 : Heap) (n0 : Nat) (Z0 : n0 ≤ h0.size) (V0 : Arv Z h0 a3 kk .byte (7 : Int32) [(.int x0_), (.int x1_), (.int x2_), (.int x3_), (.int x4_), (.int x5_), (.int x6_)] (.int (0 : Int32))) (g0 : n0 ≤ a3) :
    MetFree l (⟨"com/example/tracewell/tracewell/record/WireRecord", "header", "(III[B)V"⟩ : MethodName) (head1 (Jvm.Cond.code (⟨"com/example/tracewell/tracewell/record/WireRecord", "header", "(III[B)V"⟩ : MethodName) prog_92_method_12_code 4 none :: ws) ({ frames := 0, cells := 0, slots := 0, locals := 0 } : Room)) (fun a U => a = #[(.int u0), (.int u1), (.int u2), (.ref a3)] ∧ Z.Warmed39 U.vm ∧ U.heap = h0) (fun _ _ _ _ _ => True) (fun _ U o U' => ∃ v L, o = .returned v ∧ Q1 Z u0 u1 u2 a3 kk x0_ x1_ x2_ x3_ x4_ x5_ x6_ h0 n0 v U'.heap L ∧ FrameEnd U o U' L ({ frames := 0, cells := 0, slots := 0, locals := 0 } : Room).cells ({ frames := 0, cells := 0, slots := 0, locals := 0 } : Room).slots) := by
  refine MetFree.of_bodySF (plainFor_of_name pn_0) hisR ?_
  intro p e s m args below meth c s₁ Bd hml0 hP hK
  obtain ⟨rfl, hZ, hh⟩ := hP
  have hx := Bd.exec
  have hby := Bd.bytes
  have hml : c.maxLocals = 4 := hml0
  have hown : s.vm.findClass "com/example/tracewell/tracewell/record/WireRecord" = some m.cls := findClass_of_methodNamed Bd.named
  have hnm := (name_of_methodNamed Bd.named Bd.method).1
  have X0 : Stand p l e ({ frames := 0, cells := 0, slots := 0, locals := 0 } : Room) s m #[(.int u0), (.int u1), (.int u2), (.ref a3)] below meth c s₁ [] 0 0 := Stand.of_body Bd
  have e0 : s₁.heap = h0 := by rw [← hh, Bd.state]; rfl
  have N0 := Fr.nil n0
  have S0 : ∀ t, Steps p.tables e below (s₁.setTop (mkF m 0 #[iv u0, iv u1, iv u2, rv a3] [])) t → Steps p.tables e below (s₁.setTop (entryFrame m #[(.int u0), (.int u1), (.int u2), (.ref a3)] 4)) t := fun t k => castTop (ef_rm1 m u0 u1 u2 a3) k
  obtain ⟨cl1, Ar1, qa1, Sa1, Na1, Ha1, Ga1⟩ := id V0
  have hin1 : ¬ ((0 : Int32) < 0 ∨ cl1.slots.size ≤ ((0 : Int32)).toNatClampNeg) := inb_of Sa1 ⟨by decide, by decide⟩
  obtain ⟨T2, h2, X2, e2, W2, st2⟩ := stB X0 hx hZ e0 Ar1 (j := (0 : Int32)) hin1 (g := (mkF m 4 #[iv u0, iv u1, iv u2, rv a3] [(.int (u0.toInt8.toInt32)), (.int (0 : Int32)), (.ref a3)])) rfl rfl (hb hby d1_4)
  rw [own_nb] at W2
  have V2 : Arv Z h2 a3 kk .byte (7 : Int32) [(.int (u0.toInt8.toInt32)), (.int x1_), (.int x2_), (.int x3_), (.int x4_), (.int x5_), (.int x6_)] (.int (0 : Int32)) := Arv.set Ar1 qa1 Sa1 Na1 Ha1 Ga1 (own_fb _) W2 0 rfl (Nat.le_of_ble_eq_true rfl)
  have N2 := Fr.snoc X2 N0 g0
  have Z2 : n0 ≤ h2.size := Nat.le_trans Z0 (Keep.of_wr W2).1
  obtain ⟨cl4, Ar4, qa4, Sa4, Na4, Ha4, Ga4⟩ := id V2
  have hin4 : ¬ ((1 : Int32) < 0 ∨ cl4.slots.size ≤ ((1 : Int32)).toNatClampNeg) := inb_of Sa4 ⟨by decide, by decide⟩
  obtain ⟨T5, h5, X5, e5, W5, st5⟩ := stB X2 hx hZ e2 Ar4 (j := (1 : Int32)) hin4 (g := (mkF m 12 #[iv u0, iv u1, iv u2, rv a3] [(.int (((u1.toUInt32 >>> ((8 : Int32) &&& 31).toUInt32).toInt32).toInt8.toInt32)), (.int (1 : Int32)), (.ref a3)])) rfl rfl (hb hby d1_12)
  rw [own_nb] at W5
  have V5 : Arv Z h5 a3 kk .byte (7 : Int32) [(.int (u0.toInt8.toInt32)), (.int (((u1.toUInt32 >>> ((8 : Int32) &&& 31).toUInt32).toInt32).toInt8.toInt32)), (.int x2_), (.int x3_), (.int x4_), (.int x5_), (.int x6_)] (.int (0 : Int32)) := Arv.set Ar4 qa4 Sa4 Na4 Ha4 Ga4 (own_fb _) W5 1 rfl (Nat.le_of_ble_eq_true rfl)
  have N5 := Fr.snoc X5 N2 g0
  have Z5 : n0 ≤ h5.size := Nat.le_trans Z2 (Keep.of_wr W5).1
  obtain ⟨cl7, Ar7, qa7, Sa7, Na7, Ha7, Ga7⟩ := id V5
  have hin7 : ¬ ((2 : Int32) < 0 ∨ cl7.slots.size ≤ ((2 : Int32)).toNatClampNeg) := inb_of Sa7 ⟨by decide, by decide⟩
  obtain ⟨T8, h8, X8, e8, W8, st8⟩ := stB X5 hx hZ e5 Ar7 (j := (2 : Int32)) hin7 (g := (mkF m 17 #[iv u0, iv u1, iv u2, rv a3] [(.int (u1.toInt8.toInt32)), (.int (2 : Int32)), (.ref a3)])) rfl rfl (hb hby d1_17)
  rw [own_nb] at W8
  have V8 : Arv Z h8 a3 kk .byte (7 : Int32) [(.int (u0.toInt8.toInt32)), (.int (((u1.toUInt32 >>> ((8 : Int32) &&& 31).toUInt32).toInt32).toInt8.toInt32)), (.int (u1.toInt8.toInt32)), (.int x3_), (.int x4_), (.int x5_), (.int x6_)] (.int (0 : Int32)) := Arv.set Ar7 qa7 Sa7 Na7 Ha7 Ga7 (own_fb _) W8 2 rfl (Nat.le_of_ble_eq_true rfl)
  have N8 := Fr.snoc X8 N5 g0
  have Z8 : n0 ≤ h8.size := Nat.le_trans Z5 (Keep.of_wr W8).1
  obtain ⟨cl10, Ar10, qa10, Sa10, Na10, Ha10, Ga10⟩ := id V8
  have hin10 : ¬ ((3 : Int32) < 0 ∨ cl10.slots.size ≤ ((3 : Int32)).toNatClampNeg) := inb_of Sa10 ⟨by decide, by decide⟩
  obtain ⟨T11, h11, X11, e11, W11, st11⟩ := stB X8 hx hZ e8 Ar10 (j := (3 : Int32)) hin10 (g := (mkF m 25 #[iv u0, iv u1, iv u2, rv a3] [(.int (((u2.toUInt32 >>> ((8 : Int32) &&& 31).toUInt32).toInt32).toInt8.toInt32)), (.int (3 : Int32)), (.ref a3)])) rfl rfl (hb hby d1_25)
  rw [own_nb] at W11
  have V11 : Arv Z h11 a3 kk .byte (7 : Int32) [(.int (u0.toInt8.toInt32)), (.int (((u1.toUInt32 >>> ((8 : Int32) &&& 31).toUInt32).toInt32).toInt8.toInt32)), (.int (u1.toInt8.toInt32)), (.int (((u2.toUInt32 >>> ((8 : Int32) &&& 31).toUInt32).toInt32).toInt8.toInt32)), (.int x4_), (.int x5_), (.int x6_)] (.int (0 : Int32)) := Arv.set Ar10 qa10 Sa10 Na10 Ha10 Ga10 (own_fb _) W11 3 rfl (Nat.le_of_ble_eq_true rfl)
  have N11 := Fr.snoc X11 N8 g0
  have Z11 : n0 ≤ h11.size := Nat.le_trans Z8 (Keep.of_wr W11).1
  obtain ⟨cl13, Ar13, qa13, Sa13, Na13, Ha13, Ga13⟩ := id V11
  have hin13 : ¬ ((4 : Int32) < 0 ∨ cl13.slots.size ≤ ((4 : Int32)).toNatClampNeg) := inb_of Sa13 ⟨by decide, by decide⟩
  obtain ⟨T14, h14, X14, e14, W14, st14⟩ := stB X11 hx hZ e11 Ar13 (j := (4 : Int32)) hin13 (g := (mkF m 30 #[iv u0, iv u1, iv u2, rv a3] [(.int (u2.toInt8.toInt32)), (.int (4 : Int32)), (.ref a3)])) rfl rfl (hb hby d1_30)
  rw [own_nb] at W14
  have V14 : Arv Z h14 a3 kk .byte (7 : Int32) [(.int (u0.toInt8.toInt32)), (.int (((u1.toUInt32 >>> ((8 : Int32) &&& 31).toUInt32).toInt32).toInt8.toInt32)), (.int (u1.toInt8.toInt32)), (.int (((u2.toUInt32 >>> ((8 : Int32) &&& 31).toUInt32).toInt32).toInt8.toInt32)), (.int (u2.toInt8.toInt32)), (.int x5_), (.int x6_)] (.int (0 : Int32)) := Arv.set Ar13 qa13 Sa13 Na13 Ha13 Ga13 (own_fb _) W14 4 rfl (Nat.le_of_ble_eq_true rfl)
  have N14 := Fr.snoc X14 N11 g0
  have Z14 : n0 ≤ h14.size := Nat.le_trans Z11 (Keep.of_wr W14).1
  obtain ⟨fs, hr, hrun, hended, hW, hsame⟩ := X14.leave (v := none) (fun _ => rfl)
  refine ⟨_, _, S0 _ ?_, hrun, hended, _, _, rfl, ?_, ⟨_, rfl⟩, hW, hsame.mono (by decide) (by decide)⟩
  · skip
    show Steps p.tables e below (s₁.setTop (mkF m 0 #[iv u0, iv u1, iv u2, rv a3] [])) _
    refine XS.aloadN X0.here hx rfl (hb hby d1_0) rfl rfl ?_
    show Steps p.tables e below (s₁.setTop (mkF m 1 #[iv u0, iv u1, iv u2, rv a3] [(.ref a3)])) _
    refine XS.iconst X0.here hx rfl (hb hby d1_1) ?_
    show Steps p.tables e below (s₁.setTop (mkF m 2 #[iv u0, iv u1, iv u2, rv a3] [(.int (0 : Int32)), (.ref a3)])) _
    refine XS.iloadN X0.here hx rfl (hb hby d1_2) rfl ?_
    show Steps p.tables e below (s₁.setTop (mkF m 3 #[iv u0, iv u1, iv u2, rv a3] [(.int u0), (.int (0 : Int32)), (.ref a3)])) _
    refine XS.i2b X0.here hx rfl (hb hby d1_3) rfl ?_
    show Steps p.tables e below (s₁.setTop (mkF m 4 #[iv u0, iv u1, iv u2, rv a3] [(.int (u0.toInt8.toInt32)), (.int (0 : Int32)), (.ref a3)])) _
    refine st2 _ ?_
    show Steps p.tables e below (T2.setTop (mkF m 5 #[iv u0, iv u1, iv u2, rv a3] [])) _
    refine XS.aloadN X2.here hx rfl (hb hby d1_5) rfl rfl ?_
    show Steps p.tables e below (T2.setTop (mkF m 6 #[iv u0, iv u1, iv u2, rv a3] [(.ref a3)])) _
    refine XS.iconst X2.here hx rfl (hb hby d1_6) ?_
    show Steps p.tables e below (T2.setTop (mkF m 7 #[iv u0, iv u1, iv u2, rv a3] [(.int (1 : Int32)), (.ref a3)])) _
    refine XS.iloadN X2.here hx rfl (hb hby d1_7) rfl ?_
    show Steps p.tables e below (T2.setTop (mkF m 8 #[iv u0, iv u1, iv u2, rv a3] [(.int u1), (.int (1 : Int32)), (.ref a3)])) _
    refine XS.bipush X2.here hx rfl (hb hby d1_8) ?_
    show Steps p.tables e below (T2.setTop (mkF m 10 #[iv u0, iv u1, iv u2, rv a3] [(.int (8 : Int32)), (.int u1), (.int (1 : Int32)), (.ref a3)])) _
    refine XS.iushr X2.here hx rfl (hb hby d1_10) rfl ?_
    show Steps p.tables e below (T2.setTop (mkF m 11 #[iv u0, iv u1, iv u2, rv a3] [(.int ((u1.toUInt32 >>> ((8 : Int32) &&& 31).toUInt32).toInt32)), (.int (1 : Int32)), (.ref a3)])) _
    refine XS.i2b X2.here hx rfl (hb hby d1_11) rfl ?_
    show Steps p.tables e below (T2.setTop (mkF m 12 #[iv u0, iv u1, iv u2, rv a3] [(.int (((u1.toUInt32 >>> ((8 : Int32) &&& 31).toUInt32).toInt32).toInt8.toInt32)), (.int (1 : Int32)), (.ref a3)])) _
    refine st5 _ ?_
    show Steps p.tables e below (T5.setTop (mkF m 13 #[iv u0, iv u1, iv u2, rv a3] [])) _
    refine XS.aloadN X5.here hx rfl (hb hby d1_13) rfl rfl ?_
    show Steps p.tables e below (T5.setTop (mkF m 14 #[iv u0, iv u1, iv u2, rv a3] [(.ref a3)])) _
    refine XS.iconst X5.here hx rfl (hb hby d1_14) ?_
    show Steps p.tables e below (T5.setTop (mkF m 15 #[iv u0, iv u1, iv u2, rv a3] [(.int (2 : Int32)), (.ref a3)])) _
    refine XS.iloadN X5.here hx rfl (hb hby d1_15) rfl ?_
    show Steps p.tables e below (T5.setTop (mkF m 16 #[iv u0, iv u1, iv u2, rv a3] [(.int u1), (.int (2 : Int32)), (.ref a3)])) _
    refine XS.i2b X5.here hx rfl (hb hby d1_16) rfl ?_
    show Steps p.tables e below (T5.setTop (mkF m 17 #[iv u0, iv u1, iv u2, rv a3] [(.int (u1.toInt8.toInt32)), (.int (2 : Int32)), (.ref a3)])) _
    refine st8 _ ?_
    show Steps p.tables e below (T8.setTop (mkF m 18 #[iv u0, iv u1, iv u2, rv a3] [])) _
    refine XS.aloadN X8.here hx rfl (hb hby d1_18) rfl rfl ?_
    show Steps p.tables e below (T8.setTop (mkF m 19 #[iv u0, iv u1, iv u2, rv a3] [(.ref a3)])) _
    refine XS.iconst X8.here hx rfl (hb hby d1_19) ?_
    show Steps p.tables e below (T8.setTop (mkF m 20 #[iv u0, iv u1, iv u2, rv a3] [(.int (3 : Int32)), (.ref a3)])) _
    refine XS.iloadN X8.here hx rfl (hb hby d1_20) rfl ?_
    show Steps p.tables e below (T8.setTop (mkF m 21 #[iv u0, iv u1, iv u2, rv a3] [(.int u2), (.int (3 : Int32)), (.ref a3)])) _
    refine XS.bipush X8.here hx rfl (hb hby d1_21) ?_
    show Steps p.tables e below (T8.setTop (mkF m 23 #[iv u0, iv u1, iv u2, rv a3] [(.int (8 : Int32)), (.int u2), (.int (3 : Int32)), (.ref a3)])) _
    refine XS.iushr X8.here hx rfl (hb hby d1_23) rfl ?_
    show Steps p.tables e below (T8.setTop (mkF m 24 #[iv u0, iv u1, iv u2, rv a3] [(.int ((u2.toUInt32 >>> ((8 : Int32) &&& 31).toUInt32).toInt32)), (.int (3 : Int32)), (.ref a3)])) _
    refine XS.i2b X8.here hx rfl (hb hby d1_24) rfl ?_
    show Steps p.tables e below (T8.setTop (mkF m 25 #[iv u0, iv u1, iv u2, rv a3] [(.int (((u2.toUInt32 >>> ((8 : Int32) &&& 31).toUInt32).toInt32).toInt8.toInt32)), (.int (3 : Int32)), (.ref a3)])) _
    refine st11 _ ?_
    show Steps p.tables e below (T11.setTop (mkF m 26 #[iv u0, iv u1, iv u2, rv a3] [])) _
    refine XS.aloadN X11.here hx rfl (hb hby d1_26) rfl rfl ?_
    show Steps p.tables e below (T11.setTop (mkF m 27 #[iv u0, iv u1, iv u2, rv a3] [(.ref a3)])) _
    refine XS.iconst X11.here hx rfl (hb hby d1_27) ?_
    show Steps p.tables e below (T11.setTop (mkF m 28 #[iv u0, iv u1, iv u2, rv a3] [(.int (4 : Int32)), (.ref a3)])) _
    refine XS.iloadN X11.here hx rfl (hb hby d1_28) rfl ?_
    show Steps p.tables e below (T11.setTop (mkF m 29 #[iv u0, iv u1, iv u2, rv a3] [(.int u2), (.int (4 : Int32)), (.ref a3)])) _
    refine XS.i2b X11.here hx rfl (hb hby d1_29) rfl ?_
    show Steps p.tables e below (T11.setTop (mkF m 30 #[iv u0, iv u1, iv u2, rv a3] [(.int (u2.toInt8.toInt32)), (.int (4 : Int32)), (.ref a3)])) _
    refine st14 _ ?_
    show Steps p.tables e below (T14.setTop (mkF m 31 #[iv u0, iv u1, iv u2, rv a3] [])) _
    exact X14.returnOut hx Bd.returns (hb hby d1_31) hr
  · show Q1 Z u0 u1 u2 a3 kk x0_ x1_ x2_ x3_ x4_ x5_ x6_ h0 n0 _ T14.heap _
    rw [e14]
    exact ⟨rfl, N14, Z14, V14⟩
theorem own_b2i (y : Int32) : y.toInt8.toInt32.toInt = y.toInt.bmod 256 := by
  rw [Int8.toInt_toInt32, Int32.toInt_toInt8]
theorem own_bff (y : Int32) : (y.toInt8.toInt32 &&& (255 : Int32)).toInt = y.toInt % 256 := by
  rw [Jvm.Kit.i32_mask _ 255 (k := 8) (by decide) (by decide), own_b2i, Int.bmod_def]; split <;> omega
theorem own_tn (x : Int32) : (x.toBitVec.toNat : Int) = x.toInt % 4294967296 := by
  have hc : x.toInt = x.toBitVec.toInt := rfl
  rw [hc, BitVec.toInt_eq_toNat_cond]
  have := x.toBitVec.isLt
  split <;> omega
theorem own_ushr (x : Int32) (k : Nat) (n : UInt32) (hn : n.toNat = k) (h1 : 0 < k) (hk : k < 32) : (x.toUInt32 >>> n).toInt32.toInt = (x.toInt % 4294967296) / 2 ^ k := by
  have e : (x.toUInt32 >>> n).toInt32.toBitVec.toNat = x.toBitVec.toNat / 2 ^ k := by
    show (x.toUInt32 >>> n).toNat = _
    rw [UInt32.toNat_shiftRight, hn, Nat.mod_eq_of_lt hk, Nat.shiftRight_eq_div_pow]; rfl
  have hd : (x.toUInt32 >>> n).toInt32.toInt = (x.toUInt32 >>> n).toInt32.toBitVec.toInt := rfl
  have hl := x.toBitVec.isLt
  have h2 : x.toBitVec.toNat / 2 ^ k ≤ x.toBitVec.toNat / 2 ^ 1 := Nat.div_le_div_left (Nat.pow_le_pow_right (by decide) h1) (by decide)
  rw [hd, BitVec.toInt_eq_toNat_cond, e, if_pos (by omega), ← own_tn]
  simp
theorem own_shlor (a b : Int32) (ha : 0 ≤ a.toInt) (ha' : a.toInt < 256) (hb : 0 ≤ b.toInt) (hb' : b.toInt < 256) : ((a <<< ((8 : Int32) &&& 31)) ||| b).toInt = a.toInt * 256 + b.toInt := by
  have h8 : ((8 : Int32) &&& 31) = 8 := by decide
  rw [h8]
  have ea := own_tn a
  have eb := own_tn b
  have e : ((a <<< (8 : Int32)) ||| b).toBitVec.toNat = a.toBitVec.toNat * 256 + b.toBitVec.toNat := by
    show ((a <<< (8:Int32)).toBitVec ||| b.toBitVec).toNat = _
    have q : (a <<< (8:Int32)).toBitVec = a.toBitVec <<< 8 := rfl
    rw [BitVec.toNat_or, q, BitVec.toNat_shiftLeft, Nat.shiftLeft_eq, Nat.mod_eq_of_lt (by omega)]
    have := Nat.shiftLeft_add_eq_or_of_lt (a := a.toBitVec.toNat) (b := b.toBitVec.toNat) (i := 8) (by omega)
    rw [Nat.shiftLeft_eq] at this
    rw [← this]
  have hd : ((a <<< (8 : Int32)) ||| b).toInt = ((a <<< (8 : Int32)) ||| b).toBitVec.toInt := rfl
  rw [hd, BitVec.toInt_eq_toNat_cond, e, if_pos (by omega)]
  omega
theorem own_v (y : Int32) : ((((((y.toUInt32 >>> ((8 : Int32) &&& 31).toUInt32).toInt32).toInt8.toInt32) &&& (255 : Int32)) <<< ((8 : Int32) &&& 31)) ||| ((y.toInt8.toInt32) &&& (255 : Int32))) = (y &&& (65535 : Int32)) := by
  apply Int32.toInt_inj.mp
  have h1 := own_bff y
  have h2 := own_bff ((y.toUInt32 >>> ((8 : Int32) &&& 31).toUInt32).toInt32)
  have h3 := own_ushr y 8 (((8 : Int32) &&& 31).toUInt32) (by decide) (by decide) (by decide)
  rw [own_shlor _ _ (by omega) (by omega) (by omega) (by omega), h1, h2, h3, Jvm.Kit.i32_mask y 65535 (k := 16) (by decide) (by decide)]
  omega
theorem own_t (y : Int32) : ((y.toInt8.toInt32) &&& (255 : Int32)) = (y &&& (255 : Int32)) := by
  apply Int32.toInt_inj.mp
  rw [own_bff, Jvm.Kit.i32_mask y 255 (k := 8) (by decide) (by decide)]; rfl

theorem pd_0 : parseMethodDescriptor "(III[B)V" = some ⟨[.int, .int, .int, (.array .byte)], none⟩ := by decide +kernel
theorem pn_1 : plainName "com/example/tracewell/tracewell/record/WireRecordHeaderPinLaw" = true := by first | (simp [plainName, overriddenIn]; done) | decide +kernel
def Q0 (Z : State) (u0 : Int32) (u1 : Int32) (u2 : Int32) (u3 : Int32)  (h0 : Heap) (n0 : Nat) (v : Option Value) (h : Heap) (L : List Loc) : Prop := v = some (.int 1) ∧ Fr n0 L
theorem ef_rm0 (m : MethodId) (u0 : Int32) (u1 : Int32) (u2 : Int32) (u3 : Int32) : entryFrame m #[(.int u0), (.int u1), (.int u2), (.int u3)] maxLocals = mkF m 0 #[iv u0, iv u1, iv u2, iv u3, .unset, .unset, .unset, .unset, .unset] [] := by first | (simp [entryFrame, mkF, argsToLocals, Value.category, maxLocals]; done) | rfl
set_option maxRecDepth 65536 in
set_option maxHeartbeats 40000000 in
theorem rm0 (l : Launch) (Z : State) (a0 : Array Value) (hw : ∀ d ∈ tables_1, d.before a0 Z = true) (ws : List Jvm.Cond) (u0 : Int32) (u1 : Int32) (u2 : Int32) (u3 : Int32)  (h0 : Heap) (n0 : Nat) (Z0 : n0 ≤ h0.size) :
    MetFree l x (head1 (Jvm.Cond.code x code maxLocals ret :: ws) room_1) (fun a U => a = #[(.int u0), (.int u1), (.int u2), (.int u3)] ∧ Z.Warmed39 U.vm ∧ U.heap = h0) (fun _ _ _ _ _ => True) (fun _ U o U' => ∃ v L, o = .returned v ∧ Q0 Z u0 u1 u2 u3 h0 n0 v U'.heap L ∧ FrameEnd U o U' L room_1.cells room_1.slots) := by
  refine MetFree.of_bodySF (plainFor_of_name pn_1) hisR ?_
  intro p e s m args below meth c s₁ Bd hml0 hP hK
  obtain ⟨rfl, hZ, hh⟩ := hP
  have hx := Bd.exec
  have hby := Bd.bytes
  have hml : c.maxLocals = 9 := hml0
  have hown : s.vm.findClass "com/example/tracewell/tracewell/record/WireRecordHeaderPinLaw" = some m.cls := findClass_of_methodNamed Bd.named
  have hnm := (name_of_methodNamed Bd.named Bd.method).1
  have X0 : Stand p l e room_1 s m #[(.int u0), (.int u1), (.int u2), (.int u3)] below meth c s₁ [] 0 0 := Stand.of_body Bd
  have e0 : s₁.heap = h0 := by rw [← hh, Bd.state]; rfl
  have N0 := Fr.nil n0
  have S0 : ∀ t, Steps p.tables e below (s₁.setTop (mkF m 0 #[iv u0, iv u1, iv u2, iv u3, .unset, .unset, .unset, .unset, .unset] [])) t → Steps p.tables e below (s₁.setTop (entryFrame m #[(.int u0), (.int u1), (.int u2), (.int u3)] maxLocals)) t := fun t k => castTop (ef_rm0 m u0 u1 u2 u3) k
  obtain ⟨T1, h1, k1, X1, e1, E1, A1, st1⟩ := newP X0 hx hZ (hw _ (List.mem_of_getElem? (i := 0) rfl)) e0 (g := (mkF m 6 #[iv u0, iv u1, iv u2, iv u3, iv (u3.toInt8.toInt32), .unset, .unset, .unset, .unset] [(.int (7 : Int32))])) rfl (hb hby at_6) rfl (by decide) (cap := 7) (by decide) (by decide) (by decide) (by decide)
  obtain ⟨b1, g1⟩ : ∃ z, z = h0.size := ⟨_, rfl⟩
  rw [← g1] at A1 st1
  have ge_b1 : n0 ≤ b1 := Nat.le_trans Z0 (Nat.le_of_eq g1.symm)
  have V1 : Arv Z h1 b1 k1 .byte (7 : Int32) [(.int (0 : Int32)), (.int (0 : Int32)), (.int (0 : Int32)), (.int (0 : Int32)), (.int (0 : Int32)), (.int (0 : Int32)), (.int (0 : Int32))] (.int (0 : Int32)) := (Arv.new A1 (by decide)).pad (pad_rep [] (.int (0 : Int32)) 7)
  have Z1 : n0 ≤ h1.size := Nat.le_trans Z0 E1.1
  obtain ⟨cl2, Ar2, qa2, Sa2, Na2, Ha2, Ga2⟩ := id V1
  have hin2 : ¬ ((0 : Int32) < 0 ∨ cl2.slots.size ≤ ((0 : Int32)).toNatClampNeg) := inb_of Sa2 ⟨by decide, by decide⟩
  obtain ⟨T3, h3, X3, e3, W3, st3⟩ := stB X1 hx hZ e1 Ar2 (j := (0 : Int32)) hin2 (g := (mkF m 15 #[iv u0, iv u1, iv u2, iv u3, iv (u3.toInt8.toInt32), rv b1, .unset, .unset, .unset] [(.int (u3.toInt8.toInt32)), (.int (0 : Int32)), (.ref b1)])) rfl rfl (hb hby at_15)
  rw [own_nb] at W3
  have V3 : Arv Z h3 b1 k1 .byte (7 : Int32) [(.int (u3.toInt8.toInt32)), (.int (0 : Int32)), (.int (0 : Int32)), (.int (0 : Int32)), (.int (0 : Int32)), (.int (0 : Int32)), (.int (0 : Int32))] (.int (0 : Int32)) := Arv.set Ar2 qa2 Sa2 Na2 Ha2 Ga2 (own_fb _) W3 0 rfl (Nat.le_of_ble_eq_true rfl)
  have N3 := Fr.snoc X3 N0 ge_b1
  have Z3 : n0 ≤ h3.size := Nat.le_trans Z1 (Keep.of_wr W3).1
  obtain ⟨cl5, Ar5, qa5, Sa5, Na5, Ha5, Ga5⟩ := id V3
  have hin5 : ¬ ((1 : Int32) < 0 ∨ cl5.slots.size ≤ ((1 : Int32)).toNatClampNeg) := inb_of Sa5 ⟨by decide, by decide⟩
  obtain ⟨T6, h6, X6, e6, W6, st6⟩ := stB X3 hx hZ e3 Ar5 (j := (1 : Int32)) hin5 (g := (mkF m 21 #[iv u0, iv u1, iv u2, iv u3, iv (u3.toInt8.toInt32), rv b1, .unset, .unset, .unset] [(.int (u3.toInt8.toInt32)), (.int (1 : Int32)), (.ref b1)])) rfl rfl (hb hby at_21)
  rw [own_nb] at W6
  have V6 : Arv Z h6 b1 k1 .byte (7 : Int32) [(.int (u3.toInt8.toInt32)), (.int (u3.toInt8.toInt32)), (.int (0 : Int32)), (.int (0 : Int32)), (.int (0 : Int32)), (.int (0 : Int32)), (.int (0 : Int32))] (.int (0 : Int32)) := Arv.set Ar5 qa5 Sa5 Na5 Ha5 Ga5 (own_fb _) W6 1 rfl (Nat.le_of_ble_eq_true rfl)
  have N6 := Fr.snoc X6 N3 ge_b1
  have Z6 : n0 ≤ h6.size := Nat.le_trans Z3 (Keep.of_wr W6).1
  obtain ⟨cl8, Ar8, qa8, Sa8, Na8, Ha8, Ga8⟩ := id V6
  have hin8 : ¬ ((2 : Int32) < 0 ∨ cl8.slots.size ≤ ((2 : Int32)).toNatClampNeg) := inb_of Sa8 ⟨by decide, by decide⟩
  obtain ⟨T9, h9, X9, e9, W9, st9⟩ := stB X6 hx hZ e6 Ar8 (j := (2 : Int32)) hin8 (g := (mkF m 27 #[iv u0, iv u1, iv u2, iv u3, iv (u3.toInt8.toInt32), rv b1, .unset, .unset, .unset] [(.int (u3.toInt8.toInt32)), (.int (2 : Int32)), (.ref b1)])) rfl rfl (hb hby at_27)
  rw [own_nb] at W9
  have V9 : Arv Z h9 b1 k1 .byte (7 : Int32) [(.int (u3.toInt8.toInt32)), (.int (u3.toInt8.toInt32)), (.int (u3.toInt8.toInt32)), (.int (0 : Int32)), (.int (0 : Int32)), (.int (0 : Int32)), (.int (0 : Int32))] (.int (0 : Int32)) := Arv.set Ar8 qa8 Sa8 Na8 Ha8 Ga8 (own_fb _) W9 2 rfl (Nat.le_of_ble_eq_true rfl)
  have N9 := Fr.snoc X9 N6 ge_b1
  have Z9 : n0 ≤ h9.size := Nat.le_trans Z6 (Keep.of_wr W9).1
  obtain ⟨cl11, Ar11, qa11, Sa11, Na11, Ha11, Ga11⟩ := id V9
  have hin11 : ¬ ((3 : Int32) < 0 ∨ cl11.slots.size ≤ ((3 : Int32)).toNatClampNeg) := inb_of Sa11 ⟨by decide, by decide⟩
  obtain ⟨T12, h12, X12, e12, W12, st12⟩ := stB X9 hx hZ e9 Ar11 (j := (3 : Int32)) hin11 (g := (mkF m 33 #[iv u0, iv u1, iv u2, iv u3, iv (u3.toInt8.toInt32), rv b1, .unset, .unset, .unset] [(.int (u3.toInt8.toInt32)), (.int (3 : Int32)), (.ref b1)])) rfl rfl (hb hby at_33)
  rw [own_nb] at W12
  have V12 : Arv Z h12 b1 k1 .byte (7 : Int32) [(.int (u3.toInt8.toInt32)), (.int (u3.toInt8.toInt32)), (.int (u3.toInt8.toInt32)), (.int (u3.toInt8.toInt32)), (.int (0 : Int32)), (.int (0 : Int32)), (.int (0 : Int32))] (.int (0 : Int32)) := Arv.set Ar11 qa11 Sa11 Na11 Ha11 Ga11 (own_fb _) W12 3 rfl (Nat.le_of_ble_eq_true rfl)
  have N12 := Fr.snoc X12 N9 ge_b1
  have Z12 : n0 ≤ h12.size := Nat.le_trans Z9 (Keep.of_wr W12).1
  obtain ⟨cl14, Ar14, qa14, Sa14, Na14, Ha14, Ga14⟩ := id V12
  have hin14 : ¬ ((4 : Int32) < 0 ∨ cl14.slots.size ≤ ((4 : Int32)).toNatClampNeg) := inb_of Sa14 ⟨by decide, by decide⟩
  obtain ⟨T15, h15, X15, e15, W15, st15⟩ := stB X12 hx hZ e12 Ar14 (j := (4 : Int32)) hin14 (g := (mkF m 39 #[iv u0, iv u1, iv u2, iv u3, iv (u3.toInt8.toInt32), rv b1, .unset, .unset, .unset] [(.int (u3.toInt8.toInt32)), (.int (4 : Int32)), (.ref b1)])) rfl rfl (hb hby at_39)
  rw [own_nb] at W15
  have V15 : Arv Z h15 b1 k1 .byte (7 : Int32) [(.int (u3.toInt8.toInt32)), (.int (u3.toInt8.toInt32)), (.int (u3.toInt8.toInt32)), (.int (u3.toInt8.toInt32)), (.int (u3.toInt8.toInt32)), (.int (0 : Int32)), (.int (0 : Int32))] (.int (0 : Int32)) := Arv.set Ar14 qa14 Sa14 Na14 Ha14 Ga14 (own_fb _) W15 4 rfl (Nat.le_of_ble_eq_true rfl)
  have N15 := Fr.snoc X15 N12 ge_b1
  have Z15 : n0 ≤ h15.size := Nat.le_trans Z12 (Keep.of_wr W15).1
  obtain ⟨cl17, Ar17, qa17, Sa17, Na17, Ha17, Ga17⟩ := id V15
  have hin17 : ¬ ((5 : Int32) < 0 ∨ cl17.slots.size ≤ ((5 : Int32)).toNatClampNeg) := inb_of Sa17 ⟨by decide, by decide⟩
  obtain ⟨T18, h18, X18, e18, W18, st18⟩ := stB X15 hx hZ e15 Ar17 (j := (5 : Int32)) hin17 (g := (mkF m 45 #[iv u0, iv u1, iv u2, iv u3, iv (u3.toInt8.toInt32), rv b1, .unset, .unset, .unset] [(.int (u3.toInt8.toInt32)), (.int (5 : Int32)), (.ref b1)])) rfl rfl (hb hby at_45)
  rw [own_nb] at W18
  have V18 : Arv Z h18 b1 k1 .byte (7 : Int32) [(.int (u3.toInt8.toInt32)), (.int (u3.toInt8.toInt32)), (.int (u3.toInt8.toInt32)), (.int (u3.toInt8.toInt32)), (.int (u3.toInt8.toInt32)), (.int (u3.toInt8.toInt32)), (.int (0 : Int32))] (.int (0 : Int32)) := Arv.set Ar17 qa17 Sa17 Na17 Ha17 Ga17 (own_fb _) W18 5 rfl (Nat.le_of_ble_eq_true rfl)
  have N18 := Fr.snoc X18 N15 ge_b1
  have Z18 : n0 ≤ h18.size := Nat.le_trans Z15 (Keep.of_wr W18).1
  obtain ⟨cl20, Ar20, qa20, Sa20, Na20, Ha20, Ga20⟩ := id V18
  have hin20 : ¬ ((6 : Int32) < 0 ∨ cl20.slots.size ≤ ((6 : Int32)).toNatClampNeg) := inb_of Sa20 ⟨by decide, by decide⟩
  obtain ⟨T21, h21, X21, e21, W21, st21⟩ := stB X18 hx hZ e18 Ar20 (j := (6 : Int32)) hin20 (g := (mkF m 52 #[iv u0, iv u1, iv u2, iv u3, iv (u3.toInt8.toInt32), rv b1, .unset, .unset, .unset] [(.int (u3.toInt8.toInt32)), (.int (6 : Int32)), (.ref b1)])) rfl rfl (hb hby at_52)
  rw [own_nb] at W21
  have V21 : Arv Z h21 b1 k1 .byte (7 : Int32) [(.int (u3.toInt8.toInt32)), (.int (u3.toInt8.toInt32)), (.int (u3.toInt8.toInt32)), (.int (u3.toInt8.toInt32)), (.int (u3.toInt8.toInt32)), (.int (u3.toInt8.toInt32)), (.int (u3.toInt8.toInt32))] (.int (0 : Int32)) := Arv.set Ar20 qa20 Sa20 Na20 Ha20 Ga20 (own_fb _) W21 6 rfl (Nat.le_of_ble_eq_true rfl)
  have N21 := Fr.snoc X21 N18 ge_b1
  have Z21 : n0 ≤ h21.size := Nat.le_trans Z18 (Keep.of_wr W21).1
  obtain ⟨_, _, ⟨T23, L23, k23, n23⟩, -, X23, ⟨Lc23, hQ23, l23, y23, z23⟩, st23⟩ := Jvm.LawKit.callS X21 hx (y := (⟨"com/example/tracewell/tracewell/record/WireRecord", "header", "(III[B)V"⟩ : MethodName)) hown (mvT hZ (hw _ (List.mem_of_getElem? (i := 1) rfl))) (mvT hZ (hw _ (List.mem_of_getElem? (i := 2) rfl))) (mvT hZ (hw _ (List.mem_of_getElem? (i := 3) rfl))) (mvT hZ (hw _ (List.mem_of_getElem? (i := 4) rfl))) (by decide) (backOf (W := 0) (rm1 l Z a0 hw [] u0 u1 u2 b1 k1 (u3.toInt8.toInt32) (u3.toInt8.toInt32) (u3.toInt8.toInt32) (u3.toInt8.toInt32) (u3.toInt8.toInt32) (u3.toInt8.toInt32) (u3.toInt8.toInt32) h21 n0 Z21 V21 ge_b1) hZ (hw _ (List.mem_of_getElem? (i := 4) rfl)) (hw _ (List.mem_of_getElem? (i := 3) rfl)) (by decide) (by decide)) (g := (mkF m 58 #[iv u0, iv u1, iv u2, iv u3, iv (u3.toInt8.toInt32), rv b1, .unset, .unset, .unset] [(.ref b1), (.int u2), (.int u1), (.int u0)])) rfl (by rw [hml]; rfl) (argsL := [(.int u0), (.int u1), (.int u2), (.ref b1)]) (rest := []) (lenOf pd_0 rfl) rfl (by show 2 * 0 + _ ≤ _; exact Nat.le_of_eq rfl) (hb hby at_58) (fun _ _ => ⟨rfl, e21, (by decide : 1 + 0 ≤ _), (by decide : 7 + 0 ≤ _)⟩)
  dsimp only [Pt.U, Pt.locs, Pt.cells, Pt.slots] at X23 l23 y23 z23 st23 hQ23
  subst l23 y23 z23
  obtain ⟨rfl, Nq23, Zq23, Vq23⟩ := hQ23
  have N23 := Fr.app N21 Nq23
  obtain ⟨cl24, Ar24, qa24, Sa24, Na24, Ha24, Ga24⟩ := id Vq23
  have hin24 : ¬ ((0 : Int32) < 0 ∨ cl24.slots.size ≤ ((0 : Int32)).toNatClampNeg) := inb_of Sa24 ⟨by decide, by decide⟩
  obtain ⟨cl25, Ar25, qa25, Sa25, Na25, Ha25, Ga25⟩ := id Vq23
  have hin25 : ¬ ((1 : Int32) < 0 ∨ cl25.slots.size ≤ ((1 : Int32)).toNatClampNeg) := inb_of Sa25 ⟨by decide, by decide⟩
  obtain ⟨cl26, Ar26, qa26, Sa26, Na26, Ha26, Ga26⟩ := id Vq23
  have hin26 : ¬ ((2 : Int32) < 0 ∨ cl26.slots.size ≤ ((2 : Int32)).toNatClampNeg) := inb_of Sa26 ⟨by decide, by decide⟩
  obtain ⟨cl27, Ar27, qa27, Sa27, Na27, Ha27, Ga27⟩ := id Vq23
  have hin27 : ¬ ((3 : Int32) < 0 ∨ cl27.slots.size ≤ ((3 : Int32)).toNatClampNeg) := inb_of Sa27 ⟨by decide, by decide⟩
  obtain ⟨cl28, Ar28, qa28, Sa28, Na28, Ha28, Ga28⟩ := id Vq23
  have hin28 : ¬ ((4 : Int32) < 0 ∨ cl28.slots.size ≤ ((4 : Int32)).toNatClampNeg) := inb_of Sa28 ⟨by decide, by decide⟩
  obtain ⟨cl29, Ar29, qa29, Sa29, Na29, Ha29, Ga29⟩ := id Vq23
  have hin29 : ¬ ((5 : Int32) < 0 ∨ cl29.slots.size ≤ ((5 : Int32)).toNatClampNeg) := inb_of Sa29 ⟨by decide, by decide⟩
  obtain ⟨cl30, Ar30, qa30, Sa30, Na30, Ha30, Ga30⟩ := id Vq23
  have hin30 : ¬ ((6 : Int32) < 0 ∨ cl30.slots.size ≤ ((6 : Int32)).toNatClampNeg) := inb_of Sa30 ⟨by decide, by decide⟩
  obtain ⟨fs, hr, hrun, hended, hW, hsame⟩ := X23.leave (v := some (.int (1 : Int32))) (fun h => by rw [Bd.returns] at h; cases h)
  refine ⟨_, _, S0 _ ?_, hrun, hended, _, _, rfl, ?_, ⟨_, rfl⟩, hW, hsame.mono (by decide) (by decide)⟩
  · skip
    show Steps p.tables e below (s₁.setTop (mkF m 0 #[iv u0, iv u1, iv u2, iv u3, .unset, .unset, .unset, .unset, .unset] [])) _
    refine XS.iloadN X0.here hx rfl (hb hby at_0) rfl ?_
    show Steps p.tables e below (s₁.setTop (mkF m 1 #[iv u0, iv u1, iv u2, iv u3, .unset, .unset, .unset, .unset, .unset] [(.int u3)])) _
    refine XS.i2b X0.here hx rfl (hb hby at_1) rfl ?_
    show Steps p.tables e below (s₁.setTop (mkF m 2 #[iv u0, iv u1, iv u2, iv u3, .unset, .unset, .unset, .unset, .unset] [(.int (u3.toInt8.toInt32))])) _
    refine XS.istore X0.here hx rfl (hb hby at_2) rfl (l' := #[iv u0, iv u1, iv u2, iv u3, iv (u3.toInt8.toInt32), .unset, .unset, .unset, .unset]) rfl ?_
    show Steps p.tables e below (s₁.setTop (mkF m 4 #[iv u0, iv u1, iv u2, iv u3, iv (u3.toInt8.toInt32), .unset, .unset, .unset, .unset] [])) _
    refine XS.bipush X0.here hx rfl (hb hby at_4) ?_
    show Steps p.tables e below (s₁.setTop (mkF m 6 #[iv u0, iv u1, iv u2, iv u3, iv (u3.toInt8.toInt32), .unset, .unset, .unset, .unset] [(.int (7 : Int32))])) _
    refine st1 _ ?_
    show Steps p.tables e below (T1.setTop (mkF m 8 #[iv u0, iv u1, iv u2, iv u3, iv (u3.toInt8.toInt32), .unset, .unset, .unset, .unset] [(.ref b1)])) _
    refine XS.astore X1.here hx rfl (hb hby at_8) rfl rfl (l' := #[iv u0, iv u1, iv u2, iv u3, iv (u3.toInt8.toInt32), rv b1, .unset, .unset, .unset]) rfl ?_
    show Steps p.tables e below (T1.setTop (mkF m 10 #[iv u0, iv u1, iv u2, iv u3, iv (u3.toInt8.toInt32), rv b1, .unset, .unset, .unset] [])) _
    refine XS.aload X1.here hx rfl (hb hby at_10) rfl rfl ?_
    show Steps p.tables e below (T1.setTop (mkF m 12 #[iv u0, iv u1, iv u2, iv u3, iv (u3.toInt8.toInt32), rv b1, .unset, .unset, .unset] [(.ref b1)])) _
    refine XS.iconst X1.here hx rfl (hb hby at_12) ?_
    show Steps p.tables e below (T1.setTop (mkF m 13 #[iv u0, iv u1, iv u2, iv u3, iv (u3.toInt8.toInt32), rv b1, .unset, .unset, .unset] [(.int (0 : Int32)), (.ref b1)])) _
    refine XS.iload X1.here hx rfl (hb hby at_13) rfl ?_
    show Steps p.tables e below (T1.setTop (mkF m 15 #[iv u0, iv u1, iv u2, iv u3, iv (u3.toInt8.toInt32), rv b1, .unset, .unset, .unset] [(.int (u3.toInt8.toInt32)), (.int (0 : Int32)), (.ref b1)])) _
    refine st3 _ ?_
    show Steps p.tables e below (T3.setTop (mkF m 16 #[iv u0, iv u1, iv u2, iv u3, iv (u3.toInt8.toInt32), rv b1, .unset, .unset, .unset] [])) _
    refine XS.aload X3.here hx rfl (hb hby at_16) rfl rfl ?_
    show Steps p.tables e below (T3.setTop (mkF m 18 #[iv u0, iv u1, iv u2, iv u3, iv (u3.toInt8.toInt32), rv b1, .unset, .unset, .unset] [(.ref b1)])) _
    refine XS.iconst X3.here hx rfl (hb hby at_18) ?_
    show Steps p.tables e below (T3.setTop (mkF m 19 #[iv u0, iv u1, iv u2, iv u3, iv (u3.toInt8.toInt32), rv b1, .unset, .unset, .unset] [(.int (1 : Int32)), (.ref b1)])) _
    refine XS.iload X3.here hx rfl (hb hby at_19) rfl ?_
    show Steps p.tables e below (T3.setTop (mkF m 21 #[iv u0, iv u1, iv u2, iv u3, iv (u3.toInt8.toInt32), rv b1, .unset, .unset, .unset] [(.int (u3.toInt8.toInt32)), (.int (1 : Int32)), (.ref b1)])) _
    refine st6 _ ?_
    show Steps p.tables e below (T6.setTop (mkF m 22 #[iv u0, iv u1, iv u2, iv u3, iv (u3.toInt8.toInt32), rv b1, .unset, .unset, .unset] [])) _
    refine XS.aload X6.here hx rfl (hb hby at_22) rfl rfl ?_
    show Steps p.tables e below (T6.setTop (mkF m 24 #[iv u0, iv u1, iv u2, iv u3, iv (u3.toInt8.toInt32), rv b1, .unset, .unset, .unset] [(.ref b1)])) _
    refine XS.iconst X6.here hx rfl (hb hby at_24) ?_
    show Steps p.tables e below (T6.setTop (mkF m 25 #[iv u0, iv u1, iv u2, iv u3, iv (u3.toInt8.toInt32), rv b1, .unset, .unset, .unset] [(.int (2 : Int32)), (.ref b1)])) _
    refine XS.iload X6.here hx rfl (hb hby at_25) rfl ?_
    show Steps p.tables e below (T6.setTop (mkF m 27 #[iv u0, iv u1, iv u2, iv u3, iv (u3.toInt8.toInt32), rv b1, .unset, .unset, .unset] [(.int (u3.toInt8.toInt32)), (.int (2 : Int32)), (.ref b1)])) _
    refine st9 _ ?_
    show Steps p.tables e below (T9.setTop (mkF m 28 #[iv u0, iv u1, iv u2, iv u3, iv (u3.toInt8.toInt32), rv b1, .unset, .unset, .unset] [])) _
    refine XS.aload X9.here hx rfl (hb hby at_28) rfl rfl ?_
    show Steps p.tables e below (T9.setTop (mkF m 30 #[iv u0, iv u1, iv u2, iv u3, iv (u3.toInt8.toInt32), rv b1, .unset, .unset, .unset] [(.ref b1)])) _
    refine XS.iconst X9.here hx rfl (hb hby at_30) ?_
    show Steps p.tables e below (T9.setTop (mkF m 31 #[iv u0, iv u1, iv u2, iv u3, iv (u3.toInt8.toInt32), rv b1, .unset, .unset, .unset] [(.int (3 : Int32)), (.ref b1)])) _
    refine XS.iload X9.here hx rfl (hb hby at_31) rfl ?_
    show Steps p.tables e below (T9.setTop (mkF m 33 #[iv u0, iv u1, iv u2, iv u3, iv (u3.toInt8.toInt32), rv b1, .unset, .unset, .unset] [(.int (u3.toInt8.toInt32)), (.int (3 : Int32)), (.ref b1)])) _
    refine st12 _ ?_
    show Steps p.tables e below (T12.setTop (mkF m 34 #[iv u0, iv u1, iv u2, iv u3, iv (u3.toInt8.toInt32), rv b1, .unset, .unset, .unset] [])) _
    refine XS.aload X12.here hx rfl (hb hby at_34) rfl rfl ?_
    show Steps p.tables e below (T12.setTop (mkF m 36 #[iv u0, iv u1, iv u2, iv u3, iv (u3.toInt8.toInt32), rv b1, .unset, .unset, .unset] [(.ref b1)])) _
    refine XS.iconst X12.here hx rfl (hb hby at_36) ?_
    show Steps p.tables e below (T12.setTop (mkF m 37 #[iv u0, iv u1, iv u2, iv u3, iv (u3.toInt8.toInt32), rv b1, .unset, .unset, .unset] [(.int (4 : Int32)), (.ref b1)])) _
    refine XS.iload X12.here hx rfl (hb hby at_37) rfl ?_
    show Steps p.tables e below (T12.setTop (mkF m 39 #[iv u0, iv u1, iv u2, iv u3, iv (u3.toInt8.toInt32), rv b1, .unset, .unset, .unset] [(.int (u3.toInt8.toInt32)), (.int (4 : Int32)), (.ref b1)])) _
    refine st15 _ ?_
    show Steps p.tables e below (T15.setTop (mkF m 40 #[iv u0, iv u1, iv u2, iv u3, iv (u3.toInt8.toInt32), rv b1, .unset, .unset, .unset] [])) _
    refine XS.aload X15.here hx rfl (hb hby at_40) rfl rfl ?_
    show Steps p.tables e below (T15.setTop (mkF m 42 #[iv u0, iv u1, iv u2, iv u3, iv (u3.toInt8.toInt32), rv b1, .unset, .unset, .unset] [(.ref b1)])) _
    refine XS.iconst X15.here hx rfl (hb hby at_42) ?_
    show Steps p.tables e below (T15.setTop (mkF m 43 #[iv u0, iv u1, iv u2, iv u3, iv (u3.toInt8.toInt32), rv b1, .unset, .unset, .unset] [(.int (5 : Int32)), (.ref b1)])) _
    refine XS.iload X15.here hx rfl (hb hby at_43) rfl ?_
    show Steps p.tables e below (T15.setTop (mkF m 45 #[iv u0, iv u1, iv u2, iv u3, iv (u3.toInt8.toInt32), rv b1, .unset, .unset, .unset] [(.int (u3.toInt8.toInt32)), (.int (5 : Int32)), (.ref b1)])) _
    refine st18 _ ?_
    show Steps p.tables e below (T18.setTop (mkF m 46 #[iv u0, iv u1, iv u2, iv u3, iv (u3.toInt8.toInt32), rv b1, .unset, .unset, .unset] [])) _
    refine XS.aload X18.here hx rfl (hb hby at_46) rfl rfl ?_
    show Steps p.tables e below (T18.setTop (mkF m 48 #[iv u0, iv u1, iv u2, iv u3, iv (u3.toInt8.toInt32), rv b1, .unset, .unset, .unset] [(.ref b1)])) _
    refine XS.bipush X18.here hx rfl (hb hby at_48) ?_
    show Steps p.tables e below (T18.setTop (mkF m 50 #[iv u0, iv u1, iv u2, iv u3, iv (u3.toInt8.toInt32), rv b1, .unset, .unset, .unset] [(.int (6 : Int32)), (.ref b1)])) _
    refine XS.iload X18.here hx rfl (hb hby at_50) rfl ?_
    show Steps p.tables e below (T18.setTop (mkF m 52 #[iv u0, iv u1, iv u2, iv u3, iv (u3.toInt8.toInt32), rv b1, .unset, .unset, .unset] [(.int (u3.toInt8.toInt32)), (.int (6 : Int32)), (.ref b1)])) _
    refine st21 _ ?_
    show Steps p.tables e below (T21.setTop (mkF m 53 #[iv u0, iv u1, iv u2, iv u3, iv (u3.toInt8.toInt32), rv b1, .unset, .unset, .unset] [])) _
    refine XS.iloadN X21.here hx rfl (hb hby at_53) rfl ?_
    show Steps p.tables e below (T21.setTop (mkF m 54 #[iv u0, iv u1, iv u2, iv u3, iv (u3.toInt8.toInt32), rv b1, .unset, .unset, .unset] [(.int u0)])) _
    refine XS.iloadN X21.here hx rfl (hb hby at_54) rfl ?_
    show Steps p.tables e below (T21.setTop (mkF m 55 #[iv u0, iv u1, iv u2, iv u3, iv (u3.toInt8.toInt32), rv b1, .unset, .unset, .unset] [(.int u1), (.int u0)])) _
    refine XS.iloadN X21.here hx rfl (hb hby at_55) rfl ?_
    show Steps p.tables e below (T21.setTop (mkF m 56 #[iv u0, iv u1, iv u2, iv u3, iv (u3.toInt8.toInt32), rv b1, .unset, .unset, .unset] [(.int u2), (.int u1), (.int u0)])) _
    refine XS.aload X21.here hx rfl (hb hby at_56) rfl rfl ?_
    show Steps p.tables e below (T21.setTop (mkF m 58 #[iv u0, iv u1, iv u2, iv u3, iv (u3.toInt8.toInt32), rv b1, .unset, .unset, .unset] [(.ref b1), (.int u2), (.int u1), (.int u0)])) _
    refine st23 _ ?_
    show Steps p.tables e below (T23.setTop (mkF m 61 #[iv u0, iv u1, iv u2, iv u3, iv (u3.toInt8.toInt32), rv b1, .unset, .unset, .unset] [])) _
    refine XS.aload X23.here hx rfl (hb hby at_61) rfl rfl ?_
    show Steps p.tables e below (T23.setTop (mkF m 63 #[iv u0, iv u1, iv u2, iv u3, iv (u3.toInt8.toInt32), rv b1, .unset, .unset, .unset] [(.ref b1)])) _
    refine XS.iconst X23.here hx rfl (hb hby at_63) ?_
    show Steps p.tables e below (T23.setTop (mkF m 64 #[iv u0, iv u1, iv u2, iv u3, iv (u3.toInt8.toInt32), rv b1, .unset, .unset, .unset] [(.int (0 : Int32)), (.ref b1)])) _
    refine X23.baloadBytes hx (j := (0 : Int32)) (v := (.int (u0.toInt8.toInt32))) Ar24.1 (State.isArrayOf_alike hZ.alike Ar24.2.1) Ar24.2.2 hin24 (Has.at Ha24 hin24 rfl) (g := (mkF m 64 #[iv u0, iv u1, iv u2, iv u3, iv (u3.toInt8.toInt32), rv b1, .unset, .unset, .unset] [(.int (0 : Int32)), (.ref b1)])) rfl rfl (hb hby at_64) _ ?_
    show Steps p.tables e below (T23.setTop (mkF m 65 #[iv u0, iv u1, iv u2, iv u3, iv (u3.toInt8.toInt32), rv b1, .unset, .unset, .unset] [(.int (u0.toInt8.toInt32))])) _
    refine XS.sipush X23.here hx rfl (hb hby at_65) ?_
    show Steps p.tables e below (T23.setTop (mkF m 68 #[iv u0, iv u1, iv u2, iv u3, iv (u3.toInt8.toInt32), rv b1, .unset, .unset, .unset] [(.int (255 : Int32)), (.int (u0.toInt8.toInt32))])) _
    refine XS.iand X23.here hx rfl (hb hby at_68) rfl ?_
    show Steps p.tables e below (T23.setTop (mkF m 69 #[iv u0, iv u1, iv u2, iv u3, iv (u3.toInt8.toInt32), rv b1, .unset, .unset, .unset] [(.int ((u0.toInt8.toInt32) &&& (255 : Int32)))])) _
    refine XS.istore X23.here hx rfl (hb hby at_69) rfl (l' := #[iv u0, iv u1, iv u2, iv u3, iv (u3.toInt8.toInt32), rv b1, iv ((u0.toInt8.toInt32) &&& (255 : Int32)), .unset, .unset]) rfl ?_
    show Steps p.tables e below (T23.setTop (mkF m 71 #[iv u0, iv u1, iv u2, iv u3, iv (u3.toInt8.toInt32), rv b1, iv ((u0.toInt8.toInt32) &&& (255 : Int32)), .unset, .unset] [])) _
    refine XS.aload X23.here hx rfl (hb hby at_71) rfl rfl ?_
    show Steps p.tables e below (T23.setTop (mkF m 73 #[iv u0, iv u1, iv u2, iv u3, iv (u3.toInt8.toInt32), rv b1, iv ((u0.toInt8.toInt32) &&& (255 : Int32)), .unset, .unset] [(.ref b1)])) _
    refine XS.iconst X23.here hx rfl (hb hby at_73) ?_
    show Steps p.tables e below (T23.setTop (mkF m 74 #[iv u0, iv u1, iv u2, iv u3, iv (u3.toInt8.toInt32), rv b1, iv ((u0.toInt8.toInt32) &&& (255 : Int32)), .unset, .unset] [(.int (1 : Int32)), (.ref b1)])) _
    refine X23.baloadBytes hx (j := (1 : Int32)) (v := (.int (((u1.toUInt32 >>> ((8 : Int32) &&& 31).toUInt32).toInt32).toInt8.toInt32))) Ar25.1 (State.isArrayOf_alike hZ.alike Ar25.2.1) Ar25.2.2 hin25 (Has.at Ha25 hin25 rfl) (g := (mkF m 74 #[iv u0, iv u1, iv u2, iv u3, iv (u3.toInt8.toInt32), rv b1, iv ((u0.toInt8.toInt32) &&& (255 : Int32)), .unset, .unset] [(.int (1 : Int32)), (.ref b1)])) rfl rfl (hb hby at_74) _ ?_
    show Steps p.tables e below (T23.setTop (mkF m 75 #[iv u0, iv u1, iv u2, iv u3, iv (u3.toInt8.toInt32), rv b1, iv ((u0.toInt8.toInt32) &&& (255 : Int32)), .unset, .unset] [(.int (((u1.toUInt32 >>> ((8 : Int32) &&& 31).toUInt32).toInt32).toInt8.toInt32))])) _
    refine XS.sipush X23.here hx rfl (hb hby at_75) ?_
    show Steps p.tables e below (T23.setTop (mkF m 78 #[iv u0, iv u1, iv u2, iv u3, iv (u3.toInt8.toInt32), rv b1, iv ((u0.toInt8.toInt32) &&& (255 : Int32)), .unset, .unset] [(.int (255 : Int32)), (.int (((u1.toUInt32 >>> ((8 : Int32) &&& 31).toUInt32).toInt32).toInt8.toInt32))])) _
    refine XS.iand X23.here hx rfl (hb hby at_78) rfl ?_
    show Steps p.tables e below (T23.setTop (mkF m 79 #[iv u0, iv u1, iv u2, iv u3, iv (u3.toInt8.toInt32), rv b1, iv ((u0.toInt8.toInt32) &&& (255 : Int32)), .unset, .unset] [(.int ((((u1.toUInt32 >>> ((8 : Int32) &&& 31).toUInt32).toInt32).toInt8.toInt32) &&& (255 : Int32)))])) _
    refine XS.bipush X23.here hx rfl (hb hby at_79) ?_
    show Steps p.tables e below (T23.setTop (mkF m 81 #[iv u0, iv u1, iv u2, iv u3, iv (u3.toInt8.toInt32), rv b1, iv ((u0.toInt8.toInt32) &&& (255 : Int32)), .unset, .unset] [(.int (8 : Int32)), (.int ((((u1.toUInt32 >>> ((8 : Int32) &&& 31).toUInt32).toInt32).toInt8.toInt32) &&& (255 : Int32)))])) _
    refine XS.ishl X23.here hx rfl (hb hby at_81) rfl ?_
    show Steps p.tables e below (T23.setTop (mkF m 82 #[iv u0, iv u1, iv u2, iv u3, iv (u3.toInt8.toInt32), rv b1, iv ((u0.toInt8.toInt32) &&& (255 : Int32)), .unset, .unset] [(.int (((((u1.toUInt32 >>> ((8 : Int32) &&& 31).toUInt32).toInt32).toInt8.toInt32) &&& (255 : Int32)) <<< ((8 : Int32) &&& 31)))])) _
    refine XS.aload X23.here hx rfl (hb hby at_82) rfl rfl ?_
    show Steps p.tables e below (T23.setTop (mkF m 84 #[iv u0, iv u1, iv u2, iv u3, iv (u3.toInt8.toInt32), rv b1, iv ((u0.toInt8.toInt32) &&& (255 : Int32)), .unset, .unset] [(.ref b1), (.int (((((u1.toUInt32 >>> ((8 : Int32) &&& 31).toUInt32).toInt32).toInt8.toInt32) &&& (255 : Int32)) <<< ((8 : Int32) &&& 31)))])) _
    refine XS.iconst X23.here hx rfl (hb hby at_84) ?_
    show Steps p.tables e below (T23.setTop (mkF m 85 #[iv u0, iv u1, iv u2, iv u3, iv (u3.toInt8.toInt32), rv b1, iv ((u0.toInt8.toInt32) &&& (255 : Int32)), .unset, .unset] [(.int (2 : Int32)), (.ref b1), (.int (((((u1.toUInt32 >>> ((8 : Int32) &&& 31).toUInt32).toInt32).toInt8.toInt32) &&& (255 : Int32)) <<< ((8 : Int32) &&& 31)))])) _
    refine X23.baloadBytes hx (j := (2 : Int32)) (v := (.int (u1.toInt8.toInt32))) Ar26.1 (State.isArrayOf_alike hZ.alike Ar26.2.1) Ar26.2.2 hin26 (Has.at Ha26 hin26 rfl) (g := (mkF m 85 #[iv u0, iv u1, iv u2, iv u3, iv (u3.toInt8.toInt32), rv b1, iv ((u0.toInt8.toInt32) &&& (255 : Int32)), .unset, .unset] [(.int (2 : Int32)), (.ref b1), (.int (((((u1.toUInt32 >>> ((8 : Int32) &&& 31).toUInt32).toInt32).toInt8.toInt32) &&& (255 : Int32)) <<< ((8 : Int32) &&& 31)))])) rfl rfl (hb hby at_85) _ ?_
    show Steps p.tables e below (T23.setTop (mkF m 86 #[iv u0, iv u1, iv u2, iv u3, iv (u3.toInt8.toInt32), rv b1, iv ((u0.toInt8.toInt32) &&& (255 : Int32)), .unset, .unset] [(.int (u1.toInt8.toInt32)), (.int (((((u1.toUInt32 >>> ((8 : Int32) &&& 31).toUInt32).toInt32).toInt8.toInt32) &&& (255 : Int32)) <<< ((8 : Int32) &&& 31)))])) _
    refine XS.sipush X23.here hx rfl (hb hby at_86) ?_
    show Steps p.tables e below (T23.setTop (mkF m 89 #[iv u0, iv u1, iv u2, iv u3, iv (u3.toInt8.toInt32), rv b1, iv ((u0.toInt8.toInt32) &&& (255 : Int32)), .unset, .unset] [(.int (255 : Int32)), (.int (u1.toInt8.toInt32)), (.int (((((u1.toUInt32 >>> ((8 : Int32) &&& 31).toUInt32).toInt32).toInt8.toInt32) &&& (255 : Int32)) <<< ((8 : Int32) &&& 31)))])) _
    refine XS.iand X23.here hx rfl (hb hby at_89) rfl ?_
    show Steps p.tables e below (T23.setTop (mkF m 90 #[iv u0, iv u1, iv u2, iv u3, iv (u3.toInt8.toInt32), rv b1, iv ((u0.toInt8.toInt32) &&& (255 : Int32)), .unset, .unset] [(.int ((u1.toInt8.toInt32) &&& (255 : Int32))), (.int (((((u1.toUInt32 >>> ((8 : Int32) &&& 31).toUInt32).toInt32).toInt8.toInt32) &&& (255 : Int32)) <<< ((8 : Int32) &&& 31)))])) _
    refine XS.ior X23.here hx rfl (hb hby at_90) rfl ?_
    show Steps p.tables e below (T23.setTop (mkF m 91 #[iv u0, iv u1, iv u2, iv u3, iv (u3.toInt8.toInt32), rv b1, iv ((u0.toInt8.toInt32) &&& (255 : Int32)), .unset, .unset] [(.int ((((((u1.toUInt32 >>> ((8 : Int32) &&& 31).toUInt32).toInt32).toInt8.toInt32) &&& (255 : Int32)) <<< ((8 : Int32) &&& 31)) ||| ((u1.toInt8.toInt32) &&& (255 : Int32))))])) _
    refine XS.istore X23.here hx rfl (hb hby at_91) rfl (l' := #[iv u0, iv u1, iv u2, iv u3, iv (u3.toInt8.toInt32), rv b1, iv ((u0.toInt8.toInt32) &&& (255 : Int32)), iv ((((((u1.toUInt32 >>> ((8 : Int32) &&& 31).toUInt32).toInt32).toInt8.toInt32) &&& (255 : Int32)) <<< ((8 : Int32) &&& 31)) ||| ((u1.toInt8.toInt32) &&& (255 : Int32))), .unset]) rfl ?_
    show Steps p.tables e below (T23.setTop (mkF m 93 #[iv u0, iv u1, iv u2, iv u3, iv (u3.toInt8.toInt32), rv b1, iv ((u0.toInt8.toInt32) &&& (255 : Int32)), iv ((((((u1.toUInt32 >>> ((8 : Int32) &&& 31).toUInt32).toInt32).toInt8.toInt32) &&& (255 : Int32)) <<< ((8 : Int32) &&& 31)) ||| ((u1.toInt8.toInt32) &&& (255 : Int32))), .unset] [])) _
    refine XS.aload X23.here hx rfl (hb hby at_93) rfl rfl ?_
    show Steps p.tables e below (T23.setTop (mkF m 95 #[iv u0, iv u1, iv u2, iv u3, iv (u3.toInt8.toInt32), rv b1, iv ((u0.toInt8.toInt32) &&& (255 : Int32)), iv ((((((u1.toUInt32 >>> ((8 : Int32) &&& 31).toUInt32).toInt32).toInt8.toInt32) &&& (255 : Int32)) <<< ((8 : Int32) &&& 31)) ||| ((u1.toInt8.toInt32) &&& (255 : Int32))), .unset] [(.ref b1)])) _
    refine XS.iconst X23.here hx rfl (hb hby at_95) ?_
    show Steps p.tables e below (T23.setTop (mkF m 96 #[iv u0, iv u1, iv u2, iv u3, iv (u3.toInt8.toInt32), rv b1, iv ((u0.toInt8.toInt32) &&& (255 : Int32)), iv ((((((u1.toUInt32 >>> ((8 : Int32) &&& 31).toUInt32).toInt32).toInt8.toInt32) &&& (255 : Int32)) <<< ((8 : Int32) &&& 31)) ||| ((u1.toInt8.toInt32) &&& (255 : Int32))), .unset] [(.int (3 : Int32)), (.ref b1)])) _
    refine X23.baloadBytes hx (j := (3 : Int32)) (v := (.int (((u2.toUInt32 >>> ((8 : Int32) &&& 31).toUInt32).toInt32).toInt8.toInt32))) Ar27.1 (State.isArrayOf_alike hZ.alike Ar27.2.1) Ar27.2.2 hin27 (Has.at Ha27 hin27 rfl) (g := (mkF m 96 #[iv u0, iv u1, iv u2, iv u3, iv (u3.toInt8.toInt32), rv b1, iv ((u0.toInt8.toInt32) &&& (255 : Int32)), iv ((((((u1.toUInt32 >>> ((8 : Int32) &&& 31).toUInt32).toInt32).toInt8.toInt32) &&& (255 : Int32)) <<< ((8 : Int32) &&& 31)) ||| ((u1.toInt8.toInt32) &&& (255 : Int32))), .unset] [(.int (3 : Int32)), (.ref b1)])) rfl rfl (hb hby at_96) _ ?_
    show Steps p.tables e below (T23.setTop (mkF m 97 #[iv u0, iv u1, iv u2, iv u3, iv (u3.toInt8.toInt32), rv b1, iv ((u0.toInt8.toInt32) &&& (255 : Int32)), iv ((((((u1.toUInt32 >>> ((8 : Int32) &&& 31).toUInt32).toInt32).toInt8.toInt32) &&& (255 : Int32)) <<< ((8 : Int32) &&& 31)) ||| ((u1.toInt8.toInt32) &&& (255 : Int32))), .unset] [(.int (((u2.toUInt32 >>> ((8 : Int32) &&& 31).toUInt32).toInt32).toInt8.toInt32))])) _
    refine XS.sipush X23.here hx rfl (hb hby at_97) ?_
    show Steps p.tables e below (T23.setTop (mkF m 100 #[iv u0, iv u1, iv u2, iv u3, iv (u3.toInt8.toInt32), rv b1, iv ((u0.toInt8.toInt32) &&& (255 : Int32)), iv ((((((u1.toUInt32 >>> ((8 : Int32) &&& 31).toUInt32).toInt32).toInt8.toInt32) &&& (255 : Int32)) <<< ((8 : Int32) &&& 31)) ||| ((u1.toInt8.toInt32) &&& (255 : Int32))), .unset] [(.int (255 : Int32)), (.int (((u2.toUInt32 >>> ((8 : Int32) &&& 31).toUInt32).toInt32).toInt8.toInt32))])) _
    refine XS.iand X23.here hx rfl (hb hby at_100) rfl ?_
    show Steps p.tables e below (T23.setTop (mkF m 101 #[iv u0, iv u1, iv u2, iv u3, iv (u3.toInt8.toInt32), rv b1, iv ((u0.toInt8.toInt32) &&& (255 : Int32)), iv ((((((u1.toUInt32 >>> ((8 : Int32) &&& 31).toUInt32).toInt32).toInt8.toInt32) &&& (255 : Int32)) <<< ((8 : Int32) &&& 31)) ||| ((u1.toInt8.toInt32) &&& (255 : Int32))), .unset] [(.int ((((u2.toUInt32 >>> ((8 : Int32) &&& 31).toUInt32).toInt32).toInt8.toInt32) &&& (255 : Int32)))])) _
    refine XS.bipush X23.here hx rfl (hb hby at_101) ?_
    show Steps p.tables e below (T23.setTop (mkF m 103 #[iv u0, iv u1, iv u2, iv u3, iv (u3.toInt8.toInt32), rv b1, iv ((u0.toInt8.toInt32) &&& (255 : Int32)), iv ((((((u1.toUInt32 >>> ((8 : Int32) &&& 31).toUInt32).toInt32).toInt8.toInt32) &&& (255 : Int32)) <<< ((8 : Int32) &&& 31)) ||| ((u1.toInt8.toInt32) &&& (255 : Int32))), .unset] [(.int (8 : Int32)), (.int ((((u2.toUInt32 >>> ((8 : Int32) &&& 31).toUInt32).toInt32).toInt8.toInt32) &&& (255 : Int32)))])) _
    refine XS.ishl X23.here hx rfl (hb hby at_103) rfl ?_
    show Steps p.tables e below (T23.setTop (mkF m 104 #[iv u0, iv u1, iv u2, iv u3, iv (u3.toInt8.toInt32), rv b1, iv ((u0.toInt8.toInt32) &&& (255 : Int32)), iv ((((((u1.toUInt32 >>> ((8 : Int32) &&& 31).toUInt32).toInt32).toInt8.toInt32) &&& (255 : Int32)) <<< ((8 : Int32) &&& 31)) ||| ((u1.toInt8.toInt32) &&& (255 : Int32))), .unset] [(.int (((((u2.toUInt32 >>> ((8 : Int32) &&& 31).toUInt32).toInt32).toInt8.toInt32) &&& (255 : Int32)) <<< ((8 : Int32) &&& 31)))])) _
    refine XS.aload X23.here hx rfl (hb hby at_104) rfl rfl ?_
    show Steps p.tables e below (T23.setTop (mkF m 106 #[iv u0, iv u1, iv u2, iv u3, iv (u3.toInt8.toInt32), rv b1, iv ((u0.toInt8.toInt32) &&& (255 : Int32)), iv ((((((u1.toUInt32 >>> ((8 : Int32) &&& 31).toUInt32).toInt32).toInt8.toInt32) &&& (255 : Int32)) <<< ((8 : Int32) &&& 31)) ||| ((u1.toInt8.toInt32) &&& (255 : Int32))), .unset] [(.ref b1), (.int (((((u2.toUInt32 >>> ((8 : Int32) &&& 31).toUInt32).toInt32).toInt8.toInt32) &&& (255 : Int32)) <<< ((8 : Int32) &&& 31)))])) _
    refine XS.iconst X23.here hx rfl (hb hby at_106) ?_
    show Steps p.tables e below (T23.setTop (mkF m 107 #[iv u0, iv u1, iv u2, iv u3, iv (u3.toInt8.toInt32), rv b1, iv ((u0.toInt8.toInt32) &&& (255 : Int32)), iv ((((((u1.toUInt32 >>> ((8 : Int32) &&& 31).toUInt32).toInt32).toInt8.toInt32) &&& (255 : Int32)) <<< ((8 : Int32) &&& 31)) ||| ((u1.toInt8.toInt32) &&& (255 : Int32))), .unset] [(.int (4 : Int32)), (.ref b1), (.int (((((u2.toUInt32 >>> ((8 : Int32) &&& 31).toUInt32).toInt32).toInt8.toInt32) &&& (255 : Int32)) <<< ((8 : Int32) &&& 31)))])) _
    refine X23.baloadBytes hx (j := (4 : Int32)) (v := (.int (u2.toInt8.toInt32))) Ar28.1 (State.isArrayOf_alike hZ.alike Ar28.2.1) Ar28.2.2 hin28 (Has.at Ha28 hin28 rfl) (g := (mkF m 107 #[iv u0, iv u1, iv u2, iv u3, iv (u3.toInt8.toInt32), rv b1, iv ((u0.toInt8.toInt32) &&& (255 : Int32)), iv ((((((u1.toUInt32 >>> ((8 : Int32) &&& 31).toUInt32).toInt32).toInt8.toInt32) &&& (255 : Int32)) <<< ((8 : Int32) &&& 31)) ||| ((u1.toInt8.toInt32) &&& (255 : Int32))), .unset] [(.int (4 : Int32)), (.ref b1), (.int (((((u2.toUInt32 >>> ((8 : Int32) &&& 31).toUInt32).toInt32).toInt8.toInt32) &&& (255 : Int32)) <<< ((8 : Int32) &&& 31)))])) rfl rfl (hb hby at_107) _ ?_
    show Steps p.tables e below (T23.setTop (mkF m 108 #[iv u0, iv u1, iv u2, iv u3, iv (u3.toInt8.toInt32), rv b1, iv ((u0.toInt8.toInt32) &&& (255 : Int32)), iv ((((((u1.toUInt32 >>> ((8 : Int32) &&& 31).toUInt32).toInt32).toInt8.toInt32) &&& (255 : Int32)) <<< ((8 : Int32) &&& 31)) ||| ((u1.toInt8.toInt32) &&& (255 : Int32))), .unset] [(.int (u2.toInt8.toInt32)), (.int (((((u2.toUInt32 >>> ((8 : Int32) &&& 31).toUInt32).toInt32).toInt8.toInt32) &&& (255 : Int32)) <<< ((8 : Int32) &&& 31)))])) _
    refine XS.sipush X23.here hx rfl (hb hby at_108) ?_
    show Steps p.tables e below (T23.setTop (mkF m 111 #[iv u0, iv u1, iv u2, iv u3, iv (u3.toInt8.toInt32), rv b1, iv ((u0.toInt8.toInt32) &&& (255 : Int32)), iv ((((((u1.toUInt32 >>> ((8 : Int32) &&& 31).toUInt32).toInt32).toInt8.toInt32) &&& (255 : Int32)) <<< ((8 : Int32) &&& 31)) ||| ((u1.toInt8.toInt32) &&& (255 : Int32))), .unset] [(.int (255 : Int32)), (.int (u2.toInt8.toInt32)), (.int (((((u2.toUInt32 >>> ((8 : Int32) &&& 31).toUInt32).toInt32).toInt8.toInt32) &&& (255 : Int32)) <<< ((8 : Int32) &&& 31)))])) _
    refine XS.iand X23.here hx rfl (hb hby at_111) rfl ?_
    show Steps p.tables e below (T23.setTop (mkF m 112 #[iv u0, iv u1, iv u2, iv u3, iv (u3.toInt8.toInt32), rv b1, iv ((u0.toInt8.toInt32) &&& (255 : Int32)), iv ((((((u1.toUInt32 >>> ((8 : Int32) &&& 31).toUInt32).toInt32).toInt8.toInt32) &&& (255 : Int32)) <<< ((8 : Int32) &&& 31)) ||| ((u1.toInt8.toInt32) &&& (255 : Int32))), .unset] [(.int ((u2.toInt8.toInt32) &&& (255 : Int32))), (.int (((((u2.toUInt32 >>> ((8 : Int32) &&& 31).toUInt32).toInt32).toInt8.toInt32) &&& (255 : Int32)) <<< ((8 : Int32) &&& 31)))])) _
    refine XS.ior X23.here hx rfl (hb hby at_112) rfl ?_
    show Steps p.tables e below (T23.setTop (mkF m 113 #[iv u0, iv u1, iv u2, iv u3, iv (u3.toInt8.toInt32), rv b1, iv ((u0.toInt8.toInt32) &&& (255 : Int32)), iv ((((((u1.toUInt32 >>> ((8 : Int32) &&& 31).toUInt32).toInt32).toInt8.toInt32) &&& (255 : Int32)) <<< ((8 : Int32) &&& 31)) ||| ((u1.toInt8.toInt32) &&& (255 : Int32))), .unset] [(.int ((((((u2.toUInt32 >>> ((8 : Int32) &&& 31).toUInt32).toInt32).toInt8.toInt32) &&& (255 : Int32)) <<< ((8 : Int32) &&& 31)) ||| ((u2.toInt8.toInt32) &&& (255 : Int32))))])) _
    refine XS.istore X23.here hx rfl (hb hby at_113) rfl (l' := #[iv u0, iv u1, iv u2, iv u3, iv (u3.toInt8.toInt32), rv b1, iv ((u0.toInt8.toInt32) &&& (255 : Int32)), iv ((((((u1.toUInt32 >>> ((8 : Int32) &&& 31).toUInt32).toInt32).toInt8.toInt32) &&& (255 : Int32)) <<< ((8 : Int32) &&& 31)) ||| ((u1.toInt8.toInt32) &&& (255 : Int32))), iv ((((((u2.toUInt32 >>> ((8 : Int32) &&& 31).toUInt32).toInt32).toInt8.toInt32) &&& (255 : Int32)) <<< ((8 : Int32) &&& 31)) ||| ((u2.toInt8.toInt32) &&& (255 : Int32)))]) rfl ?_
    show Steps p.tables e below (T23.setTop (mkF m 115 #[iv u0, iv u1, iv u2, iv u3, iv (u3.toInt8.toInt32), rv b1, iv ((u0.toInt8.toInt32) &&& (255 : Int32)), iv ((((((u1.toUInt32 >>> ((8 : Int32) &&& 31).toUInt32).toInt32).toInt8.toInt32) &&& (255 : Int32)) <<< ((8 : Int32) &&& 31)) ||| ((u1.toInt8.toInt32) &&& (255 : Int32))), iv ((((((u2.toUInt32 >>> ((8 : Int32) &&& 31).toUInt32).toInt32).toInt8.toInt32) &&& (255 : Int32)) <<< ((8 : Int32) &&& 31)) ||| ((u2.toInt8.toInt32) &&& (255 : Int32)))] [])) _
    refine XS.iload X23.here hx rfl (hb hby at_115) rfl ?_
    show Steps p.tables e below (T23.setTop (mkF m 117 #[iv u0, iv u1, iv u2, iv u3, iv (u3.toInt8.toInt32), rv b1, iv ((u0.toInt8.toInt32) &&& (255 : Int32)), iv ((((((u1.toUInt32 >>> ((8 : Int32) &&& 31).toUInt32).toInt32).toInt8.toInt32) &&& (255 : Int32)) <<< ((8 : Int32) &&& 31)) ||| ((u1.toInt8.toInt32) &&& (255 : Int32))), iv ((((((u2.toUInt32 >>> ((8 : Int32) &&& 31).toUInt32).toInt32).toInt8.toInt32) &&& (255 : Int32)) <<< ((8 : Int32) &&& 31)) ||| ((u2.toInt8.toInt32) &&& (255 : Int32)))] [(.int ((u0.toInt8.toInt32) &&& (255 : Int32)))])) _
    refine XS.iloadN X23.here hx rfl (hb hby at_117) rfl ?_
    show Steps p.tables e below (T23.setTop (mkF m 118 #[iv u0, iv u1, iv u2, iv u3, iv (u3.toInt8.toInt32), rv b1, iv ((u0.toInt8.toInt32) &&& (255 : Int32)), iv ((((((u1.toUInt32 >>> ((8 : Int32) &&& 31).toUInt32).toInt32).toInt8.toInt32) &&& (255 : Int32)) <<< ((8 : Int32) &&& 31)) ||| ((u1.toInt8.toInt32) &&& (255 : Int32))), iv ((((((u2.toUInt32 >>> ((8 : Int32) &&& 31).toUInt32).toInt32).toInt8.toInt32) &&& (255 : Int32)) <<< ((8 : Int32) &&& 31)) ||| ((u2.toInt8.toInt32) &&& (255 : Int32)))] [(.int u0), (.int ((u0.toInt8.toInt32) &&& (255 : Int32)))])) _
    refine XS.sipush X23.here hx rfl (hb hby at_118) ?_
    show Steps p.tables e below (T23.setTop (mkF m 121 #[iv u0, iv u1, iv u2, iv u3, iv (u3.toInt8.toInt32), rv b1, iv ((u0.toInt8.toInt32) &&& (255 : Int32)), iv ((((((u1.toUInt32 >>> ((8 : Int32) &&& 31).toUInt32).toInt32).toInt8.toInt32) &&& (255 : Int32)) <<< ((8 : Int32) &&& 31)) ||| ((u1.toInt8.toInt32) &&& (255 : Int32))), iv ((((((u2.toUInt32 >>> ((8 : Int32) &&& 31).toUInt32).toInt32).toInt8.toInt32) &&& (255 : Int32)) <<< ((8 : Int32) &&& 31)) ||| ((u2.toInt8.toInt32) &&& (255 : Int32)))] [(.int (255 : Int32)), (.int u0), (.int ((u0.toInt8.toInt32) &&& (255 : Int32)))])) _
    refine XS.iand X23.here hx rfl (hb hby at_121) rfl ?_
    show Steps p.tables e below (T23.setTop (mkF m 122 #[iv u0, iv u1, iv u2, iv u3, iv (u3.toInt8.toInt32), rv b1, iv ((u0.toInt8.toInt32) &&& (255 : Int32)), iv ((((((u1.toUInt32 >>> ((8 : Int32) &&& 31).toUInt32).toInt32).toInt8.toInt32) &&& (255 : Int32)) <<< ((8 : Int32) &&& 31)) ||| ((u1.toInt8.toInt32) &&& (255 : Int32))), iv ((((((u2.toUInt32 >>> ((8 : Int32) &&& 31).toUInt32).toInt32).toInt8.toInt32) &&& (255 : Int32)) <<< ((8 : Int32) &&& 31)) ||| ((u2.toInt8.toInt32) &&& (255 : Int32)))] [(.int (u0 &&& (255 : Int32))), (.int ((u0.toInt8.toInt32) &&& (255 : Int32)))])) _
    refine XS.icmpNo X23.here hx rfl (hb hby at_122) rfl (teq (own_t _)).2 ?_
    show Steps p.tables e below (T23.setTop (mkF m 125 #[iv u0, iv u1, iv u2, iv u3, iv (u3.toInt8.toInt32), rv b1, iv ((u0.toInt8.toInt32) &&& (255 : Int32)), iv ((((((u1.toUInt32 >>> ((8 : Int32) &&& 31).toUInt32).toInt32).toInt8.toInt32) &&& (255 : Int32)) <<< ((8 : Int32) &&& 31)) ||| ((u1.toInt8.toInt32) &&& (255 : Int32))), iv ((((((u2.toUInt32 >>> ((8 : Int32) &&& 31).toUInt32).toInt32).toInt8.toInt32) &&& (255 : Int32)) <<< ((8 : Int32) &&& 31)) ||| ((u2.toInt8.toInt32) &&& (255 : Int32)))] [])) _
    refine XS.iload X23.here hx rfl (hb hby at_125) rfl ?_
    show Steps p.tables e below (T23.setTop (mkF m 127 #[iv u0, iv u1, iv u2, iv u3, iv (u3.toInt8.toInt32), rv b1, iv ((u0.toInt8.toInt32) &&& (255 : Int32)), iv ((((((u1.toUInt32 >>> ((8 : Int32) &&& 31).toUInt32).toInt32).toInt8.toInt32) &&& (255 : Int32)) <<< ((8 : Int32) &&& 31)) ||| ((u1.toInt8.toInt32) &&& (255 : Int32))), iv ((((((u2.toUInt32 >>> ((8 : Int32) &&& 31).toUInt32).toInt32).toInt8.toInt32) &&& (255 : Int32)) <<< ((8 : Int32) &&& 31)) ||| ((u2.toInt8.toInt32) &&& (255 : Int32)))] [(.int ((((((u1.toUInt32 >>> ((8 : Int32) &&& 31).toUInt32).toInt32).toInt8.toInt32) &&& (255 : Int32)) <<< ((8 : Int32) &&& 31)) ||| ((u1.toInt8.toInt32) &&& (255 : Int32))))])) _
    refine XS.iloadN X23.here hx rfl (hb hby at_127) rfl ?_
    show Steps p.tables e below (T23.setTop (mkF m 128 #[iv u0, iv u1, iv u2, iv u3, iv (u3.toInt8.toInt32), rv b1, iv ((u0.toInt8.toInt32) &&& (255 : Int32)), iv ((((((u1.toUInt32 >>> ((8 : Int32) &&& 31).toUInt32).toInt32).toInt8.toInt32) &&& (255 : Int32)) <<< ((8 : Int32) &&& 31)) ||| ((u1.toInt8.toInt32) &&& (255 : Int32))), iv ((((((u2.toUInt32 >>> ((8 : Int32) &&& 31).toUInt32).toInt32).toInt8.toInt32) &&& (255 : Int32)) <<< ((8 : Int32) &&& 31)) ||| ((u2.toInt8.toInt32) &&& (255 : Int32)))] [(.int u1), (.int ((((((u1.toUInt32 >>> ((8 : Int32) &&& 31).toUInt32).toInt32).toInt8.toInt32) &&& (255 : Int32)) <<< ((8 : Int32) &&& 31)) ||| ((u1.toInt8.toInt32) &&& (255 : Int32))))])) _
    refine X23.ldcInt hx hown (mvT hZ (hw _ (List.mem_of_getElem? (i := 5) rfl))) (g := (mkF m 128 #[iv u0, iv u1, iv u2, iv u3, iv (u3.toInt8.toInt32), rv b1, iv ((u0.toInt8.toInt32) &&& (255 : Int32)), iv ((((((u1.toUInt32 >>> ((8 : Int32) &&& 31).toUInt32).toInt32).toInt8.toInt32) &&& (255 : Int32)) <<< ((8 : Int32) &&& 31)) ||| ((u1.toInt8.toInt32) &&& (255 : Int32))), iv ((((((u2.toUInt32 >>> ((8 : Int32) &&& 31).toUInt32).toInt32).toInt8.toInt32) &&& (255 : Int32)) <<< ((8 : Int32) &&& 31)) ||| ((u2.toInt8.toInt32) &&& (255 : Int32)))] [(.int u1), (.int ((((((u1.toUInt32 >>> ((8 : Int32) &&& 31).toUInt32).toInt32).toInt8.toInt32) &&& (255 : Int32)) <<< ((8 : Int32) &&& 31)) ||| ((u1.toInt8.toInt32) &&& (255 : Int32))))])) rfl (hb hby at_128) _ ?_
    show Steps p.tables e below (T23.setTop (mkF m 130 #[iv u0, iv u1, iv u2, iv u3, iv (u3.toInt8.toInt32), rv b1, iv ((u0.toInt8.toInt32) &&& (255 : Int32)), iv ((((((u1.toUInt32 >>> ((8 : Int32) &&& 31).toUInt32).toInt32).toInt8.toInt32) &&& (255 : Int32)) <<< ((8 : Int32) &&& 31)) ||| ((u1.toInt8.toInt32) &&& (255 : Int32))), iv ((((((u2.toUInt32 >>> ((8 : Int32) &&& 31).toUInt32).toInt32).toInt8.toInt32) &&& (255 : Int32)) <<< ((8 : Int32) &&& 31)) ||| ((u2.toInt8.toInt32) &&& (255 : Int32)))] [(.int (65535 : Int32)), (.int u1), (.int ((((((u1.toUInt32 >>> ((8 : Int32) &&& 31).toUInt32).toInt32).toInt8.toInt32) &&& (255 : Int32)) <<< ((8 : Int32) &&& 31)) ||| ((u1.toInt8.toInt32) &&& (255 : Int32))))])) _
    refine XS.iand X23.here hx rfl (hb hby at_130) rfl ?_
    show Steps p.tables e below (T23.setTop (mkF m 131 #[iv u0, iv u1, iv u2, iv u3, iv (u3.toInt8.toInt32), rv b1, iv ((u0.toInt8.toInt32) &&& (255 : Int32)), iv ((((((u1.toUInt32 >>> ((8 : Int32) &&& 31).toUInt32).toInt32).toInt8.toInt32) &&& (255 : Int32)) <<< ((8 : Int32) &&& 31)) ||| ((u1.toInt8.toInt32) &&& (255 : Int32))), iv ((((((u2.toUInt32 >>> ((8 : Int32) &&& 31).toUInt32).toInt32).toInt8.toInt32) &&& (255 : Int32)) <<< ((8 : Int32) &&& 31)) ||| ((u2.toInt8.toInt32) &&& (255 : Int32)))] [(.int (u1 &&& (65535 : Int32))), (.int ((((((u1.toUInt32 >>> ((8 : Int32) &&& 31).toUInt32).toInt32).toInt8.toInt32) &&& (255 : Int32)) <<< ((8 : Int32) &&& 31)) ||| ((u1.toInt8.toInt32) &&& (255 : Int32))))])) _
    refine XS.icmpNo X23.here hx rfl (hb hby at_131) rfl (teq (own_v _)).2 ?_
    show Steps p.tables e below (T23.setTop (mkF m 134 #[iv u0, iv u1, iv u2, iv u3, iv (u3.toInt8.toInt32), rv b1, iv ((u0.toInt8.toInt32) &&& (255 : Int32)), iv ((((((u1.toUInt32 >>> ((8 : Int32) &&& 31).toUInt32).toInt32).toInt8.toInt32) &&& (255 : Int32)) <<< ((8 : Int32) &&& 31)) ||| ((u1.toInt8.toInt32) &&& (255 : Int32))), iv ((((((u2.toUInt32 >>> ((8 : Int32) &&& 31).toUInt32).toInt32).toInt8.toInt32) &&& (255 : Int32)) <<< ((8 : Int32) &&& 31)) ||| ((u2.toInt8.toInt32) &&& (255 : Int32)))] [])) _
    refine XS.iload X23.here hx rfl (hb hby at_134) rfl ?_
    show Steps p.tables e below (T23.setTop (mkF m 136 #[iv u0, iv u1, iv u2, iv u3, iv (u3.toInt8.toInt32), rv b1, iv ((u0.toInt8.toInt32) &&& (255 : Int32)), iv ((((((u1.toUInt32 >>> ((8 : Int32) &&& 31).toUInt32).toInt32).toInt8.toInt32) &&& (255 : Int32)) <<< ((8 : Int32) &&& 31)) ||| ((u1.toInt8.toInt32) &&& (255 : Int32))), iv ((((((u2.toUInt32 >>> ((8 : Int32) &&& 31).toUInt32).toInt32).toInt8.toInt32) &&& (255 : Int32)) <<< ((8 : Int32) &&& 31)) ||| ((u2.toInt8.toInt32) &&& (255 : Int32)))] [(.int ((((((u2.toUInt32 >>> ((8 : Int32) &&& 31).toUInt32).toInt32).toInt8.toInt32) &&& (255 : Int32)) <<< ((8 : Int32) &&& 31)) ||| ((u2.toInt8.toInt32) &&& (255 : Int32))))])) _
    refine XS.iloadN X23.here hx rfl (hb hby at_136) rfl ?_
    show Steps p.tables e below (T23.setTop (mkF m 137 #[iv u0, iv u1, iv u2, iv u3, iv (u3.toInt8.toInt32), rv b1, iv ((u0.toInt8.toInt32) &&& (255 : Int32)), iv ((((((u1.toUInt32 >>> ((8 : Int32) &&& 31).toUInt32).toInt32).toInt8.toInt32) &&& (255 : Int32)) <<< ((8 : Int32) &&& 31)) ||| ((u1.toInt8.toInt32) &&& (255 : Int32))), iv ((((((u2.toUInt32 >>> ((8 : Int32) &&& 31).toUInt32).toInt32).toInt8.toInt32) &&& (255 : Int32)) <<< ((8 : Int32) &&& 31)) ||| ((u2.toInt8.toInt32) &&& (255 : Int32)))] [(.int u2), (.int ((((((u2.toUInt32 >>> ((8 : Int32) &&& 31).toUInt32).toInt32).toInt8.toInt32) &&& (255 : Int32)) <<< ((8 : Int32) &&& 31)) ||| ((u2.toInt8.toInt32) &&& (255 : Int32))))])) _
    refine X23.ldcInt hx hown (mvT hZ (hw _ (List.mem_of_getElem? (i := 5) rfl))) (g := (mkF m 137 #[iv u0, iv u1, iv u2, iv u3, iv (u3.toInt8.toInt32), rv b1, iv ((u0.toInt8.toInt32) &&& (255 : Int32)), iv ((((((u1.toUInt32 >>> ((8 : Int32) &&& 31).toUInt32).toInt32).toInt8.toInt32) &&& (255 : Int32)) <<< ((8 : Int32) &&& 31)) ||| ((u1.toInt8.toInt32) &&& (255 : Int32))), iv ((((((u2.toUInt32 >>> ((8 : Int32) &&& 31).toUInt32).toInt32).toInt8.toInt32) &&& (255 : Int32)) <<< ((8 : Int32) &&& 31)) ||| ((u2.toInt8.toInt32) &&& (255 : Int32)))] [(.int u2), (.int ((((((u2.toUInt32 >>> ((8 : Int32) &&& 31).toUInt32).toInt32).toInt8.toInt32) &&& (255 : Int32)) <<< ((8 : Int32) &&& 31)) ||| ((u2.toInt8.toInt32) &&& (255 : Int32))))])) rfl (hb hby at_137) _ ?_
    show Steps p.tables e below (T23.setTop (mkF m 139 #[iv u0, iv u1, iv u2, iv u3, iv (u3.toInt8.toInt32), rv b1, iv ((u0.toInt8.toInt32) &&& (255 : Int32)), iv ((((((u1.toUInt32 >>> ((8 : Int32) &&& 31).toUInt32).toInt32).toInt8.toInt32) &&& (255 : Int32)) <<< ((8 : Int32) &&& 31)) ||| ((u1.toInt8.toInt32) &&& (255 : Int32))), iv ((((((u2.toUInt32 >>> ((8 : Int32) &&& 31).toUInt32).toInt32).toInt8.toInt32) &&& (255 : Int32)) <<< ((8 : Int32) &&& 31)) ||| ((u2.toInt8.toInt32) &&& (255 : Int32)))] [(.int (65535 : Int32)), (.int u2), (.int ((((((u2.toUInt32 >>> ((8 : Int32) &&& 31).toUInt32).toInt32).toInt8.toInt32) &&& (255 : Int32)) <<< ((8 : Int32) &&& 31)) ||| ((u2.toInt8.toInt32) &&& (255 : Int32))))])) _
    refine XS.iand X23.here hx rfl (hb hby at_139) rfl ?_
    show Steps p.tables e below (T23.setTop (mkF m 140 #[iv u0, iv u1, iv u2, iv u3, iv (u3.toInt8.toInt32), rv b1, iv ((u0.toInt8.toInt32) &&& (255 : Int32)), iv ((((((u1.toUInt32 >>> ((8 : Int32) &&& 31).toUInt32).toInt32).toInt8.toInt32) &&& (255 : Int32)) <<< ((8 : Int32) &&& 31)) ||| ((u1.toInt8.toInt32) &&& (255 : Int32))), iv ((((((u2.toUInt32 >>> ((8 : Int32) &&& 31).toUInt32).toInt32).toInt8.toInt32) &&& (255 : Int32)) <<< ((8 : Int32) &&& 31)) ||| ((u2.toInt8.toInt32) &&& (255 : Int32)))] [(.int (u2 &&& (65535 : Int32))), (.int ((((((u2.toUInt32 >>> ((8 : Int32) &&& 31).toUInt32).toInt32).toInt8.toInt32) &&& (255 : Int32)) <<< ((8 : Int32) &&& 31)) ||| ((u2.toInt8.toInt32) &&& (255 : Int32))))])) _
    refine XS.icmpNo X23.here hx rfl (hb hby at_140) rfl (teq (own_v _)).2 ?_
    show Steps p.tables e below (T23.setTop (mkF m 143 #[iv u0, iv u1, iv u2, iv u3, iv (u3.toInt8.toInt32), rv b1, iv ((u0.toInt8.toInt32) &&& (255 : Int32)), iv ((((((u1.toUInt32 >>> ((8 : Int32) &&& 31).toUInt32).toInt32).toInt8.toInt32) &&& (255 : Int32)) <<< ((8 : Int32) &&& 31)) ||| ((u1.toInt8.toInt32) &&& (255 : Int32))), iv ((((((u2.toUInt32 >>> ((8 : Int32) &&& 31).toUInt32).toInt32).toInt8.toInt32) &&& (255 : Int32)) <<< ((8 : Int32) &&& 31)) ||| ((u2.toInt8.toInt32) &&& (255 : Int32)))] [])) _
    refine XS.aload X23.here hx rfl (hb hby at_143) rfl rfl ?_
    show Steps p.tables e below (T23.setTop (mkF m 145 #[iv u0, iv u1, iv u2, iv u3, iv (u3.toInt8.toInt32), rv b1, iv ((u0.toInt8.toInt32) &&& (255 : Int32)), iv ((((((u1.toUInt32 >>> ((8 : Int32) &&& 31).toUInt32).toInt32).toInt8.toInt32) &&& (255 : Int32)) <<< ((8 : Int32) &&& 31)) ||| ((u1.toInt8.toInt32) &&& (255 : Int32))), iv ((((((u2.toUInt32 >>> ((8 : Int32) &&& 31).toUInt32).toInt32).toInt8.toInt32) &&& (255 : Int32)) <<< ((8 : Int32) &&& 31)) ||| ((u2.toInt8.toInt32) &&& (255 : Int32)))] [(.ref b1)])) _
    refine XS.iconst X23.here hx rfl (hb hby at_145) ?_
    show Steps p.tables e below (T23.setTop (mkF m 146 #[iv u0, iv u1, iv u2, iv u3, iv (u3.toInt8.toInt32), rv b1, iv ((u0.toInt8.toInt32) &&& (255 : Int32)), iv ((((((u1.toUInt32 >>> ((8 : Int32) &&& 31).toUInt32).toInt32).toInt8.toInt32) &&& (255 : Int32)) <<< ((8 : Int32) &&& 31)) ||| ((u1.toInt8.toInt32) &&& (255 : Int32))), iv ((((((u2.toUInt32 >>> ((8 : Int32) &&& 31).toUInt32).toInt32).toInt8.toInt32) &&& (255 : Int32)) <<< ((8 : Int32) &&& 31)) ||| ((u2.toInt8.toInt32) &&& (255 : Int32)))] [(.int (5 : Int32)), (.ref b1)])) _
    refine X23.baloadBytes hx (j := (5 : Int32)) (v := (.int (u3.toInt8.toInt32))) Ar29.1 (State.isArrayOf_alike hZ.alike Ar29.2.1) Ar29.2.2 hin29 (Has.at Ha29 hin29 rfl) (g := (mkF m 146 #[iv u0, iv u1, iv u2, iv u3, iv (u3.toInt8.toInt32), rv b1, iv ((u0.toInt8.toInt32) &&& (255 : Int32)), iv ((((((u1.toUInt32 >>> ((8 : Int32) &&& 31).toUInt32).toInt32).toInt8.toInt32) &&& (255 : Int32)) <<< ((8 : Int32) &&& 31)) ||| ((u1.toInt8.toInt32) &&& (255 : Int32))), iv ((((((u2.toUInt32 >>> ((8 : Int32) &&& 31).toUInt32).toInt32).toInt8.toInt32) &&& (255 : Int32)) <<< ((8 : Int32) &&& 31)) ||| ((u2.toInt8.toInt32) &&& (255 : Int32)))] [(.int (5 : Int32)), (.ref b1)])) rfl rfl (hb hby at_146) _ ?_
    show Steps p.tables e below (T23.setTop (mkF m 147 #[iv u0, iv u1, iv u2, iv u3, iv (u3.toInt8.toInt32), rv b1, iv ((u0.toInt8.toInt32) &&& (255 : Int32)), iv ((((((u1.toUInt32 >>> ((8 : Int32) &&& 31).toUInt32).toInt32).toInt8.toInt32) &&& (255 : Int32)) <<< ((8 : Int32) &&& 31)) ||| ((u1.toInt8.toInt32) &&& (255 : Int32))), iv ((((((u2.toUInt32 >>> ((8 : Int32) &&& 31).toUInt32).toInt32).toInt8.toInt32) &&& (255 : Int32)) <<< ((8 : Int32) &&& 31)) ||| ((u2.toInt8.toInt32) &&& (255 : Int32)))] [(.int (u3.toInt8.toInt32))])) _
    refine XS.iload X23.here hx rfl (hb hby at_147) rfl ?_
    show Steps p.tables e below (T23.setTop (mkF m 149 #[iv u0, iv u1, iv u2, iv u3, iv (u3.toInt8.toInt32), rv b1, iv ((u0.toInt8.toInt32) &&& (255 : Int32)), iv ((((((u1.toUInt32 >>> ((8 : Int32) &&& 31).toUInt32).toInt32).toInt8.toInt32) &&& (255 : Int32)) <<< ((8 : Int32) &&& 31)) ||| ((u1.toInt8.toInt32) &&& (255 : Int32))), iv ((((((u2.toUInt32 >>> ((8 : Int32) &&& 31).toUInt32).toInt32).toInt8.toInt32) &&& (255 : Int32)) <<< ((8 : Int32) &&& 31)) ||| ((u2.toInt8.toInt32) &&& (255 : Int32)))] [(.int (u3.toInt8.toInt32)), (.int (u3.toInt8.toInt32))])) _
    refine XS.icmpNo X23.here hx rfl (hb hby at_149) rfl (teq rfl).2 ?_
    show Steps p.tables e below (T23.setTop (mkF m 152 #[iv u0, iv u1, iv u2, iv u3, iv (u3.toInt8.toInt32), rv b1, iv ((u0.toInt8.toInt32) &&& (255 : Int32)), iv ((((((u1.toUInt32 >>> ((8 : Int32) &&& 31).toUInt32).toInt32).toInt8.toInt32) &&& (255 : Int32)) <<< ((8 : Int32) &&& 31)) ||| ((u1.toInt8.toInt32) &&& (255 : Int32))), iv ((((((u2.toUInt32 >>> ((8 : Int32) &&& 31).toUInt32).toInt32).toInt8.toInt32) &&& (255 : Int32)) <<< ((8 : Int32) &&& 31)) ||| ((u2.toInt8.toInt32) &&& (255 : Int32)))] [])) _
    refine XS.aload X23.here hx rfl (hb hby at_152) rfl rfl ?_
    show Steps p.tables e below (T23.setTop (mkF m 154 #[iv u0, iv u1, iv u2, iv u3, iv (u3.toInt8.toInt32), rv b1, iv ((u0.toInt8.toInt32) &&& (255 : Int32)), iv ((((((u1.toUInt32 >>> ((8 : Int32) &&& 31).toUInt32).toInt32).toInt8.toInt32) &&& (255 : Int32)) <<< ((8 : Int32) &&& 31)) ||| ((u1.toInt8.toInt32) &&& (255 : Int32))), iv ((((((u2.toUInt32 >>> ((8 : Int32) &&& 31).toUInt32).toInt32).toInt8.toInt32) &&& (255 : Int32)) <<< ((8 : Int32) &&& 31)) ||| ((u2.toInt8.toInt32) &&& (255 : Int32)))] [(.ref b1)])) _
    refine XS.bipush X23.here hx rfl (hb hby at_154) ?_
    show Steps p.tables e below (T23.setTop (mkF m 156 #[iv u0, iv u1, iv u2, iv u3, iv (u3.toInt8.toInt32), rv b1, iv ((u0.toInt8.toInt32) &&& (255 : Int32)), iv ((((((u1.toUInt32 >>> ((8 : Int32) &&& 31).toUInt32).toInt32).toInt8.toInt32) &&& (255 : Int32)) <<< ((8 : Int32) &&& 31)) ||| ((u1.toInt8.toInt32) &&& (255 : Int32))), iv ((((((u2.toUInt32 >>> ((8 : Int32) &&& 31).toUInt32).toInt32).toInt8.toInt32) &&& (255 : Int32)) <<< ((8 : Int32) &&& 31)) ||| ((u2.toInt8.toInt32) &&& (255 : Int32)))] [(.int (6 : Int32)), (.ref b1)])) _
    refine X23.baloadBytes hx (j := (6 : Int32)) (v := (.int (u3.toInt8.toInt32))) Ar30.1 (State.isArrayOf_alike hZ.alike Ar30.2.1) Ar30.2.2 hin30 (Has.at Ha30 hin30 rfl) (g := (mkF m 156 #[iv u0, iv u1, iv u2, iv u3, iv (u3.toInt8.toInt32), rv b1, iv ((u0.toInt8.toInt32) &&& (255 : Int32)), iv ((((((u1.toUInt32 >>> ((8 : Int32) &&& 31).toUInt32).toInt32).toInt8.toInt32) &&& (255 : Int32)) <<< ((8 : Int32) &&& 31)) ||| ((u1.toInt8.toInt32) &&& (255 : Int32))), iv ((((((u2.toUInt32 >>> ((8 : Int32) &&& 31).toUInt32).toInt32).toInt8.toInt32) &&& (255 : Int32)) <<< ((8 : Int32) &&& 31)) ||| ((u2.toInt8.toInt32) &&& (255 : Int32)))] [(.int (6 : Int32)), (.ref b1)])) rfl rfl (hb hby at_156) _ ?_
    show Steps p.tables e below (T23.setTop (mkF m 157 #[iv u0, iv u1, iv u2, iv u3, iv (u3.toInt8.toInt32), rv b1, iv ((u0.toInt8.toInt32) &&& (255 : Int32)), iv ((((((u1.toUInt32 >>> ((8 : Int32) &&& 31).toUInt32).toInt32).toInt8.toInt32) &&& (255 : Int32)) <<< ((8 : Int32) &&& 31)) ||| ((u1.toInt8.toInt32) &&& (255 : Int32))), iv ((((((u2.toUInt32 >>> ((8 : Int32) &&& 31).toUInt32).toInt32).toInt8.toInt32) &&& (255 : Int32)) <<< ((8 : Int32) &&& 31)) ||| ((u2.toInt8.toInt32) &&& (255 : Int32)))] [(.int (u3.toInt8.toInt32))])) _
    refine XS.iload X23.here hx rfl (hb hby at_157) rfl ?_
    show Steps p.tables e below (T23.setTop (mkF m 159 #[iv u0, iv u1, iv u2, iv u3, iv (u3.toInt8.toInt32), rv b1, iv ((u0.toInt8.toInt32) &&& (255 : Int32)), iv ((((((u1.toUInt32 >>> ((8 : Int32) &&& 31).toUInt32).toInt32).toInt8.toInt32) &&& (255 : Int32)) <<< ((8 : Int32) &&& 31)) ||| ((u1.toInt8.toInt32) &&& (255 : Int32))), iv ((((((u2.toUInt32 >>> ((8 : Int32) &&& 31).toUInt32).toInt32).toInt8.toInt32) &&& (255 : Int32)) <<< ((8 : Int32) &&& 31)) ||| ((u2.toInt8.toInt32) &&& (255 : Int32)))] [(.int (u3.toInt8.toInt32)), (.int (u3.toInt8.toInt32))])) _
    refine XS.icmpNo X23.here hx rfl (hb hby at_159) rfl (teq rfl).2 ?_
    show Steps p.tables e below (T23.setTop (mkF m 162 #[iv u0, iv u1, iv u2, iv u3, iv (u3.toInt8.toInt32), rv b1, iv ((u0.toInt8.toInt32) &&& (255 : Int32)), iv ((((((u1.toUInt32 >>> ((8 : Int32) &&& 31).toUInt32).toInt32).toInt8.toInt32) &&& (255 : Int32)) <<< ((8 : Int32) &&& 31)) ||| ((u1.toInt8.toInt32) &&& (255 : Int32))), iv ((((((u2.toUInt32 >>> ((8 : Int32) &&& 31).toUInt32).toInt32).toInt8.toInt32) &&& (255 : Int32)) <<< ((8 : Int32) &&& 31)) ||| ((u2.toInt8.toInt32) &&& (255 : Int32)))] [])) _
    refine XS.iconst X23.here hx rfl (hb hby at_162) ?_
    show Steps p.tables e below (T23.setTop (mkF m 163 #[iv u0, iv u1, iv u2, iv u3, iv (u3.toInt8.toInt32), rv b1, iv ((u0.toInt8.toInt32) &&& (255 : Int32)), iv ((((((u1.toUInt32 >>> ((8 : Int32) &&& 31).toUInt32).toInt32).toInt8.toInt32) &&& (255 : Int32)) <<< ((8 : Int32) &&& 31)) ||| ((u1.toInt8.toInt32) &&& (255 : Int32))), iv ((((((u2.toUInt32 >>> ((8 : Int32) &&& 31).toUInt32).toInt32).toInt8.toInt32) &&& (255 : Int32)) <<< ((8 : Int32) &&& 31)) ||| ((u2.toInt8.toInt32) &&& (255 : Int32)))] [(.int (1 : Int32))])) _
    refine XS.goto X23.here hx rfl (pc0 := 163) (pc' := 167) rfl (hb hby at_163) (by decide) (by decide) ?_
    show Steps p.tables e below (T23.setTop (mkF m 167 #[iv u0, iv u1, iv u2, iv u3, iv (u3.toInt8.toInt32), rv b1, iv ((u0.toInt8.toInt32) &&& (255 : Int32)), iv ((((((u1.toUInt32 >>> ((8 : Int32) &&& 31).toUInt32).toInt32).toInt8.toInt32) &&& (255 : Int32)) <<< ((8 : Int32) &&& 31)) ||| ((u1.toInt8.toInt32) &&& (255 : Int32))), iv ((((((u2.toUInt32 >>> ((8 : Int32) &&& 31).toUInt32).toInt32).toInt8.toInt32) &&& (255 : Int32)) <<< ((8 : Int32) &&& 31)) ||| ((u2.toInt8.toInt32) &&& (255 : Int32)))] [(.int (1 : Int32))])) _
    exact retN X23 hx (t := .boolean) Bd.returns (by simp) (hb hby at_167) hr
  · show Q0 Z u0 u1 u2 u3 h0 n0 _ T23.heap _
    exact ⟨rfl, N23⟩
set_option maxRecDepth 65536 in
set_option maxHeartbeats 40000000 in
theorem comes_1 {Post : Tables → Env → Array Value → State → Outcome → State → Prop} (hpost : ∀ tb e args s v u, (limb_1_1.after args s (.returned v) u = true ∧ limb_1_2.after args s (.returned v) u = true ∧ True) → FrameEnd s (.returned v) u (Jvm.fieldLocs frame_1_writes args s ++ Jvm.arrayLocs frame_1_arrays args s ++ Jvm.staticLocs frame_1_statics s) 16 128 → Post tb e args s (.returned v) u) :
    ArmFor flags0 classFile x code maxLocals ret World_1 tables_1 room_1 Calls_1 rest_1 Pre_1 Post := by
  intro l hfl _ _ p e ha hc hk s m args below hf hA hF happ hP
  obtain ⟨hcalls, hrest, hpre⟩ := hP
  obtain ⟨-, -, -, hnamed, -, -, -, hat⟩ := (Spec.applies_iff hf).mp happ
  obtain ⟨hg, hn⟩ := and_e (Cond.before_iff.mp (show (Jvm.Cond.and given_1 narrow_1).before args s = true from hpre))
  obtain ⟨g1, g2⟩ := and_e hg
  obtain ⟨g3, g4⟩ := and_e g2
  obtain ⟨g5, g6⟩ := and_e g4
  obtain ⟨g7, g8⟩ := and_e g6
  obtain ⟨w0, w1, w2, w3, rfl⟩ : ∃ w0 w1 w2 w3 : Value, args = #[w0, w1, w2, w3] := by
    have hs : args.size = 4 := by simpa [Cond.value, given_1] using g1
    obtain ⟨L⟩ := args
    match L, hs with
    | [w0, w1, w2, w3], _ => exact ⟨w0, w1, w2, w3, rfl⟩
  have hw := fun d (hd : d ∈ tables_1) => atoms_spec (ws := Jvm.Cond.code x code maxLocals ret :: tables_1) hat d (List.mem_cons_of_mem _ hd)
  have hfit : Fit s := fun {y c} hc i hi => by
    obtain ⟨ha, rfl⟩ := Array.getElem?_eq_some_iff.mp hc
    have q := List.all_eq_true.mp ((Array.all_eq_true_iff_forall_mem.mp hF) _ (Array.getElem_mem ha)) i (List.mem_range.mpr hi)
    simpa [Array.getElem?_eq_getElem hi] using q
  obtain ⟨i0, ei0⟩ := is_v g3
  obtain rfl : w0 = (.int i0) := Option.some.inj ei0
  obtain ⟨i1, ei1⟩ := is_v g5
  obtain rfl : w1 = (.int i1) := Option.some.inj ei1
  obtain ⟨i2, ei2⟩ := is_v g7
  obtain rfl : w2 = (.int i2) := Option.some.inj ei2
  obtain ⟨i3, ei3⟩ := is_v g8
  obtain rfl : w3 = (.int i3) := Option.some.inj ei3
  obtain ⟨n, o, h1, h2, h3, _, L, rfl, ⟨rfl, N⟩, hq⟩ := rm0 l s _ hw tables_1 i0 i1 i2 i3 s.heap s.heap.size (Nat.le_refl _)  p e ha hc hk s m _ below hf ((Spec.applies_iff_loose hf).mp happ).1 ⟨rfl, State.Warmed39.refl s, rfl⟩ trivial
  refine ⟨n, _, h1, h2, h3, hpost _ _ _ _ _ _ ⟨Cond.after_iff.mpr rfl, Cond.after_iff.mpr (eq_i res_at (Term.int_eval (1)) rfl), trivial⟩ ⟨hq.1, hq.2.1, (hq.2.2.sift fun y hy => Or.inr (N y hy)).mono (by decide) (by decide)⟩⟩
theorem main_1_1 : Claimed_1_1 := comes_1 fun _ _ _ _ _ _ h hF => ⟨h.1, hF⟩
theorem main_1_2 : Claimed_1_2 := comes_1 fun _ _ _ _ _ _ h hF => ⟨h.2.1, hF⟩
end Jvm.Pilot.@@N@@
namespace Jvm.Pilot.@@N@@
open Jvm Jvm.ClassFile Sem Op Lib Jvm.Free Jvm.Stand Jvm.Pilot.@@N@@.Jvm.D
/-! MADE BY PROGRAM (witnessworld.py) out of the Statement's table words and the real class files: 9 classes; the members and pool entries that the words name. The judged class is class 1, her method 1. -/
namespace start1
open Jvm.ClassFile
def u (s : String) : CpInfo := .utf8 (stringToUtf16 s)
/-- a pool by its gaps: so many unusable entries, then the entry; so many at the end -/
def gap : Nat → List CpInfo → List CpInfo
  | 0, r => r
  | n + 1, r => .unusable :: gap n r
def poolList (es : List (Nat × CpInfo)) (last : Nat) : List CpInfo := es.foldr (fun e r => gap e.1 (e.2 :: r)) (gap last [])
def pool (es : List (Nat × CpInfo)) (last : Nat) : Array CpInfo := ⟨poolList es last⟩
def fileOf (pool : Array CpInfo) (this : Nat) (attrs : Array Attribute := #[]) (ms : Array MethodInfo := #[]) (fl : Nat := 33) (sup : Nat := 0) (ifs : Array Nat := #[]) (fds : Array FieldInfo := #[]) : ClassFile where
  minorVersion := 0
  majorVersion := 65
  constantPool := pool
  accessFlags := fl
  thisClass := this
  superClass := sup
  interfaces := ifs
  fields := fds
  methods := ms
  attributes := attrs
def plain (name : String) (sup : Option ClassId) : Class where
  name := name
  kind := .ordinary
  loader := none
  accessFlags := 33
  super := sup
  interfaces := #[]
  cf := none
  fields := #[]
  methods := #[]
  instanceTypes := #[]
  staticTypes := #[]
  resolved := #[]
  callSites := []
  init := .initialized
  statics := none
  mirror := none

def pool0 : Array CpInfo := pool [(5, u "<init>"), (0, u "()V"), (1, .class_ 10), (1, u "java/lang/Object")] 113

def k0m0 : Method := { name := "<init>", desc := "()V", sig := { parameters := [], returnType := none }, accessFlags := 1, code := none }
/-- java/lang/Object -/
def k0 : Class := { plain "java/lang/Object" none with
  accessFlags := 33
  interfaces := #[]
  cf := some (fileOf pool0 8 #[] #[{ accessFlags := 1, nameIndex := 5, descriptorIndex := 6, attributes := #[] }] 33 0 #[] #[])
  fields := #[]
  methods := #[k0m0]
  instanceTypes := #[]
  staticTypes := #[]
  resolved := Array.replicate 124 none
  statics := none }

def pool1 : Array CpInfo := pool [(2, .class_ 4), (1, u "java/lang/Object"), (0, u "<init>"), (0, u "()V"), (0, .methodref 8 9), (0, .class_ 10), (0, .nameAndType 11 12), (0, u "com/example/tracewell/tracewell/record/WireRecord"), (0, u "header"), (0, u "(III[B)V"), (0, .integer 65535), (0, .class_ 15), (0, u "com/example/tracewell/tracewell/record/WireRecordHeaderPinLaw"), (2, u "law"), (0, u "(IIII)Z")] 5

def k1m0 : Method := { name := "<init>", desc := "()V", sig := { parameters := [], returnType := none }, accessFlags := 1, code := none }
def k1c1 : Code := { maxStack := 4, maxLocals := 9, code := code, exceptionTable := #[], attributes := #[] }
def k1m1 : Method := { name := "law", desc := "(IIII)Z", sig := { parameters := [.int, .int, .int, .int], returnType := some .boolean }, accessFlags := 9, code := some k1c1 }
/-- com/example/tracewell/tracewell/record/WireRecordHeaderPinLaw -/
def k1 : Class := { plain "com/example/tracewell/tracewell/record/WireRecordHeaderPinLaw" (some 0) with
  accessFlags := 49
  interfaces := #[]
  cf := some (fileOf pool1 14 #[] #[{ accessFlags := 1, nameIndex := 5, descriptorIndex := 6, attributes := #[] }, { accessFlags := 9, nameIndex := 18, descriptorIndex := 19, attributes := #[] }] 49 2 #[] #[])
  fields := #[]
  methods := #[k1m0, k1m1]
  instanceTypes := #[]
  staticTypes := #[]
  resolved := Array.replicate 25 none
  statics := none }

def pool2 : Array CpInfo := pool [(2, .class_ 4), (1, u "java/lang/Object"), (3, .class_ 10), (1, u "com/example/tracewell/tracewell/record/WireRecord"), (12, u "type"), (0, u "I"), (2, u "version"), (2, u "bytes"), (0, u "[B"), (2, u "offset"), (2, u "length"), (8, u "header"), (0, u "(III[B)V"), (0, u "HEADER_LENGTH")] 14

def k2c0 : Code := { maxStack := 4, maxLocals := 4, code := prog_92_method_12_code, exceptionTable := #[], attributes := #[] }
def k2m0 : Method := { name := "header", desc := "(III[B)V", sig := { parameters := [.int, .int, .int, (.array .byte)], returnType := none }, accessFlags := 8, code := some k2c0 }
/-- com/example/tracewell/tracewell/record/WireRecord -/
def k2 : Class := { plain "com/example/tracewell/tracewell/record/WireRecord" (some 0) with
  accessFlags := 49
  interfaces := #[]
  cf := some (fileOf pool2 8 #[] #[{ accessFlags := 8, nameIndex := 46, descriptorIndex := 47, attributes := #[] }] 49 2 #[] #[{ accessFlags := 25, nameIndex := 48, descriptorIndex := 24, attributes := #[] }, { accessFlags := 2, nameIndex := 23, descriptorIndex := 24, attributes := #[] }, { accessFlags := 2, nameIndex := 27, descriptorIndex := 24, attributes := #[] }, { accessFlags := 2, nameIndex := 30, descriptorIndex := 31, attributes := #[] }, { accessFlags := 2, nameIndex := 34, descriptorIndex := 24, attributes := #[] }, { accessFlags := 2, nameIndex := 37, descriptorIndex := 24, attributes := #[] }])
  fields := #[{ name := "HEADER_LENGTH", type := .int, accessFlags := 25, slot := 0, constantValue := 0 }, { name := "type", type := .int, accessFlags := 2, slot := 0, constantValue := 0 }, { name := "version", type := .int, accessFlags := 2, slot := 1, constantValue := 0 }, { name := "bytes", type := (.array .byte), accessFlags := 2, slot := 2, constantValue := 0 }, { name := "offset", type := .int, accessFlags := 2, slot := 3, constantValue := 0 }, { name := "length", type := .int, accessFlags := 2, slot := 4, constantValue := 0 }]
  methods := #[k2m0]
  instanceTypes := #[.int, .int, (.array .byte), .int, .int]
  staticTypes := #[.int]
  resolved := Array.replicate 63 none
  statics := none }

def pool3 : Array CpInfo := pool [(1, u "java/lang/Cloneable"), (0, .class_ 1), (0, u "java/lang/Object"), (0, .class_ 3)] 3

/-- java/lang/Cloneable -/
def k3 : Class := { plain "java/lang/Cloneable" (some 0) with
  accessFlags := 1537
  interfaces := #[]
  cf := some (fileOf pool3 2 #[] #[] 1537 4 #[] #[])
  fields := #[]
  methods := #[]
  instanceTypes := #[]
  staticTypes := #[]
  resolved := Array.replicate 8 none
  statics := none }

def pool4 : Array CpInfo := pool [(1, u "java/io/Serializable"), (0, .class_ 1), (0, u "java/lang/Object"), (0, .class_ 3)] 3

/-- java/io/Serializable -/
def k4 : Class := { plain "java/io/Serializable" (some 0) with
  accessFlags := 1537
  interfaces := #[]
  cf := some (fileOf pool4 2 #[] #[] 1537 4 #[] #[])
  fields := #[]
  methods := #[]
  instanceTypes := #[]
  staticTypes := #[]
  resolved := Array.replicate 8 none
  statics := none }

/-- the primitive byte -/
def k5 : Class := { plain "byte" none with kind := .primitive 'B', accessFlags := 0x411 }
/-- [B -/
def k6 : Class := { plain "[B" (some 0) with kind := .array 5 .byte, interfaces := #[3, 4], accessFlags := 1041 }

/-- the primitive int -/
def k7 : Class := { plain "int" none with kind := .primitive 'I', accessFlags := 0x411 }
/-- [I -/
def k8 : Class := { plain "[I" (some 0) with kind := .array 7 .int, interfaces := #[3, 4], accessFlags := 1041 }

def heap : Heap := #[]
def classes : Array Class := #[k0, k1, k2, k3, k4, k5, k6, k7, k8]
def interned : List (Array UInt16 × Addr) := []
def slotsUsed : Nat := 0
def theMethod : MethodId := ⟨1, 1⟩
def args0 : Array Value := #[.int 22, .int 771, .int 5, .int 9]
def aboutOver (below : List Frame) : State where
  vm := { classes := classes, interned := interned.toArray }
  heap := heap
  slotsUsed := slotsUsed
  threads := #[{ frames := .invoking theMethod args0 :: below }]
def below0 : List Frame := [.native { method := ⟨0, 0⟩, args := #[] }]
def about1 : State := aboutOver below0
def p0 : Program := .bare "" "" ""
def e0 : Env := launch0.env 0 0 0
theorem w_frames : about1.frames = Frame.invoking theMethod args0 :: below0 := rfl
set_option maxRecDepth 65536 in
theorem w_args : argsFit about1.vm theMethod args0 = true := by decide +kernel
set_option maxRecDepth 65536 in
theorem w_heap : heapFits about1 = true := by decide +kernel
set_option maxRecDepth 65536 in
theorem w_runnable : about1.curStatus? = some .runnable := by decide +kernel
set_option maxRecDepth 65536 in
theorem w_alone : about1.alone = true := by decide +kernel
set_option maxRecDepth 65536 in
theorem w_named : about1.methodNamed? x = some theMethod := by decide +kernel
set_option maxRecDepth 65536 in
theorem w_hears : about1.hears theMethod below0 = true := by decide +kernel
set_option maxRecDepth 65536 in
theorem w_ripe : about1.ripe theMethod args0 below0 = true := by decide +kernel
theorem w_running : about1.status = .running := rfl
set_option maxRecDepth 65536 in
theorem w_room : about1.hasRoom e0.platform room_1 = true :=
  launch0.hasRoom_least _ room_1 (by decide +kernel) (by decide +kernel) (by decide +kernel) (by decide +kernel) (by decide +kernel) (by decide +kernel)
theorem allAtoms_all (ts : List Jvm.Cond) (a : Array Jvm.Value) (st : Jvm.State) : (allAtoms ts).before a st = ts.all (fun c => c.before a st) := by
  induction ts with
  | nil => rfl
  | cons c t ih =>
    show (Jvm.Cond.and c (allAtoms t)).before a st = _
    rw [Jvm.Cond.before_and, ih, List.all_cons]
def words1 : List Jvm.Cond := Jvm.Cond.code x code maxLocals ret :: tables_1
/-- a 'code' word, met by the world's own term for the bytes: nothing is compared byte by byte -/
theorem code_word {y : MethodName} {bytes : ByteArray} {mx : Nat} {rt : Option FieldType} {a : Array Value} {s : State} {m : MethodId} {meth : Method} {c : Code} (h1 : s.methodNamed? y = some m) (h2 : s.vm.method? m = some meth) (h3 : meth.code = some c) (h4 : c.code = bytes)
    (h5 : (c.maxLocals == mx && c.exceptionTable.isEmpty && decide (c.maxStack ≤ mostOperands) && decide (meth.sig.returnType = rt) && !meth.locks && decide (parseMethodDescriptor y.desc = some meth.sig)) = true) : (Jvm.Cond.code y bytes mx rt).before a s = true := by
  simp only [Bool.and_eq_true, beq_iff_eq, Bool.not_eq_true', decide_eq_true_eq] at h5
  obtain ⟨⟨⟨⟨⟨g1, g2⟩, g3⟩, g4⟩, g5⟩, g6⟩ := h5
  simp [Cond.before, Cond.holds, Cond.value, h1, h2, h3, h4, g1, g2, g3, g4, g5, g6]
def isCode : Jvm.Cond → Bool
  | .code _ _ _ _ => true
  | _ => false
theorem all_split {L : List Jvm.Cond} {P : Jvm.Cond → Bool} (h1 : L.all (fun c => isCode c || P c) = true) (h2 : ∀ c ∈ L.filter isCode, P c = true) : L.all P = true := by
  refine List.all_eq_true.mpr fun c hc => ?_
  have h := List.all_eq_true.mp h1 c hc
  rcases Bool.eq_false_or_eq_true (isCode c) with hi | hi
  · exact h2 c (List.mem_filter.mpr ⟨hc, hi⟩)
  · simpa [hi] using h
set_option maxRecDepth 65536 in
theorem w_c0 : (Jvm.Cond.code x code maxLocals ret).before args0 about1 = true := code_word (m := ⟨1, 1⟩) (meth := k1m1) (c := k1c1) (by decide +kernel) rfl rfl rfl (by decide +kernel)
set_option maxRecDepth 65536 in
theorem w_c1 : (Jvm.Cond.code ({ cls := "com/example/tracewell/tracewell/record/WireRecord", name := "header", desc := "(III[B)V" } : Jvm.MethodName) prog_92_method_12_code (4 : Nat) (Option.none : Option Jvm.ClassFile.FieldType)).before args0 about1 = true := code_word (m := ⟨2, 0⟩) (meth := k2m0) (c := k2c0) (by decide +kernel) rfl rfl rfl (by decide +kernel)
def codes1 : List Jvm.Cond := [Jvm.Cond.code x code maxLocals ret, Jvm.Cond.code ({ cls := "com/example/tracewell/tracewell/record/WireRecord", name := "header", desc := "(III[B)V" } : Jvm.MethodName) prog_92_method_12_code (4 : Nat) (Option.none : Option Jvm.ClassFile.FieldType)]
set_option maxRecDepth 65536 in
theorem codes_eq : words1.filter isCode = codes1 := rfl
theorem w_codes : ∀ c ∈ words1.filter isCode, c.before args0 about1 = true := by
  rw [codes_eq]
  intro c hc
  simp only [codes1, List.mem_cons, List.not_mem_nil, or_false] at hc
  rcases hc with rfl | rfl
  · exact w_c0
  · exact w_c1
set_option maxRecDepth 65536 in
theorem w_t1 : words1.all (fun c => isCode c || c.before args0 about1) = true := by decide +kernel
theorem w_tables : (allAtoms (Jvm.Cond.code x code maxLocals ret :: tables_1)).before args0 about1 = true := by
  rw [allAtoms_all]
  show words1.all (fun c => c.before args0 about1) = true
  refine all_split ?_ w_codes
  rw [w_t1]
set_option maxRecDepth 65536 in
theorem w_case : (Jvm.Cond.and given_1 narrow_1).before args0 about1 = true := by decide +kernel
theorem w_applies : (headSpec (Jvm.Cond.code x code maxLocals ret :: tables_1) room_1).applies x e0.platform about1 = true :=
  (Spec.applies_iff w_frames).mpr ⟨w_running, w_runnable, w_alone, w_named, w_hears, w_ripe, w_room, w_tables⟩
theorem atStart : AtStart classFile x code maxLocals ret World_1 tables_1 room_1 Calls_1 rest_1 Pre_1 launch0 p0 e0 about1 theMethod args0 below0 :=
  ⟨lists_1, trivial, launch0.admits_env _ _ _, launch0.least_env, fairChoices_fair.cas, fairChoices_fair.clock, w_frames, w_args, w_heap, w_applies, trivial, trivial, w_case⟩
end start1
theorem witness_1 : WitnessClaimed_1 := ⟨start1.p0, start1.e0, start1.about1, start1.theMethod, start1.args0, start1.below0, start1.atStart⟩
end Jvm.Pilot.@@N@@
