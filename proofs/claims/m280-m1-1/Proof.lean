import JvmDerived
import JvmDerived.Pilot.@@N@@Statement
import JvmDerived.Pilot.@@N@@Code
set_option linter.unusedVariables false
set_option linter.unusedSimpArgs false
@@BLOCK:NumsL.lean.txt@@
namespace Jvm.RoadKit
open Sem ClassFile Op Lib Jvm.Stand Jvm.Free Jvm.LawKit
section New
variable {p : Program} {l : Launch} {e : Env} {R : Room} {s : State} {m : MethodId} {args : Array Value} {below : List Frame} {meth : Method} {c : Code} {T : State} {locs : List Loc} {cells slots : Nat}
theorem retI (X : Stand p l e R s m args below meth c T locs cells slots) (hx : p.tables.exec = Jvm.exec) {pc : Nat} {Ls : Array Slot} {z : Int32} {rest : List Value} (hret : meth.sig.returnType = some .int) (hd : decode c.code pc = .ok (.ireturn, 1)) {fs : List Frame}
    (hl : ∀ (f : JFrame) (acts : List Action), f.method = m → f.locked = none → f.entered = [] → (doReturn e (T.setTop f) acts (some (.int z))).1 = T.setFrames fs) : Steps p.tables e below (T.setTop (mkF m pc Ls (.int z :: rest))) (T.setFrames fs) := by
  have hm' : T.vm.method? m = some meth := X.method'
  have hn : narrow .int (.int z) = .int z := rfl
  show Steps p.tables e below (T.setTop { method := m, pc := pc, locals := Ls, stack := _ :: rest, locked := none }) _
  jvm_step X.here [X.here.top, hx, hd, hm', hret, hn]
  first | (intro acts; rw [hl _ acts rfl rfl rfl]) | rw [hl _ _ rfl rfl rfl]
  exact Steps.refl _
end New
end Jvm.RoadKit
namespace Jvm.Pilot.@@N@@
open Jvm Jvm.ClassFile Sem Op Lib Jvm.Free Jvm.Stand Jvm.LawKit Jvm.RoadKit Bundle Jvm.Pilot.@@N@@.Jvm.D
def own_Fl (Z : State) (h : Heap) (a : Addr) (z0 : Int32) (z1 : Int64) (z2 : Int64) (z3 : Int32) (z4 : Int64) (z5 : Int64) (z6 : Int32) : Prop := Exa Z h a "com/example/tracewell/tracewell/capture/Flow" ∧ Fld Z h a "com/example/tracewell/tracewell/capture/Flow" "ipv6" "Z" (.int z0) ∧ Fld Z h a "com/example/tracewell/tracewell/capture/Flow" "sourceHigh" "J" (.long z1) ∧ Fld Z h a "com/example/tracewell/tracewell/capture/Flow" "sourceLow" "J" (.long z2) ∧ Fld Z h a "com/example/tracewell/tracewell/capture/Flow" "sourcePort" "I" (.int z3) ∧ Fld Z h a "com/example/tracewell/tracewell/capture/Flow" "destinationHigh" "J" (.long z4) ∧ Fld Z h a "com/example/tracewell/tracewell/capture/Flow" "destinationLow" "J" (.long z5) ∧ Fld Z h a "com/example/tracewell/tracewell/capture/Flow" "destinationPort" "I" (.int z6)
theorem own_Fl.lt {Z : State} {h h' : Heap} {a : Addr} {z0 : Int32} {z1 : Int64} {z2 : Int64} {z3 : Int32} {z4 : Int64} {z5 : Int64} {z6 : Int32} (B : own_Fl Z h a z0 z1 z2 z3 z4 z5 z6) : a < h.size := B.1.lt
theorem own_Fl.ext {Z : State} {h h' : Heap} {a : Addr} {z0 : Int32} {z1 : Int64} {z2 : Int64} {z3 : Int32} {z4 : Int64} {z5 : Int64} {z6 : Int32} (B : own_Fl Z h a z0 z1 z2 z3 z4 z5 z6) (E : Ext h h') : own_Fl Z h' a z0 z1 z2 z3 z4 z5 z6 := by
  obtain ⟨e, f0, f1, f2, f3, f4, f5, f6⟩ := B
  exact ⟨e.ext E, f0.ext E, f1.ext E, f2.ext E, f3.ext E, f4.ext E, f5.ext E, f6.ext E⟩
theorem own_Fl.keep {Z : State} {h h' : Heap} {a : Addr} {z0 : Int32} {z1 : Int64} {z2 : Int64} {z3 : Int32} {z4 : Int64} {z5 : Int64} {z6 : Int32} {ws : List Addr} (B : own_Fl Z h a z0 z1 z2 z3 z4 z5 z6) (K : Keep h h' ws) (q : a ∉ ws) : own_Fl Z h' a z0 z1 z2 z3 z4 z5 z6 := by
  obtain ⟨e, f0, f1, f2, f3, f4, f5, f6⟩ := B
  exact ⟨e.keep K, f0.keep K q, f1.keep K q, f2.keep K q, f3.keep K q, f4.keep K q, f5.keep K q, f6.keep K q⟩
theorem own_NSroot {Z : State} {a0 : Array Value} {O K : String} {n : Nat} (w : (Cond.noSuperclass O).before a0 Z = true) (wk : (Cond.instantiable K n).before a0 Z = true) (hn : O ≠ K) : NS Z O K := by
  obtain ⟨c, k, h1, h2, h3, -, -⟩ := Cond.noSuperclass_spec w
  obtain ⟨t, kt, g1, -⟩ := Cond.instantiable_spec wk
  have ne := ids_ne h1 g1 hn
  exact ⟨c, t, h1, g1, fun fuel => by cases fuel with | zero => rfl | succ f => simp [Vm.isSubclassAux, ne, h2, h3]⟩
theorem own_NSno {Z : State} {a0 : Array Value} {C S K : String} {n : Nat} (w : (Cond.superclass C S).before a0 Z = true) (wk : (Cond.instantiable K n).before a0 Z = true) (q : NS Z C K) (hn : C ≠ K) : ∃ c t, Z.vm.findClass C = some c ∧ Z.vm.findClass K = some t ∧ Z.vm.assignable c t = false := by
  obtain ⟨c, t, h0, g0, n3⟩ := q
  obtain ⟨p, k, kp, h1, h2, h3, h4, h5, -, h7⟩ := Cond.superclass_spec h0 w
  obtain ⟨t', k', g1, g2, g3, g4, -⟩ := Cond.instantiable_spec wk
  cases g0.symm.trans g1
  have g7 : k'.isInterface = false := by
    rw [Bool.or_eq_false_iff] at g4; exact g4.1
  have ne := ids_ne h0 g0 hn
  refine ⟨c, t, h0, g0, ?_⟩
  show Z.vm.assignableAux (255 + 1) c t = false
  simp [Vm.assignableAux, ne, h2, g2, h5, g3, g7, Vm.isSubclass, n3]
theorem own_len {Z : State} {args : Array Value} {t : Term} {a : Addr} {cl : Cell} {k : Int32} (ht : t.eval args Z none [] Z = some (.ref a)) (ha : Z.arrayAt? a = some cl) (h : (Jvm.Cond.eq (.length t) (.int k)).value args Z none Z [] = some true) : cl.slots.size < 2 ^ 31 ∧ cl.slots.size.toInt32 = k := by
  by_cases q : cl.slots.size < 2 ^ 31
  · exact ⟨q, gotT (Cond.eq_ints (len_f ht ha q) rfl) h⟩
  · simp [Cond.value, Term.eval, ht, ha, q] at h
theorem own_lvix (u : Int64) (h1 : ¬ u < (-128 : Int64)) (h2 : ¬ (127 : Int64) < u) : ¬ (u.toInt32 + (128 : Int32)) < 0 ∧ (u.toInt32 + (128 : Int32)) < (256 : Int32) := by
  simp only [Int64.lt_iff_toInt_lt, Int64.reduceToInt] at h1 h2
  have e : u.toInt32.toInt = u.toInt := Jvm.Kit.i32_of_i64 (by omega) (by omega)
  have q : (u.toInt32 + (128 : Int32)).toInt = u.toInt32.toInt + (128 : Int32).toInt := Jvm.Kit.i32_add (by simp only [Int32.reduceToInt]; omega) (by simp only [Int32.reduceToInt]; omega)
  simp only [Int32.lt_iff_toInt_lt, q, e, Int32.reduceToInt]
  omega

def own_pL (u0 : Int32) (u1 : Int32) (u2 : Int64) (u3 : Int64) : Int64 := if (((u0.toUInt32 >>> (u1 &&& 31).toUInt32).toInt32) &&& (1 : Int32)) = (0 : Int32) then u2 else u3
theorem d6_0 : decode prog_11_method_6_code 0 = .ok (.aload_n 1, 1) := by decide +kernel
theorem d6_1 : decode prog_11_method_6_code 1 = .ok (.instanceof 8, 3) := by decide +kernel
theorem d6_4 : decode prog_11_method_6_code 4 = .ok (.ifCond .eq 93, 3) := by decide +kernel
theorem d6_7 : decode prog_11_method_6_code 7 = .ok (.aload_n 1, 1) := by decide +kernel
theorem d6_8 : decode prog_11_method_6_code 8 = .ok (.checkcast 8, 3) := by decide +kernel
theorem d6_11 : decode prog_11_method_6_code 11 = .ok (.astore_n 2, 1) := by decide +kernel
theorem d6_12 : decode prog_11_method_6_code 12 = .ok (.aload_n 0, 1) := by decide +kernel
theorem d6_13 : decode prog_11_method_6_code 13 = .ok (.getfield 13, 3) := by decide +kernel
theorem d6_16 : decode prog_11_method_6_code 16 = .ok (.aload_n 2, 1) := by decide +kernel
theorem d6_17 : decode prog_11_method_6_code 17 = .ok (.getfield 13, 3) := by decide +kernel
theorem d6_20 : decode prog_11_method_6_code 20 = .ok (.if_icmp .ne 77, 3) := by decide +kernel
theorem d6_23 : decode prog_11_method_6_code 23 = .ok (.aload_n 0, 1) := by decide +kernel
theorem d6_24 : decode prog_11_method_6_code 24 = .ok (.getfield 17, 3) := by decide +kernel
theorem d6_27 : decode prog_11_method_6_code 27 = .ok (.aload_n 2, 1) := by decide +kernel
theorem d6_28 : decode prog_11_method_6_code 28 = .ok (.getfield 17, 3) := by decide +kernel
theorem d6_31 : decode prog_11_method_6_code 31 = .ok (.lcmp, 1) := by decide +kernel
theorem d6_32 : decode prog_11_method_6_code 32 = .ok (.ifCond .ne 65, 3) := by decide +kernel
theorem d6_35 : decode prog_11_method_6_code 35 = .ok (.aload_n 0, 1) := by decide +kernel
theorem d6_36 : decode prog_11_method_6_code 36 = .ok (.getfield 21, 3) := by decide +kernel
theorem d6_39 : decode prog_11_method_6_code 39 = .ok (.aload_n 2, 1) := by decide +kernel
theorem d6_40 : decode prog_11_method_6_code 40 = .ok (.getfield 21, 3) := by decide +kernel
theorem d6_43 : decode prog_11_method_6_code 43 = .ok (.lcmp, 1) := by decide +kernel
theorem d6_44 : decode prog_11_method_6_code 44 = .ok (.ifCond .ne 53, 3) := by decide +kernel
theorem d6_47 : decode prog_11_method_6_code 47 = .ok (.aload_n 0, 1) := by decide +kernel
theorem d6_48 : decode prog_11_method_6_code 48 = .ok (.getfield 24, 3) := by decide +kernel
theorem d6_51 : decode prog_11_method_6_code 51 = .ok (.aload_n 2, 1) := by decide +kernel
theorem d6_52 : decode prog_11_method_6_code 52 = .ok (.getfield 24, 3) := by decide +kernel
theorem d6_55 : decode prog_11_method_6_code 55 = .ok (.if_icmp .ne 42, 3) := by decide +kernel
theorem d6_58 : decode prog_11_method_6_code 58 = .ok (.aload_n 0, 1) := by decide +kernel
theorem d6_59 : decode prog_11_method_6_code 59 = .ok (.getfield 28, 3) := by decide +kernel
theorem d6_62 : decode prog_11_method_6_code 62 = .ok (.aload_n 2, 1) := by decide +kernel
theorem d6_63 : decode prog_11_method_6_code 63 = .ok (.getfield 28, 3) := by decide +kernel
theorem d6_66 : decode prog_11_method_6_code 66 = .ok (.lcmp, 1) := by decide +kernel
theorem d6_67 : decode prog_11_method_6_code 67 = .ok (.ifCond .ne 30, 3) := by decide +kernel
theorem d6_70 : decode prog_11_method_6_code 70 = .ok (.aload_n 0, 1) := by decide +kernel
theorem d6_71 : decode prog_11_method_6_code 71 = .ok (.getfield 31, 3) := by decide +kernel
theorem d6_74 : decode prog_11_method_6_code 74 = .ok (.aload_n 2, 1) := by decide +kernel
theorem d6_75 : decode prog_11_method_6_code 75 = .ok (.getfield 31, 3) := by decide +kernel
theorem d6_78 : decode prog_11_method_6_code 78 = .ok (.lcmp, 1) := by decide +kernel
theorem d6_79 : decode prog_11_method_6_code 79 = .ok (.ifCond .ne 18, 3) := by decide +kernel
theorem d6_82 : decode prog_11_method_6_code 82 = .ok (.aload_n 0, 1) := by decide +kernel
theorem d6_83 : decode prog_11_method_6_code 83 = .ok (.getfield 34, 3) := by decide +kernel
theorem d6_86 : decode prog_11_method_6_code 86 = .ok (.aload_n 2, 1) := by decide +kernel
theorem d6_87 : decode prog_11_method_6_code 87 = .ok (.getfield 34, 3) := by decide +kernel
theorem d6_90 : decode prog_11_method_6_code 90 = .ok (.if_icmp .ne 7, 3) := by decide +kernel
theorem d6_93 : decode prog_11_method_6_code 93 = .ok (.iconst 1, 1) := by decide +kernel
theorem d6_94 : decode prog_11_method_6_code 94 = .ok (.goto 4, 3) := by decide +kernel
theorem d6_98 : decode prog_11_method_6_code 98 = .ok (.ireturn, 1) := by decide +kernel
theorem d6_97 : decode prog_11_method_6_code 97 = .ok (.iconst 0, 1) := by decide +kernel
theorem d1_0 : decode method_2_code 0 = .ok (.iload_n 0, 1) := by decide +kernel
theorem d1_1 : decode method_2_code 1 = .ok (.iload_n 1, 1) := by decide +kernel
theorem d1_2 : decode method_2_code 2 = .ok (.iushr, 1) := by decide +kernel
theorem d1_3 : decode method_2_code 3 = .ok (.iconst 1, 1) := by decide +kernel
theorem d1_4 : decode method_2_code 4 = .ok (.iand, 1) := by decide +kernel
theorem d1_5 : decode method_2_code 5 = .ok (.ifCond .eq 8, 3) := by decide +kernel
theorem d1_13 : decode method_2_code 13 = .ok (.lload_n 2, 1) := by decide +kernel
theorem d1_14 : decode method_2_code 14 = .ok (.lreturn, 1) := by decide +kernel
theorem d1_8 : decode method_2_code 8 = .ok (.lload 4, 2) := by decide +kernel
theorem d1_10 : decode method_2_code 10 = .ok (.goto 4, 3) := by decide +kernel
theorem pn_0 : plainName "com/example/tracewell/tracewell/capture/FlowEqualsPinLaw" = true := by first | (simp [plainName, overriddenIn]; done) | decide +kernel
def Q1 (Z : State) (u0 : Int32) (u1 : Int32) (u2 : Int64) (u3 : Int64)  (h0 : Heap) (n0 : Nat) (v : Option Value) (h : Heap) (L : List Loc) : Prop := v = some (.long (own_pL u0 u1 u2 u3)) ∧ Fr n0 L ∧ h = h0
theorem ef_rm1 (m : MethodId) (u0 : Int32) (u1 : Int32) (u2 : Int64) (u3 : Int64) : entryFrame m #[(.int u0), (.int u1), (.long u2), (.long u3)] 6 = mkF m 0 #[iv u0, iv u1, .val (.long u2), .second, .val (.long u3), .second] [] := by first | (simp [entryFrame, mkF, argsToLocals, Value.category]; done) | rfl
set_option maxRecDepth 65536 in
set_option maxHeartbeats 40000000 in
theorem rm1 (l : Launch) (Z : State) (a0 : Array Value) (hw : ∀ d ∈ tables_1, d.before a0 Z = true) (ws : List Jvm.Cond) (u0 : Int32) (u1 : Int32) (u2 : Int64) (u3 : Int64)  (h0 : Heap) (n0 : Nat) (Z0 : n0 ≤ h0.size) :
    MetFree l (⟨"com/example/tracewell/tracewell/capture/FlowEqualsPinLaw", "pickL", "(IIJJ)J"⟩ : MethodName) (head1 (Jvm.Cond.code (⟨"com/example/tracewell/tracewell/capture/FlowEqualsPinLaw", "pickL", "(IIJJ)J"⟩ : MethodName) method_2_code 6 (some .long) :: ws) ({ frames := 0, cells := 0, slots := 0, locals := 0 } : Room)) (fun a U => a = #[(.int u0), (.int u1), (.long u2), (.long u3)] ∧ Z.Warmed39 U.vm ∧ U.heap = h0) (fun _ _ _ _ _ => True) (fun _ U o U' => ∃ v L, o = .returned v ∧ Q1 Z u0 u1 u2 u3 h0 n0 v U'.heap L ∧ FrameEnd U o U' L ({ frames := 0, cells := 0, slots := 0, locals := 0 } : Room).cells ({ frames := 0, cells := 0, slots := 0, locals := 0 } : Room).slots) := by
  refine MetFree.of_bodySF (plainFor_of_name pn_0) hisR ?_
  intro p e s m args below meth c s₁ Bd hml0 hP hK
  obtain ⟨rfl, hZ, hh⟩ := hP
  have hx := Bd.exec
  have hby := Bd.bytes
  have hml : c.maxLocals = 6 := hml0
  have hown : s.vm.findClass "com/example/tracewell/tracewell/capture/FlowEqualsPinLaw" = some m.cls := findClass_of_methodNamed Bd.named
  have hnm := (name_of_methodNamed Bd.named Bd.method).1
  have X0 : Stand p l e ({ frames := 0, cells := 0, slots := 0, locals := 0 } : Room) s m #[(.int u0), (.int u1), (.long u2), (.long u3)] below meth c s₁ [] 0 0 := Stand.of_body Bd
  have e0 : s₁.heap = h0 := by rw [← hh, Bd.state]; rfl
  have N0 := Fr.nil n0
  have S0 : ∀ t, Steps p.tables e below (s₁.setTop (mkF m 0 #[iv u0, iv u1, .val (.long u2), .second, .val (.long u3), .second] [])) t → Steps p.tables e below (s₁.setTop (entryFrame m #[(.int u0), (.int u1), (.long u2), (.long u3)] 6)) t := fun t k => castTop (ef_rm1 m u0 u1 u2 u3) k
  have S1 : ∀ t, Steps p.tables e below (s₁.setTop (mkF m 5 #[iv u0, iv u1, .val (.long u2), .second, .val (.long u3), .second] [(.int (((u0.toUInt32 >>> (u1 &&& 31).toUInt32).toInt32) &&& (1 : Int32)))])) t → Steps p.tables e below (s₁.setTop (entryFrame m #[(.int u0), (.int u1), (.long u2), (.long u3)] 6)) t := by
    intro t k
    refine S0 t ?_
    show Steps p.tables e below (s₁.setTop (mkF m 0 #[iv u0, iv u1, .val (.long u2), .second, .val (.long u3), .second] [])) _
    refine XS.iloadN X0.here hx rfl (hb hby d1_0) rfl ?_
    show Steps p.tables e below (s₁.setTop (mkF m 1 #[iv u0, iv u1, .val (.long u2), .second, .val (.long u3), .second] [(.int u0)])) _
    refine XS.iloadN X0.here hx rfl (hb hby d1_1) rfl ?_
    show Steps p.tables e below (s₁.setTop (mkF m 2 #[iv u0, iv u1, .val (.long u2), .second, .val (.long u3), .second] [(.int u1), (.int u0)])) _
    refine XS.iushr X0.here hx rfl (hb hby d1_2) rfl ?_
    show Steps p.tables e below (s₁.setTop (mkF m 3 #[iv u0, iv u1, .val (.long u2), .second, .val (.long u3), .second] [(.int ((u0.toUInt32 >>> (u1 &&& 31).toUInt32).toInt32))])) _
    refine XS.iconst X0.here hx rfl (hb hby d1_3) ?_
    show Steps p.tables e below (s₁.setTop (mkF m 4 #[iv u0, iv u1, .val (.long u2), .second, .val (.long u3), .second] [(.int (1 : Int32)), (.int ((u0.toUInt32 >>> (u1 &&& 31).toUInt32).toInt32))])) _
    refine XS.iand X0.here hx rfl (hb hby d1_4) rfl ?_
    exact k
  by_cases hc2 : (((u0.toUInt32 >>> (u1 &&& 31).toUInt32).toInt32) &&& (1 : Int32)) = (0 : Int32)
  · skip
    obtain ⟨fs, hr, hrun, hended, hW, hsame⟩ := X0.leave (v := some (.long u2)) (fun h => by rw [Bd.returns] at h; cases h)
    refine ⟨_, _, S1 _ ?_, hrun, hended, _, _, rfl, ?_, ⟨_, rfl⟩, hW, hsame.mono (by decide) (by decide)⟩
    · skip
      show Steps p.tables e below (s₁.setTop (mkF m 5 #[iv u0, iv u1, .val (.long u2), .second, .val (.long u3), .second] [(.int (((u0.toUInt32 >>> (u1 &&& 31).toUInt32).toInt32) &&& (1 : Int32)))])) _
      refine XS.ifYes X0.here hx rfl (pc0 := 5) (pc' := 13) rfl (hb hby d1_5) rfl ((if0 _ _).trans (teq hc2).1) (by decide) (by decide) ?_
      show Steps p.tables e below (s₁.setTop (mkF m 13 #[iv u0, iv u1, .val (.long u2), .second, .val (.long u3), .second] [])) _
      refine XS.lloadN X0.here hx rfl (hb hby d1_13) rfl ?_
      show Steps p.tables e below (s₁.setTop (mkF m 14 #[iv u0, iv u1, .val (.long u2), .second, .val (.long u3), .second] [(.long u2)])) _
      exact retOut X0 hx (t := .long) (i := .lreturn) Bd.returns rfl (Or.inr (Or.inl ⟨rfl, rfl, _, rfl⟩)) (hb hby d1_14) hr
    · show Q1 Z u0 u1 u2 u3 h0 n0 _ s₁.heap _
      rw [e0]
      exact ⟨(by unfold own_pL; rw [if_pos hc2]), N0, rfl⟩
  · skip
    obtain ⟨fs, hr, hrun, hended, hW, hsame⟩ := X0.leave (v := some (.long u3)) (fun h => by rw [Bd.returns] at h; cases h)
    refine ⟨_, _, S1 _ ?_, hrun, hended, _, _, rfl, ?_, ⟨_, rfl⟩, hW, hsame.mono (by decide) (by decide)⟩
    · skip
      show Steps p.tables e below (s₁.setTop (mkF m 5 #[iv u0, iv u1, .val (.long u2), .second, .val (.long u3), .second] [(.int (((u0.toUInt32 >>> (u1 &&& 31).toUInt32).toInt32) &&& (1 : Int32)))])) _
      refine XS.ifNo X0.here hx rfl (hb hby d1_5) rfl ((if0 _ _).trans (feq hc2).1) ?_
      show Steps p.tables e below (s₁.setTop (mkF m 8 #[iv u0, iv u1, .val (.long u2), .second, .val (.long u3), .second] [])) _
      refine XS.lload X0.here hx rfl (hb hby d1_8) rfl ?_
      show Steps p.tables e below (s₁.setTop (mkF m 10 #[iv u0, iv u1, .val (.long u2), .second, .val (.long u3), .second] [(.long u3)])) _
      refine XS.goto X0.here hx rfl (pc0 := 10) (pc' := 14) rfl (hb hby d1_10) (by decide) (by decide) ?_
      show Steps p.tables e below (s₁.setTop (mkF m 14 #[iv u0, iv u1, .val (.long u2), .second, .val (.long u3), .second] [(.long u3)])) _
      exact retOut X0 hx (t := .long) (i := .lreturn) Bd.returns rfl (Or.inr (Or.inl ⟨rfl, rfl, _, rfl⟩)) (hb hby d1_14) hr
    · show Q1 Z u0 u1 u2 u3 h0 n0 _ s₁.heap _
      rw [e0]
      exact ⟨(by unfold own_pL; rw [if_neg hc2]), N0, rfl⟩
def own_pI (u0 : Int32) (u1 : Int32) (u2 : Int32) (u3 : Int32) : Int32 := if (((u0.toUInt32 >>> (u1 &&& 31).toUInt32).toInt32) &&& (1 : Int32)) = (0 : Int32) then u2 else u3
theorem d2_0 : decode method_3_code 0 = .ok (.iload_n 0, 1) := by decide +kernel
theorem d2_1 : decode method_3_code 1 = .ok (.iload_n 1, 1) := by decide +kernel
theorem d2_2 : decode method_3_code 2 = .ok (.iushr, 1) := by decide +kernel
theorem d2_3 : decode method_3_code 3 = .ok (.iconst 1, 1) := by decide +kernel
theorem d2_4 : decode method_3_code 4 = .ok (.iand, 1) := by decide +kernel
theorem d2_5 : decode method_3_code 5 = .ok (.ifCond .eq 7, 3) := by decide +kernel
theorem d2_12 : decode method_3_code 12 = .ok (.iload_n 2, 1) := by decide +kernel
theorem d2_13 : decode method_3_code 13 = .ok (.ireturn, 1) := by decide +kernel
theorem d2_8 : decode method_3_code 8 = .ok (.iload_n 3, 1) := by decide +kernel
theorem d2_9 : decode method_3_code 9 = .ok (.goto 4, 3) := by decide +kernel
def Q2 (Z : State) (u0 : Int32) (u1 : Int32) (u2 : Int32) (u3 : Int32)  (h0 : Heap) (n0 : Nat) (v : Option Value) (h : Heap) (L : List Loc) : Prop := v = some (.int (own_pI u0 u1 u2 u3)) ∧ Fr n0 L ∧ h = h0
theorem ef_rm2 (m : MethodId) (u0 : Int32) (u1 : Int32) (u2 : Int32) (u3 : Int32) : entryFrame m #[(.int u0), (.int u1), (.int u2), (.int u3)] 4 = mkF m 0 #[iv u0, iv u1, iv u2, iv u3] [] := by first | (simp [entryFrame, mkF, argsToLocals, Value.category]; done) | rfl
set_option maxRecDepth 65536 in
set_option maxHeartbeats 40000000 in
theorem rm2 (l : Launch) (Z : State) (a0 : Array Value) (hw : ∀ d ∈ tables_1, d.before a0 Z = true) (ws : List Jvm.Cond) (u0 : Int32) (u1 : Int32) (u2 : Int32) (u3 : Int32)  (h0 : Heap) (n0 : Nat) (Z0 : n0 ≤ h0.size) :
    MetFree l (⟨"com/example/tracewell/tracewell/capture/FlowEqualsPinLaw", "pickI", "(IIII)I"⟩ : MethodName) (head1 (Jvm.Cond.code (⟨"com/example/tracewell/tracewell/capture/FlowEqualsPinLaw", "pickI", "(IIII)I"⟩ : MethodName) method_3_code 4 (some .int) :: ws) ({ frames := 0, cells := 0, slots := 0, locals := 0 } : Room)) (fun a U => a = #[(.int u0), (.int u1), (.int u2), (.int u3)] ∧ Z.Warmed39 U.vm ∧ U.heap = h0) (fun _ _ _ _ _ => True) (fun _ U o U' => ∃ v L, o = .returned v ∧ Q2 Z u0 u1 u2 u3 h0 n0 v U'.heap L ∧ FrameEnd U o U' L ({ frames := 0, cells := 0, slots := 0, locals := 0 } : Room).cells ({ frames := 0, cells := 0, slots := 0, locals := 0 } : Room).slots) := by
  refine MetFree.of_bodySF (plainFor_of_name pn_0) hisR ?_
  intro p e s m args below meth c s₁ Bd hml0 hP hK
  obtain ⟨rfl, hZ, hh⟩ := hP
  have hx := Bd.exec
  have hby := Bd.bytes
  have hml : c.maxLocals = 4 := hml0
  have hown : s.vm.findClass "com/example/tracewell/tracewell/capture/FlowEqualsPinLaw" = some m.cls := findClass_of_methodNamed Bd.named
  have hnm := (name_of_methodNamed Bd.named Bd.method).1
  have X0 : Stand p l e ({ frames := 0, cells := 0, slots := 0, locals := 0 } : Room) s m #[(.int u0), (.int u1), (.int u2), (.int u3)] below meth c s₁ [] 0 0 := Stand.of_body Bd
  have e0 : s₁.heap = h0 := by rw [← hh, Bd.state]; rfl
  have N0 := Fr.nil n0
  have S0 : ∀ t, Steps p.tables e below (s₁.setTop (mkF m 0 #[iv u0, iv u1, iv u2, iv u3] [])) t → Steps p.tables e below (s₁.setTop (entryFrame m #[(.int u0), (.int u1), (.int u2), (.int u3)] 4)) t := fun t k => castTop (ef_rm2 m u0 u1 u2 u3) k
  have S1 : ∀ t, Steps p.tables e below (s₁.setTop (mkF m 5 #[iv u0, iv u1, iv u2, iv u3] [(.int (((u0.toUInt32 >>> (u1 &&& 31).toUInt32).toInt32) &&& (1 : Int32)))])) t → Steps p.tables e below (s₁.setTop (entryFrame m #[(.int u0), (.int u1), (.int u2), (.int u3)] 4)) t := by
    intro t k
    refine S0 t ?_
    show Steps p.tables e below (s₁.setTop (mkF m 0 #[iv u0, iv u1, iv u2, iv u3] [])) _
    refine XS.iloadN X0.here hx rfl (hb hby d2_0) rfl ?_
    show Steps p.tables e below (s₁.setTop (mkF m 1 #[iv u0, iv u1, iv u2, iv u3] [(.int u0)])) _
    refine XS.iloadN X0.here hx rfl (hb hby d2_1) rfl ?_
    show Steps p.tables e below (s₁.setTop (mkF m 2 #[iv u0, iv u1, iv u2, iv u3] [(.int u1), (.int u0)])) _
    refine XS.iushr X0.here hx rfl (hb hby d2_2) rfl ?_
    show Steps p.tables e below (s₁.setTop (mkF m 3 #[iv u0, iv u1, iv u2, iv u3] [(.int ((u0.toUInt32 >>> (u1 &&& 31).toUInt32).toInt32))])) _
    refine XS.iconst X0.here hx rfl (hb hby d2_3) ?_
    show Steps p.tables e below (s₁.setTop (mkF m 4 #[iv u0, iv u1, iv u2, iv u3] [(.int (1 : Int32)), (.int ((u0.toUInt32 >>> (u1 &&& 31).toUInt32).toInt32))])) _
    refine XS.iand X0.here hx rfl (hb hby d2_4) rfl ?_
    exact k
  by_cases hc2 : (((u0.toUInt32 >>> (u1 &&& 31).toUInt32).toInt32) &&& (1 : Int32)) = (0 : Int32)
  · skip
    obtain ⟨fs, hr, hrun, hended, hW, hsame⟩ := X0.leave (v := some (.int u2)) (fun h => by rw [Bd.returns] at h; cases h)
    refine ⟨_, _, S1 _ ?_, hrun, hended, _, _, rfl, ?_, ⟨_, rfl⟩, hW, hsame.mono (by decide) (by decide)⟩
    · skip
      show Steps p.tables e below (s₁.setTop (mkF m 5 #[iv u0, iv u1, iv u2, iv u3] [(.int (((u0.toUInt32 >>> (u1 &&& 31).toUInt32).toInt32) &&& (1 : Int32)))])) _
      refine XS.ifYes X0.here hx rfl (pc0 := 5) (pc' := 12) rfl (hb hby d2_5) rfl ((if0 _ _).trans (teq hc2).1) (by decide) (by decide) ?_
      show Steps p.tables e below (s₁.setTop (mkF m 12 #[iv u0, iv u1, iv u2, iv u3] [])) _
      refine XS.iloadN X0.here hx rfl (hb hby d2_12) rfl ?_
      show Steps p.tables e below (s₁.setTop (mkF m 13 #[iv u0, iv u1, iv u2, iv u3] [(.int u2)])) _
      exact retI X0 hx Bd.returns (hb hby d2_13) hr
    · show Q2 Z u0 u1 u2 u3 h0 n0 _ s₁.heap _
      rw [e0]
      exact ⟨(by unfold own_pI; rw [if_pos hc2]), N0, rfl⟩
  · skip
    obtain ⟨fs, hr, hrun, hended, hW, hsame⟩ := X0.leave (v := some (.int u3)) (fun h => by rw [Bd.returns] at h; cases h)
    refine ⟨_, _, S1 _ ?_, hrun, hended, _, _, rfl, ?_, ⟨_, rfl⟩, hW, hsame.mono (by decide) (by decide)⟩
    · skip
      show Steps p.tables e below (s₁.setTop (mkF m 5 #[iv u0, iv u1, iv u2, iv u3] [(.int (((u0.toUInt32 >>> (u1 &&& 31).toUInt32).toInt32) &&& (1 : Int32)))])) _
      refine XS.ifNo X0.here hx rfl (hb hby d2_5) rfl ((if0 _ _).trans (feq hc2).1) ?_
      show Steps p.tables e below (s₁.setTop (mkF m 8 #[iv u0, iv u1, iv u2, iv u3] [])) _
      refine XS.iloadN X0.here hx rfl (hb hby d2_8) rfl ?_
      show Steps p.tables e below (s₁.setTop (mkF m 9 #[iv u0, iv u1, iv u2, iv u3] [(.int u3)])) _
      refine XS.goto X0.here hx rfl (pc0 := 9) (pc' := 13) rfl (hb hby d2_9) (by decide) (by decide) ?_
      show Steps p.tables e below (s₁.setTop (mkF m 13 #[iv u0, iv u1, iv u2, iv u3] [(.int u3)])) _
      exact retI X0 hx Bd.returns (hb hby d2_13) hr
    · show Q2 Z u0 u1 u2 u3 h0 n0 _ s₁.heap _
      rw [e0]
      exact ⟨(by unfold own_pI; rw [if_neg hc2]), N0, rfl⟩
theorem d3_0 : decode prog_11_method_1_code 0 = .ok (.aload_n 0, 1) := by decide +kernel
theorem d3_1 : decode prog_11_method_1_code 1 = .ok (.invokespecial 1, 3) := by decide +kernel
theorem d3_4 : decode prog_11_method_1_code 4 = .ok (.return_, 1) := by decide +kernel
theorem pn_1 : plainName "com/example/tracewell/tracewell/capture/Flow" = true := by first | (simp [plainName, overriddenIn]; done) | decide +kernel
def QI0 (Z : State) (a0_ : Addr)  (h0 : Heap) (n0 : Nat) (v : Option Value) (h : Heap) (L : List Loc) : Prop := v = none ∧ Fr n0 L ∧ h = h0
theorem ef_rmI0 (m : MethodId) (a0_ : Addr) : entryFrame m #[(.ref a0_)] 1 = mkF m 0 #[rv a0_] [] := by first | (simp [entryFrame, mkF, argsToLocals, Value.category]; done) | rfl
set_option maxRecDepth 65536 in
set_option maxHeartbeats 40000000 in
theorem rmI0 (l : Launch) (Z : State) (a0 : Array Value) (hw : ∀ d ∈ tables_1, d.before a0 Z = true) (ws : List Jvm.Cond) (a0_ : Addr)  (h0 : Heap) (n0 : Nat) (Z0 : n0 ≤ h0.size) :
    MetFree l (⟨"com/example/tracewell/tracewell/capture/Flow", "<init>", "()V"⟩ : MethodName) (head1 (Jvm.Cond.code (⟨"com/example/tracewell/tracewell/capture/Flow", "<init>", "()V"⟩ : MethodName) prog_11_method_1_code 1 none :: ws) ({ frames := 1, cells := 0, slots := 0, locals := 12 } : Room)) (fun a U => a = #[(.ref a0_)] ∧ Z.Warmed39 U.vm ∧ U.heap = h0) (fun _ _ _ _ _ => True) (fun _ U o U' => ∃ v L, o = .returned v ∧ QI0 Z a0_ h0 n0 v U'.heap L ∧ FrameEnd U o U' L ({ frames := 1, cells := 0, slots := 0, locals := 12 } : Room).cells ({ frames := 1, cells := 0, slots := 0, locals := 12 } : Room).slots) := by
  refine MetFree.of_bodySF (plainFor_of_name pn_1) hisR ?_
  intro p e s m args below meth c s₁ Bd hml0 hP hK
  obtain ⟨rfl, hZ, hh⟩ := hP
  have hx := Bd.exec
  have hby := Bd.bytes
  have hml : c.maxLocals = 1 := hml0
  have hown : s.vm.findClass "com/example/tracewell/tracewell/capture/Flow" = some m.cls := findClass_of_methodNamed Bd.named
  have hnm := (name_of_methodNamed Bd.named Bd.method).1
  have X0 : Stand p l e ({ frames := 1, cells := 0, slots := 0, locals := 12 } : Room) s m #[(.ref a0_)] below meth c s₁ [] 0 0 := Stand.of_body Bd
  have e0 : s₁.heap = h0 := by rw [← hh, Bd.state]; rfl
  have N0 := Fr.nil n0
  have S0 : ∀ t, Steps p.tables e below (s₁.setTop (mkF m 0 #[rv a0_] [])) t → Steps p.tables e below (s₁.setTop (entryFrame m #[(.ref a0_)] 1)) t := fun t k => castTop (ef_rmI0 m a0_) k
  obtain ⟨T1, X1, e1, st1⟩ := initO X0 hx hZ hown (hw _ (List.mem_of_getElem? (i := 13) rfl)) (hw _ (List.mem_of_getElem? (i := 14) rfl)) (hw _ (List.mem_of_getElem? (i := 15) rfl)) e0 (g := (mkF m 1 #[rv a0_] [(.ref a0_)])) rfl (by rw [hml]; rfl) rfl (hb hby d3_1) (by decide) (W := 0) (by show 2 * 0 + _ ≤ _; exact Nat.le_of_eq rfl) (by decide)
  obtain ⟨fs, hr, hrun, hended, hW, hsame⟩ := X1.leave (v := none) (fun _ => rfl)
  refine ⟨_, _, S0 _ ?_, hrun, hended, _, _, rfl, ?_, ⟨_, rfl⟩, hW, hsame.mono (by decide) (by decide)⟩
  · skip
    show Steps p.tables e below (s₁.setTop (mkF m 0 #[rv a0_] [])) _
    refine XS.aloadN X0.here hx rfl (hb hby d3_0) rfl rfl ?_
    show Steps p.tables e below (s₁.setTop (mkF m 1 #[rv a0_] [(.ref a0_)])) _
    refine st1 _ ?_
    show Steps p.tables e below (T1.setTop (mkF m 4 #[rv a0_] [])) _
    exact X1.returnOut hx Bd.returns (hb hby d3_4) hr
  · show QI0 Z a0_ h0 n0 _ T1.heap _
    rw [e1]
    exact ⟨rfl, N0, rfl⟩
theorem d5_0 : decode prog_11_method_3_code 0 = .ok (.aload_n 0, 1) := by decide +kernel
theorem d5_1 : decode prog_11_method_3_code 1 = .ok (.iload_n 1, 1) := by decide +kernel
theorem d5_2 : decode prog_11_method_3_code 2 = .ok (.putfield 13, 3) := by decide +kernel
theorem d5_5 : decode prog_11_method_3_code 5 = .ok (.aload_n 0, 1) := by decide +kernel
theorem d5_6 : decode prog_11_method_3_code 6 = .ok (.lload_n 2, 1) := by decide +kernel
theorem d5_7 : decode prog_11_method_3_code 7 = .ok (.putfield 17, 3) := by decide +kernel
theorem d5_10 : decode prog_11_method_3_code 10 = .ok (.aload_n 0, 1) := by decide +kernel
theorem d5_11 : decode prog_11_method_3_code 11 = .ok (.lload 4, 2) := by decide +kernel
theorem d5_13 : decode prog_11_method_3_code 13 = .ok (.putfield 21, 3) := by decide +kernel
theorem d5_16 : decode prog_11_method_3_code 16 = .ok (.aload_n 0, 1) := by decide +kernel
theorem d5_17 : decode prog_11_method_3_code 17 = .ok (.iload 6, 2) := by decide +kernel
theorem d5_19 : decode prog_11_method_3_code 19 = .ok (.putfield 24, 3) := by decide +kernel
theorem d5_22 : decode prog_11_method_3_code 22 = .ok (.aload_n 0, 1) := by decide +kernel
theorem d5_23 : decode prog_11_method_3_code 23 = .ok (.lload 7, 2) := by decide +kernel
theorem d5_25 : decode prog_11_method_3_code 25 = .ok (.putfield 28, 3) := by decide +kernel
theorem d5_28 : decode prog_11_method_3_code 28 = .ok (.aload_n 0, 1) := by decide +kernel
theorem d5_29 : decode prog_11_method_3_code 29 = .ok (.lload 9, 2) := by decide +kernel
theorem d5_31 : decode prog_11_method_3_code 31 = .ok (.putfield 31, 3) := by decide +kernel
theorem d5_34 : decode prog_11_method_3_code 34 = .ok (.aload_n 0, 1) := by decide +kernel
theorem d5_35 : decode prog_11_method_3_code 35 = .ok (.iload 11, 2) := by decide +kernel
theorem d5_37 : decode prog_11_method_3_code 37 = .ok (.putfield 34, 3) := by decide +kernel
theorem d5_40 : decode prog_11_method_3_code 40 = .ok (.return_, 1) := by decide +kernel
def QSet (Z : State) (a0_ : Addr) (u0 : Int32) (u1 : Int64) (u2 : Int64) (u3 : Int32) (u4 : Int64) (u5 : Int64) (u6 : Int32) (o0 : Int32) (o1 : Int64) (o2 : Int64) (o3 : Int32) (o4 : Int64) (o5 : Int64) (o6 : Int32) (h0 : Heap) (n0 : Nat) (v : Option Value) (h : Heap) (L : List Loc) : Prop := v = none ∧ Fr n0 L ∧ Keep h0 h [a0_] ∧ own_Fl Z h a0_ (nar .boolean u0) u1 u2 u3 u4 u5 u6
theorem ef_rmSet (m : MethodId) (a0_ : Addr) (u0 : Int32) (u1 : Int64) (u2 : Int64) (u3 : Int32) (u4 : Int64) (u5 : Int64) (u6 : Int32) : entryFrame m #[(.ref a0_), (.int u0), (.long u1), (.long u2), (.int u3), (.long u4), (.long u5), (.int u6)] 12 = mkF m 0 #[rv a0_, iv u0, .val (.long u1), .second, .val (.long u2), .second, iv u3, .val (.long u4), .second, .val (.long u5), .second, iv u6] [] := by first | (simp [entryFrame, mkF, argsToLocals, Value.category]; done) | rfl
set_option maxRecDepth 65536 in
set_option maxHeartbeats 40000000 in
theorem rmSet (l : Launch) (Z : State) (a0 : Array Value) (hw : ∀ d ∈ tables_1, d.before a0 Z = true) (ws : List Jvm.Cond) (a0_ : Addr) (u0 : Int32) (u1 : Int64) (u2 : Int64) (u3 : Int32) (u4 : Int64) (u5 : Int64) (u6 : Int32) (o0 : Int32) (o1 : Int64) (o2 : Int64) (o3 : Int32) (o4 : Int64) (o5 : Int64) (o6 : Int32) (h0 : Heap) (n0 : Nat) (Z0 : n0 ≤ h0.size) (B0 : own_Fl Z h0 a0_ o0 o1 o2 o3 o4 o5 o6) (g0 : n0 ≤ a0_) :
    MetFree l (⟨"com/example/tracewell/tracewell/capture/Flow", "set", "(ZJJIJJI)V"⟩ : MethodName) (head1 (Jvm.Cond.code (⟨"com/example/tracewell/tracewell/capture/Flow", "set", "(ZJJIJJI)V"⟩ : MethodName) prog_11_method_3_code 12 none :: ws) ({ frames := 0, cells := 0, slots := 0, locals := 0 } : Room)) (fun a U => a = #[(.ref a0_), (.int u0), (.long u1), (.long u2), (.int u3), (.long u4), (.long u5), (.int u6)] ∧ Z.Warmed39 U.vm ∧ U.heap = h0) (fun _ _ _ _ _ => True) (fun _ U o U' => ∃ v L, o = .returned v ∧ QSet Z a0_ u0 u1 u2 u3 u4 u5 u6 o0 o1 o2 o3 o4 o5 o6 h0 n0 v U'.heap L ∧ FrameEnd U o U' L ({ frames := 0, cells := 0, slots := 0, locals := 0 } : Room).cells ({ frames := 0, cells := 0, slots := 0, locals := 0 } : Room).slots) := by
  refine MetFree.of_bodySF (plainFor_of_name pn_1) hisR ?_
  intro p e s m args below meth c s₁ Bd hml0 hP hK
  obtain ⟨rfl, hZ, hh⟩ := hP
  have hx := Bd.exec
  have hby := Bd.bytes
  have hml : c.maxLocals = 12 := hml0
  have hown : s.vm.findClass "com/example/tracewell/tracewell/capture/Flow" = some m.cls := findClass_of_methodNamed Bd.named
  have hnm := (name_of_methodNamed Bd.named Bd.method).1
  have X0 : Stand p l e ({ frames := 0, cells := 0, slots := 0, locals := 0 } : Room) s m #[(.ref a0_), (.int u0), (.long u1), (.long u2), (.int u3), (.long u4), (.long u5), (.int u6)] below meth c s₁ [] 0 0 := Stand.of_body Bd
  have e0 : s₁.heap = h0 := by rw [← hh, Bd.state]; rfl
  have N0 := Fr.nil n0
  have S0 : ∀ t, Steps p.tables e below (s₁.setTop (mkF m 0 #[rv a0_, iv u0, .val (.long u1), .second, .val (.long u2), .second, iv u3, .val (.long u4), .second, .val (.long u5), .second, iv u6] [])) t → Steps p.tables e below (s₁.setTop (entryFrame m #[(.ref a0_), (.int u0), (.long u1), (.long u2), (.int u3), (.long u4), (.long u5), (.int u6)] 12)) t := fun t k => castTop (ef_rmSet m a0_ u0 u1 u2 u3 u4 u5 u6) k
  obtain ⟨oe1, of1_0, of1_1, of1_2, of1_3, of1_4, of1_5, of1_6⟩ := id B0
  have K0 : Keep h0 h0 [a0_] := Keep.refl _ _
  obtain ⟨T2, h2, X2, e2, W2, st2⟩ := putFN X0 hx hZ hown (hw _ (List.mem_of_getElem? (i := 21) rfl)) Via.refl e0 of1_0 oe1 (Or.inl (hw _ (List.mem_of_getElem? (i := 22) rfl))) (hw _ (List.mem_of_getElem? (i := 8) rfl)) (ty := .boolean) (v' := (.int (nar .boolean u0))) (by decide) rfl (fits_nar_bool _) (g := (mkF m 2 #[rv a0_, iv u0, .val (.long u1), .second, .val (.long u2), .second, iv u3, .val (.long u4), .second, .val (.long u5), .second, iv u6] [(.int u0), (.ref a0_)])) rfl rfl (hb hby d5_2)
  have Fw2 := of1_0.same W2
  have f3 := of1_1.other W2 (Or.inr (slot_ne (Or.inl (hw _ (List.mem_of_getElem? (i := 24) rfl))) (Or.inl (hw _ (List.mem_of_getElem? (i := 22) rfl))) (by decide) (t := .long) (t' := .boolean) (by decide) (by decide)))
  have f4 := of1_2.other W2 (Or.inr (slot_ne (Or.inl (hw _ (List.mem_of_getElem? (i := 26) rfl))) (Or.inl (hw _ (List.mem_of_getElem? (i := 22) rfl))) (by decide) (t := .long) (t' := .boolean) (by decide) (by decide)))
  have f5 := of1_3.other W2 (Or.inr (slot_ne (Or.inl (hw _ (List.mem_of_getElem? (i := 28) rfl))) (Or.inl (hw _ (List.mem_of_getElem? (i := 22) rfl))) (by decide) (t := .int) (t' := .boolean) (by decide) (by decide)))
  have f6 := of1_4.other W2 (Or.inr (slot_ne (Or.inl (hw _ (List.mem_of_getElem? (i := 30) rfl))) (Or.inl (hw _ (List.mem_of_getElem? (i := 22) rfl))) (by decide) (t := .long) (t' := .boolean) (by decide) (by decide)))
  have f7 := of1_5.other W2 (Or.inr (slot_ne (Or.inl (hw _ (List.mem_of_getElem? (i := 32) rfl))) (Or.inl (hw _ (List.mem_of_getElem? (i := 22) rfl))) (by decide) (t := .long) (t' := .boolean) (by decide) (by decide)))
  have f8 := of1_6.other W2 (Or.inr (slot_ne (Or.inl (hw _ (List.mem_of_getElem? (i := 34) rfl))) (Or.inl (hw _ (List.mem_of_getElem? (i := 22) rfl))) (by decide) (t := .int) (t' := .boolean) (by decide) (by decide)))
  have f9 := oe1.wr W2
  have N2 := Fr.snoc X2 N0 g0
  have Z2 : n0 ≤ h2.size := Nat.le_trans Z0 (Keep.of_wr W2).1
  have K2 : Keep h0 h2 [a0_] := K0.wr W2 (Or.inl (List.mem_of_getElem? (i := 0) rfl))
  obtain ⟨T18, h18, X18, e18, W18, st18⟩ := putF X2 hx hZ hown (host := "") (Or.inl (hw _ (List.mem_of_getElem? (i := 23) rfl))) Via.refl e2 f3 f9 (Or.inl (hw _ (List.mem_of_getElem? (i := 24) rfl))) (hw _ (List.mem_of_getElem? (i := 8) rfl)) (ty := .long) (by decide) rfl rfl (g := (mkF m 7 #[rv a0_, iv u0, .val (.long u1), .second, .val (.long u2), .second, iv u3, .val (.long u4), .second, .val (.long u5), .second, iv u6] [(.long u1), (.ref a0_)])) rfl rfl (hb hby d5_7)
  have Fw18 := f3.same W18
  have f19 := Fw2.other W18 (Or.inr (slot_ne (Or.inl (hw _ (List.mem_of_getElem? (i := 22) rfl))) (Or.inl (hw _ (List.mem_of_getElem? (i := 24) rfl))) (by decide) (t := .boolean) (t' := .long) (by decide) (by decide)))
  have f20 := f4.other W18 (Or.inr (slot_ne (Or.inl (hw _ (List.mem_of_getElem? (i := 26) rfl))) (Or.inl (hw _ (List.mem_of_getElem? (i := 24) rfl))) (by decide) (t := .long) (t' := .long) (by decide) (by decide)))
  have f21 := f5.other W18 (Or.inr (slot_ne (Or.inl (hw _ (List.mem_of_getElem? (i := 28) rfl))) (Or.inl (hw _ (List.mem_of_getElem? (i := 24) rfl))) (by decide) (t := .int) (t' := .long) (by decide) (by decide)))
  have f22 := f6.other W18 (Or.inr (slot_ne (Or.inl (hw _ (List.mem_of_getElem? (i := 30) rfl))) (Or.inl (hw _ (List.mem_of_getElem? (i := 24) rfl))) (by decide) (t := .long) (t' := .long) (by decide) (by decide)))
  have f23 := f7.other W18 (Or.inr (slot_ne (Or.inl (hw _ (List.mem_of_getElem? (i := 32) rfl))) (Or.inl (hw _ (List.mem_of_getElem? (i := 24) rfl))) (by decide) (t := .long) (t' := .long) (by decide) (by decide)))
  have f24 := f8.other W18 (Or.inr (slot_ne (Or.inl (hw _ (List.mem_of_getElem? (i := 34) rfl))) (Or.inl (hw _ (List.mem_of_getElem? (i := 24) rfl))) (by decide) (t := .int) (t' := .long) (by decide) (by decide)))
  have f25 := f9.wr W18
  have N18 := Fr.snoc X18 N2 g0
  have Z18 : n0 ≤ h18.size := Nat.le_trans Z2 (Keep.of_wr W18).1
  have K18 : Keep h0 h18 [a0_] := K2.wr W18 (Or.inl (List.mem_of_getElem? (i := 0) rfl))
  obtain ⟨T34, h34, X34, e34, W34, st34⟩ := putF X18 hx hZ hown (host := "") (Or.inl (hw _ (List.mem_of_getElem? (i := 25) rfl))) Via.refl e18 f20 f25 (Or.inl (hw _ (List.mem_of_getElem? (i := 26) rfl))) (hw _ (List.mem_of_getElem? (i := 8) rfl)) (ty := .long) (by decide) rfl rfl (g := (mkF m 13 #[rv a0_, iv u0, .val (.long u1), .second, .val (.long u2), .second, iv u3, .val (.long u4), .second, .val (.long u5), .second, iv u6] [(.long u2), (.ref a0_)])) rfl rfl (hb hby d5_13)
  have Fw34 := f20.same W34
  have f35 := f19.other W34 (Or.inr (slot_ne (Or.inl (hw _ (List.mem_of_getElem? (i := 22) rfl))) (Or.inl (hw _ (List.mem_of_getElem? (i := 26) rfl))) (by decide) (t := .boolean) (t' := .long) (by decide) (by decide)))
  have f36 := Fw18.other W34 (Or.inr (slot_ne (Or.inl (hw _ (List.mem_of_getElem? (i := 24) rfl))) (Or.inl (hw _ (List.mem_of_getElem? (i := 26) rfl))) (by decide) (t := .long) (t' := .long) (by decide) (by decide)))
  have f37 := f21.other W34 (Or.inr (slot_ne (Or.inl (hw _ (List.mem_of_getElem? (i := 28) rfl))) (Or.inl (hw _ (List.mem_of_getElem? (i := 26) rfl))) (by decide) (t := .int) (t' := .long) (by decide) (by decide)))
  have f38 := f22.other W34 (Or.inr (slot_ne (Or.inl (hw _ (List.mem_of_getElem? (i := 30) rfl))) (Or.inl (hw _ (List.mem_of_getElem? (i := 26) rfl))) (by decide) (t := .long) (t' := .long) (by decide) (by decide)))
  have f39 := f23.other W34 (Or.inr (slot_ne (Or.inl (hw _ (List.mem_of_getElem? (i := 32) rfl))) (Or.inl (hw _ (List.mem_of_getElem? (i := 26) rfl))) (by decide) (t := .long) (t' := .long) (by decide) (by decide)))
  have f40 := f24.other W34 (Or.inr (slot_ne (Or.inl (hw _ (List.mem_of_getElem? (i := 34) rfl))) (Or.inl (hw _ (List.mem_of_getElem? (i := 26) rfl))) (by decide) (t := .int) (t' := .long) (by decide) (by decide)))
  have f41 := f25.wr W34
  have N34 := Fr.snoc X34 N18 g0
  have Z34 : n0 ≤ h34.size := Nat.le_trans Z18 (Keep.of_wr W34).1
  have K34 : Keep h0 h34 [a0_] := K18.wr W34 (Or.inl (List.mem_of_getElem? (i := 0) rfl))
  obtain ⟨T50, h50, X50, e50, W50, st50⟩ := putF X34 hx hZ hown (host := "") (Or.inl (hw _ (List.mem_of_getElem? (i := 27) rfl))) Via.refl e34 f37 f41 (Or.inl (hw _ (List.mem_of_getElem? (i := 28) rfl))) (hw _ (List.mem_of_getElem? (i := 8) rfl)) (ty := .int) (by decide) rfl rfl (g := (mkF m 19 #[rv a0_, iv u0, .val (.long u1), .second, .val (.long u2), .second, iv u3, .val (.long u4), .second, .val (.long u5), .second, iv u6] [(.int u3), (.ref a0_)])) rfl rfl (hb hby d5_19)
  have Fw50 := f37.same W50
  have f51 := f35.other W50 (Or.inr (slot_ne (Or.inl (hw _ (List.mem_of_getElem? (i := 22) rfl))) (Or.inl (hw _ (List.mem_of_getElem? (i := 28) rfl))) (by decide) (t := .boolean) (t' := .int) (by decide) (by decide)))
  have f52 := f36.other W50 (Or.inr (slot_ne (Or.inl (hw _ (List.mem_of_getElem? (i := 24) rfl))) (Or.inl (hw _ (List.mem_of_getElem? (i := 28) rfl))) (by decide) (t := .long) (t' := .int) (by decide) (by decide)))
  have f53 := Fw34.other W50 (Or.inr (slot_ne (Or.inl (hw _ (List.mem_of_getElem? (i := 26) rfl))) (Or.inl (hw _ (List.mem_of_getElem? (i := 28) rfl))) (by decide) (t := .long) (t' := .int) (by decide) (by decide)))
  have f54 := f38.other W50 (Or.inr (slot_ne (Or.inl (hw _ (List.mem_of_getElem? (i := 30) rfl))) (Or.inl (hw _ (List.mem_of_getElem? (i := 28) rfl))) (by decide) (t := .long) (t' := .int) (by decide) (by decide)))
  have f55 := f39.other W50 (Or.inr (slot_ne (Or.inl (hw _ (List.mem_of_getElem? (i := 32) rfl))) (Or.inl (hw _ (List.mem_of_getElem? (i := 28) rfl))) (by decide) (t := .long) (t' := .int) (by decide) (by decide)))
  have f56 := f40.other W50 (Or.inr (slot_ne (Or.inl (hw _ (List.mem_of_getElem? (i := 34) rfl))) (Or.inl (hw _ (List.mem_of_getElem? (i := 28) rfl))) (by decide) (t := .int) (t' := .int) (by decide) (by decide)))
  have f57 := f41.wr W50
  have N50 := Fr.snoc X50 N34 g0
  have Z50 : n0 ≤ h50.size := Nat.le_trans Z34 (Keep.of_wr W50).1
  have K50 : Keep h0 h50 [a0_] := K34.wr W50 (Or.inl (List.mem_of_getElem? (i := 0) rfl))
  obtain ⟨T66, h66, X66, e66, W66, st66⟩ := putF X50 hx hZ hown (host := "") (Or.inl (hw _ (List.mem_of_getElem? (i := 29) rfl))) Via.refl e50 f54 f57 (Or.inl (hw _ (List.mem_of_getElem? (i := 30) rfl))) (hw _ (List.mem_of_getElem? (i := 8) rfl)) (ty := .long) (by decide) rfl rfl (g := (mkF m 25 #[rv a0_, iv u0, .val (.long u1), .second, .val (.long u2), .second, iv u3, .val (.long u4), .second, .val (.long u5), .second, iv u6] [(.long u4), (.ref a0_)])) rfl rfl (hb hby d5_25)
  have Fw66 := f54.same W66
  have f67 := f51.other W66 (Or.inr (slot_ne (Or.inl (hw _ (List.mem_of_getElem? (i := 22) rfl))) (Or.inl (hw _ (List.mem_of_getElem? (i := 30) rfl))) (by decide) (t := .boolean) (t' := .long) (by decide) (by decide)))
  have f68 := f52.other W66 (Or.inr (slot_ne (Or.inl (hw _ (List.mem_of_getElem? (i := 24) rfl))) (Or.inl (hw _ (List.mem_of_getElem? (i := 30) rfl))) (by decide) (t := .long) (t' := .long) (by decide) (by decide)))
  have f69 := f53.other W66 (Or.inr (slot_ne (Or.inl (hw _ (List.mem_of_getElem? (i := 26) rfl))) (Or.inl (hw _ (List.mem_of_getElem? (i := 30) rfl))) (by decide) (t := .long) (t' := .long) (by decide) (by decide)))
  have f70 := Fw50.other W66 (Or.inr (slot_ne (Or.inl (hw _ (List.mem_of_getElem? (i := 28) rfl))) (Or.inl (hw _ (List.mem_of_getElem? (i := 30) rfl))) (by decide) (t := .int) (t' := .long) (by decide) (by decide)))
  have f71 := f55.other W66 (Or.inr (slot_ne (Or.inl (hw _ (List.mem_of_getElem? (i := 32) rfl))) (Or.inl (hw _ (List.mem_of_getElem? (i := 30) rfl))) (by decide) (t := .long) (t' := .long) (by decide) (by decide)))
  have f72 := f56.other W66 (Or.inr (slot_ne (Or.inl (hw _ (List.mem_of_getElem? (i := 34) rfl))) (Or.inl (hw _ (List.mem_of_getElem? (i := 30) rfl))) (by decide) (t := .int) (t' := .long) (by decide) (by decide)))
  have f73 := f57.wr W66
  have N66 := Fr.snoc X66 N50 g0
  have Z66 : n0 ≤ h66.size := Nat.le_trans Z50 (Keep.of_wr W66).1
  have K66 : Keep h0 h66 [a0_] := K50.wr W66 (Or.inl (List.mem_of_getElem? (i := 0) rfl))
  obtain ⟨T82, h82, X82, e82, W82, st82⟩ := putF X66 hx hZ hown (host := "") (Or.inl (hw _ (List.mem_of_getElem? (i := 31) rfl))) Via.refl e66 f71 f73 (Or.inl (hw _ (List.mem_of_getElem? (i := 32) rfl))) (hw _ (List.mem_of_getElem? (i := 8) rfl)) (ty := .long) (by decide) rfl rfl (g := (mkF m 31 #[rv a0_, iv u0, .val (.long u1), .second, .val (.long u2), .second, iv u3, .val (.long u4), .second, .val (.long u5), .second, iv u6] [(.long u5), (.ref a0_)])) rfl rfl (hb hby d5_31)
  have Fw82 := f71.same W82
  have f83 := f67.other W82 (Or.inr (slot_ne (Or.inl (hw _ (List.mem_of_getElem? (i := 22) rfl))) (Or.inl (hw _ (List.mem_of_getElem? (i := 32) rfl))) (by decide) (t := .boolean) (t' := .long) (by decide) (by decide)))
  have f84 := f68.other W82 (Or.inr (slot_ne (Or.inl (hw _ (List.mem_of_getElem? (i := 24) rfl))) (Or.inl (hw _ (List.mem_of_getElem? (i := 32) rfl))) (by decide) (t := .long) (t' := .long) (by decide) (by decide)))
  have f85 := f69.other W82 (Or.inr (slot_ne (Or.inl (hw _ (List.mem_of_getElem? (i := 26) rfl))) (Or.inl (hw _ (List.mem_of_getElem? (i := 32) rfl))) (by decide) (t := .long) (t' := .long) (by decide) (by decide)))
  have f86 := f70.other W82 (Or.inr (slot_ne (Or.inl (hw _ (List.mem_of_getElem? (i := 28) rfl))) (Or.inl (hw _ (List.mem_of_getElem? (i := 32) rfl))) (by decide) (t := .int) (t' := .long) (by decide) (by decide)))
  have f87 := Fw66.other W82 (Or.inr (slot_ne (Or.inl (hw _ (List.mem_of_getElem? (i := 30) rfl))) (Or.inl (hw _ (List.mem_of_getElem? (i := 32) rfl))) (by decide) (t := .long) (t' := .long) (by decide) (by decide)))
  have f88 := f72.other W82 (Or.inr (slot_ne (Or.inl (hw _ (List.mem_of_getElem? (i := 34) rfl))) (Or.inl (hw _ (List.mem_of_getElem? (i := 32) rfl))) (by decide) (t := .int) (t' := .long) (by decide) (by decide)))
  have f89 := f73.wr W82
  have N82 := Fr.snoc X82 N66 g0
  have Z82 : n0 ≤ h82.size := Nat.le_trans Z66 (Keep.of_wr W82).1
  have K82 : Keep h0 h82 [a0_] := K66.wr W82 (Or.inl (List.mem_of_getElem? (i := 0) rfl))
  obtain ⟨T98, h98, X98, e98, W98, st98⟩ := putF X82 hx hZ hown (host := "") (Or.inl (hw _ (List.mem_of_getElem? (i := 33) rfl))) Via.refl e82 f88 f89 (Or.inl (hw _ (List.mem_of_getElem? (i := 34) rfl))) (hw _ (List.mem_of_getElem? (i := 8) rfl)) (ty := .int) (by decide) rfl rfl (g := (mkF m 37 #[rv a0_, iv u0, .val (.long u1), .second, .val (.long u2), .second, iv u3, .val (.long u4), .second, .val (.long u5), .second, iv u6] [(.int u6), (.ref a0_)])) rfl rfl (hb hby d5_37)
  have Fw98 := f88.same W98
  have f99 := f83.other W98 (Or.inr (slot_ne (Or.inl (hw _ (List.mem_of_getElem? (i := 22) rfl))) (Or.inl (hw _ (List.mem_of_getElem? (i := 34) rfl))) (by decide) (t := .boolean) (t' := .int) (by decide) (by decide)))
  have f100 := f84.other W98 (Or.inr (slot_ne (Or.inl (hw _ (List.mem_of_getElem? (i := 24) rfl))) (Or.inl (hw _ (List.mem_of_getElem? (i := 34) rfl))) (by decide) (t := .long) (t' := .int) (by decide) (by decide)))
  have f101 := f85.other W98 (Or.inr (slot_ne (Or.inl (hw _ (List.mem_of_getElem? (i := 26) rfl))) (Or.inl (hw _ (List.mem_of_getElem? (i := 34) rfl))) (by decide) (t := .long) (t' := .int) (by decide) (by decide)))
  have f102 := f86.other W98 (Or.inr (slot_ne (Or.inl (hw _ (List.mem_of_getElem? (i := 28) rfl))) (Or.inl (hw _ (List.mem_of_getElem? (i := 34) rfl))) (by decide) (t := .int) (t' := .int) (by decide) (by decide)))
  have f103 := f87.other W98 (Or.inr (slot_ne (Or.inl (hw _ (List.mem_of_getElem? (i := 30) rfl))) (Or.inl (hw _ (List.mem_of_getElem? (i := 34) rfl))) (by decide) (t := .long) (t' := .int) (by decide) (by decide)))
  have f104 := Fw82.other W98 (Or.inr (slot_ne (Or.inl (hw _ (List.mem_of_getElem? (i := 32) rfl))) (Or.inl (hw _ (List.mem_of_getElem? (i := 34) rfl))) (by decide) (t := .long) (t' := .int) (by decide) (by decide)))
  have f105 := f89.wr W98
  have N98 := Fr.snoc X98 N82 g0
  have Z98 : n0 ≤ h98.size := Nat.le_trans Z82 (Keep.of_wr W98).1
  have K98 : Keep h0 h98 [a0_] := K82.wr W98 (Or.inl (List.mem_of_getElem? (i := 0) rfl))
  obtain ⟨fs, hr, hrun, hended, hW, hsame⟩ := X98.leave (v := none) (fun _ => rfl)
  refine ⟨_, _, S0 _ ?_, hrun, hended, _, _, rfl, ?_, ⟨_, rfl⟩, hW, hsame.mono (by decide) (by decide)⟩
  · skip
    show Steps p.tables e below (s₁.setTop (mkF m 0 #[rv a0_, iv u0, .val (.long u1), .second, .val (.long u2), .second, iv u3, .val (.long u4), .second, .val (.long u5), .second, iv u6] [])) _
    refine XS.aloadN X0.here hx rfl (hb hby d5_0) rfl rfl ?_
    show Steps p.tables e below (s₁.setTop (mkF m 1 #[rv a0_, iv u0, .val (.long u1), .second, .val (.long u2), .second, iv u3, .val (.long u4), .second, .val (.long u5), .second, iv u6] [(.ref a0_)])) _
    refine XS.iloadN X0.here hx rfl (hb hby d5_1) rfl ?_
    show Steps p.tables e below (s₁.setTop (mkF m 2 #[rv a0_, iv u0, .val (.long u1), .second, .val (.long u2), .second, iv u3, .val (.long u4), .second, .val (.long u5), .second, iv u6] [(.int u0), (.ref a0_)])) _
    refine st2 _ ?_
    show Steps p.tables e below (T2.setTop (mkF m 5 #[rv a0_, iv u0, .val (.long u1), .second, .val (.long u2), .second, iv u3, .val (.long u4), .second, .val (.long u5), .second, iv u6] [])) _
    refine XS.aloadN X2.here hx rfl (hb hby d5_5) rfl rfl ?_
    show Steps p.tables e below (T2.setTop (mkF m 6 #[rv a0_, iv u0, .val (.long u1), .second, .val (.long u2), .second, iv u3, .val (.long u4), .second, .val (.long u5), .second, iv u6] [(.ref a0_)])) _
    refine XS.lloadN X2.here hx rfl (hb hby d5_6) rfl ?_
    show Steps p.tables e below (T2.setTop (mkF m 7 #[rv a0_, iv u0, .val (.long u1), .second, .val (.long u2), .second, iv u3, .val (.long u4), .second, .val (.long u5), .second, iv u6] [(.long u1), (.ref a0_)])) _
    refine st18 _ ?_
    show Steps p.tables e below (T18.setTop (mkF m 10 #[rv a0_, iv u0, .val (.long u1), .second, .val (.long u2), .second, iv u3, .val (.long u4), .second, .val (.long u5), .second, iv u6] [])) _
    refine XS.aloadN X18.here hx rfl (hb hby d5_10) rfl rfl ?_
    show Steps p.tables e below (T18.setTop (mkF m 11 #[rv a0_, iv u0, .val (.long u1), .second, .val (.long u2), .second, iv u3, .val (.long u4), .second, .val (.long u5), .second, iv u6] [(.ref a0_)])) _
    refine XS.lload X18.here hx rfl (hb hby d5_11) rfl ?_
    show Steps p.tables e below (T18.setTop (mkF m 13 #[rv a0_, iv u0, .val (.long u1), .second, .val (.long u2), .second, iv u3, .val (.long u4), .second, .val (.long u5), .second, iv u6] [(.long u2), (.ref a0_)])) _
    refine st34 _ ?_
    show Steps p.tables e below (T34.setTop (mkF m 16 #[rv a0_, iv u0, .val (.long u1), .second, .val (.long u2), .second, iv u3, .val (.long u4), .second, .val (.long u5), .second, iv u6] [])) _
    refine XS.aloadN X34.here hx rfl (hb hby d5_16) rfl rfl ?_
    show Steps p.tables e below (T34.setTop (mkF m 17 #[rv a0_, iv u0, .val (.long u1), .second, .val (.long u2), .second, iv u3, .val (.long u4), .second, .val (.long u5), .second, iv u6] [(.ref a0_)])) _
    refine XS.iload X34.here hx rfl (hb hby d5_17) rfl ?_
    show Steps p.tables e below (T34.setTop (mkF m 19 #[rv a0_, iv u0, .val (.long u1), .second, .val (.long u2), .second, iv u3, .val (.long u4), .second, .val (.long u5), .second, iv u6] [(.int u3), (.ref a0_)])) _
    refine st50 _ ?_
    show Steps p.tables e below (T50.setTop (mkF m 22 #[rv a0_, iv u0, .val (.long u1), .second, .val (.long u2), .second, iv u3, .val (.long u4), .second, .val (.long u5), .second, iv u6] [])) _
    refine XS.aloadN X50.here hx rfl (hb hby d5_22) rfl rfl ?_
    show Steps p.tables e below (T50.setTop (mkF m 23 #[rv a0_, iv u0, .val (.long u1), .second, .val (.long u2), .second, iv u3, .val (.long u4), .second, .val (.long u5), .second, iv u6] [(.ref a0_)])) _
    refine XS.lload X50.here hx rfl (hb hby d5_23) rfl ?_
    show Steps p.tables e below (T50.setTop (mkF m 25 #[rv a0_, iv u0, .val (.long u1), .second, .val (.long u2), .second, iv u3, .val (.long u4), .second, .val (.long u5), .second, iv u6] [(.long u4), (.ref a0_)])) _
    refine st66 _ ?_
    show Steps p.tables e below (T66.setTop (mkF m 28 #[rv a0_, iv u0, .val (.long u1), .second, .val (.long u2), .second, iv u3, .val (.long u4), .second, .val (.long u5), .second, iv u6] [])) _
    refine XS.aloadN X66.here hx rfl (hb hby d5_28) rfl rfl ?_
    show Steps p.tables e below (T66.setTop (mkF m 29 #[rv a0_, iv u0, .val (.long u1), .second, .val (.long u2), .second, iv u3, .val (.long u4), .second, .val (.long u5), .second, iv u6] [(.ref a0_)])) _
    refine XS.lload X66.here hx rfl (hb hby d5_29) rfl ?_
    show Steps p.tables e below (T66.setTop (mkF m 31 #[rv a0_, iv u0, .val (.long u1), .second, .val (.long u2), .second, iv u3, .val (.long u4), .second, .val (.long u5), .second, iv u6] [(.long u5), (.ref a0_)])) _
    refine st82 _ ?_
    show Steps p.tables e below (T82.setTop (mkF m 34 #[rv a0_, iv u0, .val (.long u1), .second, .val (.long u2), .second, iv u3, .val (.long u4), .second, .val (.long u5), .second, iv u6] [])) _
    refine XS.aloadN X82.here hx rfl (hb hby d5_34) rfl rfl ?_
    show Steps p.tables e below (T82.setTop (mkF m 35 #[rv a0_, iv u0, .val (.long u1), .second, .val (.long u2), .second, iv u3, .val (.long u4), .second, .val (.long u5), .second, iv u6] [(.ref a0_)])) _
    refine XS.iload X82.here hx rfl (hb hby d5_35) rfl ?_
    show Steps p.tables e below (T82.setTop (mkF m 37 #[rv a0_, iv u0, .val (.long u1), .second, .val (.long u2), .second, iv u3, .val (.long u4), .second, .val (.long u5), .second, iv u6] [(.int u6), (.ref a0_)])) _
    refine st98 _ ?_
    show Steps p.tables e below (T98.setTop (mkF m 40 #[rv a0_, iv u0, .val (.long u1), .second, .val (.long u2), .second, iv u3, .val (.long u4), .second, .val (.long u5), .second, iv u6] [])) _
    exact X98.returnOut hx Bd.returns (hb hby d5_40) hr
  · show QSet Z a0_ u0 u1 u2 u3 u4 u5 u6 o0 o1 o2 o3 o4 o5 o6 h0 n0 _ T98.heap _
    rw [e98]
    exact ⟨rfl, N98, K98, ⟨f105, f99, f100, f101, f102, f103, f104, Fw98⟩⟩
def own_eqf (o0 : Int32) (o1 : Int64) (o2 : Int64) (o3 : Int32) (o4 : Int64) (o5 : Int64) (o6 : Int32) (r0 : Int32) (r1 : Int64) (r2 : Int64) (r3 : Int32) (r4 : Int64) (r5 : Int64) (r6 : Int32) : Int32 := if o0 = r0 then (if o1 = r1 then (if o2 = r2 then (if o3 = r3 then (if o4 = r4 then (if o5 = r5 then (if o6 = r6 then (1 : Int32) else (0 : Int32)) else (0 : Int32)) else (0 : Int32)) else (0 : Int32)) else (0 : Int32)) else (0 : Int32)) else (0 : Int32)
def QEq (Z : State) (a0_ : Addr) (a1_ : Addr) (o0 : Int32) (o1 : Int64) (o2 : Int64) (o3 : Int32) (o4 : Int64) (o5 : Int64) (o6 : Int32) (r0 : Int32) (r1 : Int64) (r2 : Int64) (r3 : Int32) (r4 : Int64) (r5 : Int64) (r6 : Int32) (h0 : Heap) (n0 : Nat) (v : Option Value) (h : Heap) (L : List Loc) : Prop := v = some (.int (own_eqf o0 o1 o2 o3 o4 o5 o6 r0 r1 r2 r3 r4 r5 r6)) ∧ Fr n0 L ∧ h = h0
theorem ef_rmEq (m : MethodId) (a0_ : Addr) (a1_ : Addr) : entryFrame m #[(.ref a0_), (.ref a1_)] 3 = mkF m 0 #[rv a0_, rv a1_, .unset] [] := by first | (simp [entryFrame, mkF, argsToLocals, Value.category]; done) | rfl
set_option maxRecDepth 65536 in
set_option maxHeartbeats 40000000 in
theorem rmEq (l : Launch) (Z : State) (a0 : Array Value) (hw : ∀ d ∈ tables_1, d.before a0 Z = true) (ws : List Jvm.Cond) (a0_ : Addr) (a1_ : Addr) (o0 : Int32) (o1 : Int64) (o2 : Int64) (o3 : Int32) (o4 : Int64) (o5 : Int64) (o6 : Int32) (r0 : Int32) (r1 : Int64) (r2 : Int64) (r3 : Int32) (r4 : Int64) (r5 : Int64) (r6 : Int32) (h0 : Heap) (n0 : Nat) (Z0 : n0 ≤ h0.size) (B0 : own_Fl Z h0 a0_ o0 o1 o2 o3 o4 o5 o6) (B1 : own_Fl Z h0 a1_ r0 r1 r2 r3 r4 r5 r6) :
    MetFree l (⟨"com/example/tracewell/tracewell/capture/Flow", "equals", "(Ljava/lang/Object;)Z"⟩ : MethodName) (head1 (Jvm.Cond.code (⟨"com/example/tracewell/tracewell/capture/Flow", "equals", "(Ljava/lang/Object;)Z"⟩ : MethodName) prog_11_method_6_code 3 (some .boolean) :: ws) ({ frames := 0, cells := 0, slots := 0, locals := 0 } : Room)) (fun a U => a = #[(.ref a0_), (.ref a1_)] ∧ Z.Warmed39 U.vm ∧ U.heap = h0) (fun _ _ _ _ _ => True) (fun _ U o U' => ∃ v L, o = .returned v ∧ QEq Z a0_ a1_ o0 o1 o2 o3 o4 o5 o6 r0 r1 r2 r3 r4 r5 r6 h0 n0 v U'.heap L ∧ FrameEnd U o U' L ({ frames := 0, cells := 0, slots := 0, locals := 0 } : Room).cells ({ frames := 0, cells := 0, slots := 0, locals := 0 } : Room).slots) := by
  refine MetFree.of_bodySF (plainFor_of_name pn_1) hisR ?_
  intro p e s m args below meth c s₁ Bd hml0 hP hK
  obtain ⟨rfl, hZ, hh⟩ := hP
  have hx := Bd.exec
  have hby := Bd.bytes
  have hml : c.maxLocals = 3 := hml0
  have hown : s.vm.findClass "com/example/tracewell/tracewell/capture/Flow" = some m.cls := findClass_of_methodNamed Bd.named
  have hnm := (name_of_methodNamed Bd.named Bd.method).1
  have X0 : Stand p l e ({ frames := 0, cells := 0, slots := 0, locals := 0 } : Room) s m #[(.ref a0_), (.ref a1_)] below meth c s₁ [] 0 0 := Stand.of_body Bd
  have e0 : s₁.heap = h0 := by rw [← hh, Bd.state]; rfl
  have N0 := Fr.nil n0
  have S0 : ∀ t, Steps p.tables e below (s₁.setTop (mkF m 0 #[rv a0_, rv a1_, .unset] [])) t → Steps p.tables e below (s₁.setTop (entryFrame m #[(.ref a0_), (.ref a1_)] 3)) t := fun t k => castTop (ef_rmEq m a0_ a1_) k
  obtain ⟨oe1, of1_0, of1_1, of1_2, of1_3, of1_4, of1_5, of1_6⟩ := id B0
  obtain ⟨oe2, of2_0, of2_1, of2_2, of2_3, of2_4, of2_5, of2_6⟩ := id B1
  obtain ⟨T3, X3, e3, st3⟩ := instY X0 hx hZ hown (hw _ (List.mem_of_getElem? (i := 40) rfl)) e0 (Ins.self oe2) (g := (mkF m 1 #[rv a0_, rv a1_, .unset] [(.ref a1_)])) rfl rfl (hb hby d6_1)
  obtain ⟨T4, X4, e4, st4⟩ := castY X3 hx hZ hown (hw _ (List.mem_of_getElem? (i := 40) rfl)) e3 (Ins.self oe2) (g := (mkF m 8 #[rv a0_, rv a1_, .unset] [(.ref a1_)])) rfl rfl (hb hby d6_8)
  obtain ⟨T5, X5, e5, st5⟩ := getF X4 hx hZ hown (host := "") (Or.inl (hw _ (List.mem_of_getElem? (i := 21) rfl))) Via.refl e4 of1_0 (g := (mkF m 13 #[rv a0_, rv a1_, rv a1_] [(.ref a0_)])) rfl rfl (hb hby d6_13)
  obtain ⟨T6, X6, e6, st6⟩ := getF X5 hx hZ hown (host := "") (Or.inl (hw _ (List.mem_of_getElem? (i := 21) rfl))) Via.refl e5 of2_0 (g := (mkF m 17 #[rv a0_, rv a1_, rv a1_] [(.ref a1_), (.int o0)])) rfl rfl (hb hby d6_17)
  have S7 : ∀ t, Steps p.tables e below (T6.setTop (mkF m 20 #[rv a0_, rv a1_, rv a1_] [(.int r0), (.int o0)])) t → Steps p.tables e below (s₁.setTop (entryFrame m #[(.ref a0_), (.ref a1_)] 3)) t := by
    intro t k
    refine S0 t ?_
    show Steps p.tables e below (s₁.setTop (mkF m 0 #[rv a0_, rv a1_, .unset] [])) _
    refine XS.aloadN X0.here hx rfl (hb hby d6_0) rfl rfl ?_
    show Steps p.tables e below (s₁.setTop (mkF m 1 #[rv a0_, rv a1_, .unset] [(.ref a1_)])) _
    refine st3 _ ?_
    show Steps p.tables e below (T3.setTop (mkF m 4 #[rv a0_, rv a1_, .unset] [(.int (1 : Int32))])) _
    refine XS.ifNo X3.here hx rfl (hb hby d6_4) rfl ((if0 _ _).trans (feq (by decide : ¬ ((1 : Int32) = (0 : Int32)))).1) ?_
    show Steps p.tables e below (T3.setTop (mkF m 7 #[rv a0_, rv a1_, .unset] [])) _
    refine XS.aloadN X3.here hx rfl (hb hby d6_7) rfl rfl ?_
    show Steps p.tables e below (T3.setTop (mkF m 8 #[rv a0_, rv a1_, .unset] [(.ref a1_)])) _
    refine st4 _ ?_
    show Steps p.tables e below (T4.setTop (mkF m 11 #[rv a0_, rv a1_, .unset] [(.ref a1_)])) _
    refine XS.astoreN X4.here hx rfl (hb hby d6_11) rfl rfl (l' := #[rv a0_, rv a1_, rv a1_]) rfl ?_
    show Steps p.tables e below (T4.setTop (mkF m 12 #[rv a0_, rv a1_, rv a1_] [])) _
    refine XS.aloadN X4.here hx rfl (hb hby d6_12) rfl rfl ?_
    show Steps p.tables e below (T4.setTop (mkF m 13 #[rv a0_, rv a1_, rv a1_] [(.ref a0_)])) _
    refine st5 _ ?_
    show Steps p.tables e below (T5.setTop (mkF m 16 #[rv a0_, rv a1_, rv a1_] [(.int o0)])) _
    refine XS.aloadN X5.here hx rfl (hb hby d6_16) rfl rfl ?_
    show Steps p.tables e below (T5.setTop (mkF m 17 #[rv a0_, rv a1_, rv a1_] [(.ref a1_), (.int o0)])) _
    refine st6 _ ?_
    exact k
  by_cases hc8 : o0 = r0
  · skip
    obtain ⟨T9, X9, e9, st9⟩ := getF X6 hx hZ hown (host := "") (Or.inl (hw _ (List.mem_of_getElem? (i := 23) rfl))) Via.refl e6 of1_1 (g := (mkF m 24 #[rv a0_, rv a1_, rv a1_] [(.ref a0_)])) rfl rfl (hb hby d6_24)
    obtain ⟨T10, X10, e10, st10⟩ := getF X9 hx hZ hown (host := "") (Or.inl (hw _ (List.mem_of_getElem? (i := 23) rfl))) Via.refl e9 of2_1 (g := (mkF m 28 #[rv a0_, rv a1_, rv a1_] [(.ref a1_), (.long o1)])) rfl rfl (hb hby d6_28)
    have S11 : ∀ t, Steps p.tables e below (T10.setTop (mkF m 32 #[rv a0_, rv a1_, rv a1_] [(.int (lcmpW o1 r1))])) t → Steps p.tables e below (s₁.setTop (entryFrame m #[(.ref a0_), (.ref a1_)] 3)) t := by
      intro t k
      refine S7 t ?_
      show Steps p.tables e below (T6.setTop (mkF m 20 #[rv a0_, rv a1_, rv a1_] [(.int r0), (.int o0)])) _
      refine XS.icmpNo X6.here hx rfl (hb hby d6_20) rfl (teq hc8).2 ?_
      show Steps p.tables e below (T6.setTop (mkF m 23 #[rv a0_, rv a1_, rv a1_] [])) _
      refine XS.aloadN X6.here hx rfl (hb hby d6_23) rfl rfl ?_
      show Steps p.tables e below (T6.setTop (mkF m 24 #[rv a0_, rv a1_, rv a1_] [(.ref a0_)])) _
      refine st9 _ ?_
      show Steps p.tables e below (T9.setTop (mkF m 27 #[rv a0_, rv a1_, rv a1_] [(.long o1)])) _
      refine XS.aloadN X9.here hx rfl (hb hby d6_27) rfl rfl ?_
      show Steps p.tables e below (T9.setTop (mkF m 28 #[rv a0_, rv a1_, rv a1_] [(.ref a1_), (.long o1)])) _
      refine st10 _ ?_
      show Steps p.tables e below (T10.setTop (mkF m 31 #[rv a0_, rv a1_, rv a1_] [(.long r1), (.long o1)])) _
      refine XS.lcmp X10.here hx rfl (hb hby d6_31) rfl ?_
      exact k
    by_cases hc12 : o1 = r1
    · skip
      obtain ⟨T13, X13, e13, st13⟩ := getF X10 hx hZ hown (host := "") (Or.inl (hw _ (List.mem_of_getElem? (i := 25) rfl))) Via.refl e10 of1_2 (g := (mkF m 36 #[rv a0_, rv a1_, rv a1_] [(.ref a0_)])) rfl rfl (hb hby d6_36)
      obtain ⟨T14, X14, e14, st14⟩ := getF X13 hx hZ hown (host := "") (Or.inl (hw _ (List.mem_of_getElem? (i := 25) rfl))) Via.refl e13 of2_2 (g := (mkF m 40 #[rv a0_, rv a1_, rv a1_] [(.ref a1_), (.long o2)])) rfl rfl (hb hby d6_40)
      have S15 : ∀ t, Steps p.tables e below (T14.setTop (mkF m 44 #[rv a0_, rv a1_, rv a1_] [(.int (lcmpW o2 r2))])) t → Steps p.tables e below (s₁.setTop (entryFrame m #[(.ref a0_), (.ref a1_)] 3)) t := by
        intro t k
        refine S11 t ?_
        show Steps p.tables e below (T10.setTop (mkF m 32 #[rv a0_, rv a1_, rv a1_] [(.int (lcmpW o1 r1))])) _
        refine XS.ifNo X10.here hx rfl (hb hby d6_32) rfl ((if0 _ _).trans (teq ((lw_eq _ _).mpr hc12)).2) ?_
        show Steps p.tables e below (T10.setTop (mkF m 35 #[rv a0_, rv a1_, rv a1_] [])) _
        refine XS.aloadN X10.here hx rfl (hb hby d6_35) rfl rfl ?_
        show Steps p.tables e below (T10.setTop (mkF m 36 #[rv a0_, rv a1_, rv a1_] [(.ref a0_)])) _
        refine st13 _ ?_
        show Steps p.tables e below (T13.setTop (mkF m 39 #[rv a0_, rv a1_, rv a1_] [(.long o2)])) _
        refine XS.aloadN X13.here hx rfl (hb hby d6_39) rfl rfl ?_
        show Steps p.tables e below (T13.setTop (mkF m 40 #[rv a0_, rv a1_, rv a1_] [(.ref a1_), (.long o2)])) _
        refine st14 _ ?_
        show Steps p.tables e below (T14.setTop (mkF m 43 #[rv a0_, rv a1_, rv a1_] [(.long r2), (.long o2)])) _
        refine XS.lcmp X14.here hx rfl (hb hby d6_43) rfl ?_
        exact k
      by_cases hc16 : o2 = r2
      · skip
        obtain ⟨T17, X17, e17, st17⟩ := getF X14 hx hZ hown (host := "") (Or.inl (hw _ (List.mem_of_getElem? (i := 27) rfl))) Via.refl e14 of1_3 (g := (mkF m 48 #[rv a0_, rv a1_, rv a1_] [(.ref a0_)])) rfl rfl (hb hby d6_48)
        obtain ⟨T18, X18, e18, st18⟩ := getF X17 hx hZ hown (host := "") (Or.inl (hw _ (List.mem_of_getElem? (i := 27) rfl))) Via.refl e17 of2_3 (g := (mkF m 52 #[rv a0_, rv a1_, rv a1_] [(.ref a1_), (.int o3)])) rfl rfl (hb hby d6_52)
        have S19 : ∀ t, Steps p.tables e below (T18.setTop (mkF m 55 #[rv a0_, rv a1_, rv a1_] [(.int r3), (.int o3)])) t → Steps p.tables e below (s₁.setTop (entryFrame m #[(.ref a0_), (.ref a1_)] 3)) t := by
          intro t k
          refine S15 t ?_
          show Steps p.tables e below (T14.setTop (mkF m 44 #[rv a0_, rv a1_, rv a1_] [(.int (lcmpW o2 r2))])) _
          refine XS.ifNo X14.here hx rfl (hb hby d6_44) rfl ((if0 _ _).trans (teq ((lw_eq _ _).mpr hc16)).2) ?_
          show Steps p.tables e below (T14.setTop (mkF m 47 #[rv a0_, rv a1_, rv a1_] [])) _
          refine XS.aloadN X14.here hx rfl (hb hby d6_47) rfl rfl ?_
          show Steps p.tables e below (T14.setTop (mkF m 48 #[rv a0_, rv a1_, rv a1_] [(.ref a0_)])) _
          refine st17 _ ?_
          show Steps p.tables e below (T17.setTop (mkF m 51 #[rv a0_, rv a1_, rv a1_] [(.int o3)])) _
          refine XS.aloadN X17.here hx rfl (hb hby d6_51) rfl rfl ?_
          show Steps p.tables e below (T17.setTop (mkF m 52 #[rv a0_, rv a1_, rv a1_] [(.ref a1_), (.int o3)])) _
          refine st18 _ ?_
          exact k
        by_cases hc20 : o3 = r3
        · skip
          obtain ⟨T21, X21, e21, st21⟩ := getF X18 hx hZ hown (host := "") (Or.inl (hw _ (List.mem_of_getElem? (i := 29) rfl))) Via.refl e18 of1_4 (g := (mkF m 59 #[rv a0_, rv a1_, rv a1_] [(.ref a0_)])) rfl rfl (hb hby d6_59)
          obtain ⟨T22, X22, e22, st22⟩ := getF X21 hx hZ hown (host := "") (Or.inl (hw _ (List.mem_of_getElem? (i := 29) rfl))) Via.refl e21 of2_4 (g := (mkF m 63 #[rv a0_, rv a1_, rv a1_] [(.ref a1_), (.long o4)])) rfl rfl (hb hby d6_63)
          have S23 : ∀ t, Steps p.tables e below (T22.setTop (mkF m 67 #[rv a0_, rv a1_, rv a1_] [(.int (lcmpW o4 r4))])) t → Steps p.tables e below (s₁.setTop (entryFrame m #[(.ref a0_), (.ref a1_)] 3)) t := by
            intro t k
            refine S19 t ?_
            show Steps p.tables e below (T18.setTop (mkF m 55 #[rv a0_, rv a1_, rv a1_] [(.int r3), (.int o3)])) _
            refine XS.icmpNo X18.here hx rfl (hb hby d6_55) rfl (teq hc20).2 ?_
            show Steps p.tables e below (T18.setTop (mkF m 58 #[rv a0_, rv a1_, rv a1_] [])) _
            refine XS.aloadN X18.here hx rfl (hb hby d6_58) rfl rfl ?_
            show Steps p.tables e below (T18.setTop (mkF m 59 #[rv a0_, rv a1_, rv a1_] [(.ref a0_)])) _
            refine st21 _ ?_
            show Steps p.tables e below (T21.setTop (mkF m 62 #[rv a0_, rv a1_, rv a1_] [(.long o4)])) _
            refine XS.aloadN X21.here hx rfl (hb hby d6_62) rfl rfl ?_
            show Steps p.tables e below (T21.setTop (mkF m 63 #[rv a0_, rv a1_, rv a1_] [(.ref a1_), (.long o4)])) _
            refine st22 _ ?_
            show Steps p.tables e below (T22.setTop (mkF m 66 #[rv a0_, rv a1_, rv a1_] [(.long r4), (.long o4)])) _
            refine XS.lcmp X22.here hx rfl (hb hby d6_66) rfl ?_
            exact k
          by_cases hc24 : o4 = r4
          · skip
            obtain ⟨T25, X25, e25, st25⟩ := getF X22 hx hZ hown (host := "") (Or.inl (hw _ (List.mem_of_getElem? (i := 31) rfl))) Via.refl e22 of1_5 (g := (mkF m 71 #[rv a0_, rv a1_, rv a1_] [(.ref a0_)])) rfl rfl (hb hby d6_71)
            obtain ⟨T26, X26, e26, st26⟩ := getF X25 hx hZ hown (host := "") (Or.inl (hw _ (List.mem_of_getElem? (i := 31) rfl))) Via.refl e25 of2_5 (g := (mkF m 75 #[rv a0_, rv a1_, rv a1_] [(.ref a1_), (.long o5)])) rfl rfl (hb hby d6_75)
            have S27 : ∀ t, Steps p.tables e below (T26.setTop (mkF m 79 #[rv a0_, rv a1_, rv a1_] [(.int (lcmpW o5 r5))])) t → Steps p.tables e below (s₁.setTop (entryFrame m #[(.ref a0_), (.ref a1_)] 3)) t := by
              intro t k
              refine S23 t ?_
              show Steps p.tables e below (T22.setTop (mkF m 67 #[rv a0_, rv a1_, rv a1_] [(.int (lcmpW o4 r4))])) _
              refine XS.ifNo X22.here hx rfl (hb hby d6_67) rfl ((if0 _ _).trans (teq ((lw_eq _ _).mpr hc24)).2) ?_
              show Steps p.tables e below (T22.setTop (mkF m 70 #[rv a0_, rv a1_, rv a1_] [])) _
              refine XS.aloadN X22.here hx rfl (hb hby d6_70) rfl rfl ?_
              show Steps p.tables e below (T22.setTop (mkF m 71 #[rv a0_, rv a1_, rv a1_] [(.ref a0_)])) _
              refine st25 _ ?_
              show Steps p.tables e below (T25.setTop (mkF m 74 #[rv a0_, rv a1_, rv a1_] [(.long o5)])) _
              refine XS.aloadN X25.here hx rfl (hb hby d6_74) rfl rfl ?_
              show Steps p.tables e below (T25.setTop (mkF m 75 #[rv a0_, rv a1_, rv a1_] [(.ref a1_), (.long o5)])) _
              refine st26 _ ?_
              show Steps p.tables e below (T26.setTop (mkF m 78 #[rv a0_, rv a1_, rv a1_] [(.long r5), (.long o5)])) _
              refine XS.lcmp X26.here hx rfl (hb hby d6_78) rfl ?_
              exact k
            by_cases hc28 : o5 = r5
            · skip
              obtain ⟨T29, X29, e29, st29⟩ := getF X26 hx hZ hown (host := "") (Or.inl (hw _ (List.mem_of_getElem? (i := 33) rfl))) Via.refl e26 of1_6 (g := (mkF m 83 #[rv a0_, rv a1_, rv a1_] [(.ref a0_)])) rfl rfl (hb hby d6_83)
              obtain ⟨T30, X30, e30, st30⟩ := getF X29 hx hZ hown (host := "") (Or.inl (hw _ (List.mem_of_getElem? (i := 33) rfl))) Via.refl e29 of2_6 (g := (mkF m 87 #[rv a0_, rv a1_, rv a1_] [(.ref a1_), (.int o6)])) rfl rfl (hb hby d6_87)
              have S31 : ∀ t, Steps p.tables e below (T30.setTop (mkF m 90 #[rv a0_, rv a1_, rv a1_] [(.int r6), (.int o6)])) t → Steps p.tables e below (s₁.setTop (entryFrame m #[(.ref a0_), (.ref a1_)] 3)) t := by
                intro t k
                refine S27 t ?_
                show Steps p.tables e below (T26.setTop (mkF m 79 #[rv a0_, rv a1_, rv a1_] [(.int (lcmpW o5 r5))])) _
                refine XS.ifNo X26.here hx rfl (hb hby d6_79) rfl ((if0 _ _).trans (teq ((lw_eq _ _).mpr hc28)).2) ?_
                show Steps p.tables e below (T26.setTop (mkF m 82 #[rv a0_, rv a1_, rv a1_] [])) _
                refine XS.aloadN X26.here hx rfl (hb hby d6_82) rfl rfl ?_
                show Steps p.tables e below (T26.setTop (mkF m 83 #[rv a0_, rv a1_, rv a1_] [(.ref a0_)])) _
                refine st29 _ ?_
                show Steps p.tables e below (T29.setTop (mkF m 86 #[rv a0_, rv a1_, rv a1_] [(.int o6)])) _
                refine XS.aloadN X29.here hx rfl (hb hby d6_86) rfl rfl ?_
                show Steps p.tables e below (T29.setTop (mkF m 87 #[rv a0_, rv a1_, rv a1_] [(.ref a1_), (.int o6)])) _
                refine st30 _ ?_
                exact k
              by_cases hc32 : o6 = r6
              · skip
                obtain ⟨fs, hr, hrun, hended, hW, hsame⟩ := X30.leave (v := some (.int (1 : Int32))) (fun h => by rw [Bd.returns] at h; cases h)
                refine ⟨_, _, S31 _ ?_, hrun, hended, _, _, rfl, ?_, ⟨_, rfl⟩, hW, hsame.mono (by decide) (by decide)⟩
                · skip
                  show Steps p.tables e below (T30.setTop (mkF m 90 #[rv a0_, rv a1_, rv a1_] [(.int r6), (.int o6)])) _
                  refine XS.icmpNo X30.here hx rfl (hb hby d6_90) rfl (teq hc32).2 ?_
                  show Steps p.tables e below (T30.setTop (mkF m 93 #[rv a0_, rv a1_, rv a1_] [])) _
                  refine XS.iconst X30.here hx rfl (hb hby d6_93) ?_
                  show Steps p.tables e below (T30.setTop (mkF m 94 #[rv a0_, rv a1_, rv a1_] [(.int (1 : Int32))])) _
                  refine XS.goto X30.here hx rfl (pc0 := 94) (pc' := 98) rfl (hb hby d6_94) (by decide) (by decide) ?_
                  show Steps p.tables e below (T30.setTop (mkF m 98 #[rv a0_, rv a1_, rv a1_] [(.int (1 : Int32))])) _
                  exact retN X30 hx (t := .boolean) Bd.returns (by simp) (hb hby d6_98) hr
                · show QEq Z a0_ a1_ o0 o1 o2 o3 o4 o5 o6 r0 r1 r2 r3 r4 r5 r6 h0 n0 _ T30.heap _
                  rw [e30]
                  exact ⟨(by unfold own_eqf; rw [if_pos hc8, if_pos hc12, if_pos hc16, if_pos hc20, if_pos hc24, if_pos hc28, if_pos hc32]), N0, rfl⟩
              · skip
                obtain ⟨fs, hr, hrun, hended, hW, hsame⟩ := X30.leave (v := some (.int (0 : Int32))) (fun h => by rw [Bd.returns] at h; cases h)
                refine ⟨_, _, S31 _ ?_, hrun, hended, _, _, rfl, ?_, ⟨_, rfl⟩, hW, hsame.mono (by decide) (by decide)⟩
                · skip
                  show Steps p.tables e below (T30.setTop (mkF m 90 #[rv a0_, rv a1_, rv a1_] [(.int r6), (.int o6)])) _
                  refine XS.icmpYes X30.here hx rfl (pc0 := 90) (pc' := 97) rfl (hb hby d6_90) rfl (feq hc32).2 (by decide) (by decide) ?_
                  show Steps p.tables e below (T30.setTop (mkF m 97 #[rv a0_, rv a1_, rv a1_] [])) _
                  refine XS.iconst X30.here hx rfl (hb hby d6_97) ?_
                  show Steps p.tables e below (T30.setTop (mkF m 98 #[rv a0_, rv a1_, rv a1_] [(.int (0 : Int32))])) _
                  exact retN X30 hx (t := .boolean) Bd.returns (by simp) (hb hby d6_98) hr
                · show QEq Z a0_ a1_ o0 o1 o2 o3 o4 o5 o6 r0 r1 r2 r3 r4 r5 r6 h0 n0 _ T30.heap _
                  rw [e30]
                  exact ⟨(by unfold own_eqf; rw [if_pos hc8, if_pos hc12, if_pos hc16, if_pos hc20, if_pos hc24, if_pos hc28, if_neg hc32]), N0, rfl⟩
            · skip
              obtain ⟨fs, hr, hrun, hended, hW, hsame⟩ := X26.leave (v := some (.int (0 : Int32))) (fun h => by rw [Bd.returns] at h; cases h)
              refine ⟨_, _, S27 _ ?_, hrun, hended, _, _, rfl, ?_, ⟨_, rfl⟩, hW, hsame.mono (by decide) (by decide)⟩
              · skip
                show Steps p.tables e below (T26.setTop (mkF m 79 #[rv a0_, rv a1_, rv a1_] [(.int (lcmpW o5 r5))])) _
                refine XS.ifYes X26.here hx rfl (pc0 := 79) (pc' := 97) rfl (hb hby d6_79) rfl ((if0 _ _).trans (feq (fun z => hc28 ((lw_eq _ _).mp z))).2) (by decide) (by decide) ?_
                show Steps p.tables e below (T26.setTop (mkF m 97 #[rv a0_, rv a1_, rv a1_] [])) _
                refine XS.iconst X26.here hx rfl (hb hby d6_97) ?_
                show Steps p.tables e below (T26.setTop (mkF m 98 #[rv a0_, rv a1_, rv a1_] [(.int (0 : Int32))])) _
                exact retN X26 hx (t := .boolean) Bd.returns (by simp) (hb hby d6_98) hr
              · show QEq Z a0_ a1_ o0 o1 o2 o3 o4 o5 o6 r0 r1 r2 r3 r4 r5 r6 h0 n0 _ T26.heap _
                rw [e26]
                exact ⟨(by unfold own_eqf; rw [if_pos hc8, if_pos hc12, if_pos hc16, if_pos hc20, if_pos hc24, if_neg hc28]), N0, rfl⟩
          · skip
            obtain ⟨fs, hr, hrun, hended, hW, hsame⟩ := X22.leave (v := some (.int (0 : Int32))) (fun h => by rw [Bd.returns] at h; cases h)
            refine ⟨_, _, S23 _ ?_, hrun, hended, _, _, rfl, ?_, ⟨_, rfl⟩, hW, hsame.mono (by decide) (by decide)⟩
            · skip
              show Steps p.tables e below (T22.setTop (mkF m 67 #[rv a0_, rv a1_, rv a1_] [(.int (lcmpW o4 r4))])) _
              refine XS.ifYes X22.here hx rfl (pc0 := 67) (pc' := 97) rfl (hb hby d6_67) rfl ((if0 _ _).trans (feq (fun z => hc24 ((lw_eq _ _).mp z))).2) (by decide) (by decide) ?_
              show Steps p.tables e below (T22.setTop (mkF m 97 #[rv a0_, rv a1_, rv a1_] [])) _
              refine XS.iconst X22.here hx rfl (hb hby d6_97) ?_
              show Steps p.tables e below (T22.setTop (mkF m 98 #[rv a0_, rv a1_, rv a1_] [(.int (0 : Int32))])) _
              exact retN X22 hx (t := .boolean) Bd.returns (by simp) (hb hby d6_98) hr
            · show QEq Z a0_ a1_ o0 o1 o2 o3 o4 o5 o6 r0 r1 r2 r3 r4 r5 r6 h0 n0 _ T22.heap _
              rw [e22]
              exact ⟨(by unfold own_eqf; rw [if_pos hc8, if_pos hc12, if_pos hc16, if_pos hc20, if_neg hc24]), N0, rfl⟩
        · skip
          obtain ⟨fs, hr, hrun, hended, hW, hsame⟩ := X18.leave (v := some (.int (0 : Int32))) (fun h => by rw [Bd.returns] at h; cases h)
          refine ⟨_, _, S19 _ ?_, hrun, hended, _, _, rfl, ?_, ⟨_, rfl⟩, hW, hsame.mono (by decide) (by decide)⟩
          · skip
            show Steps p.tables e below (T18.setTop (mkF m 55 #[rv a0_, rv a1_, rv a1_] [(.int r3), (.int o3)])) _
            refine XS.icmpYes X18.here hx rfl (pc0 := 55) (pc' := 97) rfl (hb hby d6_55) rfl (feq hc20).2 (by decide) (by decide) ?_
            show Steps p.tables e below (T18.setTop (mkF m 97 #[rv a0_, rv a1_, rv a1_] [])) _
            refine XS.iconst X18.here hx rfl (hb hby d6_97) ?_
            show Steps p.tables e below (T18.setTop (mkF m 98 #[rv a0_, rv a1_, rv a1_] [(.int (0 : Int32))])) _
            exact retN X18 hx (t := .boolean) Bd.returns (by simp) (hb hby d6_98) hr
          · show QEq Z a0_ a1_ o0 o1 o2 o3 o4 o5 o6 r0 r1 r2 r3 r4 r5 r6 h0 n0 _ T18.heap _
            rw [e18]
            exact ⟨(by unfold own_eqf; rw [if_pos hc8, if_pos hc12, if_pos hc16, if_neg hc20]), N0, rfl⟩
      · skip
        obtain ⟨fs, hr, hrun, hended, hW, hsame⟩ := X14.leave (v := some (.int (0 : Int32))) (fun h => by rw [Bd.returns] at h; cases h)
        refine ⟨_, _, S15 _ ?_, hrun, hended, _, _, rfl, ?_, ⟨_, rfl⟩, hW, hsame.mono (by decide) (by decide)⟩
        · skip
          show Steps p.tables e below (T14.setTop (mkF m 44 #[rv a0_, rv a1_, rv a1_] [(.int (lcmpW o2 r2))])) _
          refine XS.ifYes X14.here hx rfl (pc0 := 44) (pc' := 97) rfl (hb hby d6_44) rfl ((if0 _ _).trans (feq (fun z => hc16 ((lw_eq _ _).mp z))).2) (by decide) (by decide) ?_
          show Steps p.tables e below (T14.setTop (mkF m 97 #[rv a0_, rv a1_, rv a1_] [])) _
          refine XS.iconst X14.here hx rfl (hb hby d6_97) ?_
          show Steps p.tables e below (T14.setTop (mkF m 98 #[rv a0_, rv a1_, rv a1_] [(.int (0 : Int32))])) _
          exact retN X14 hx (t := .boolean) Bd.returns (by simp) (hb hby d6_98) hr
        · show QEq Z a0_ a1_ o0 o1 o2 o3 o4 o5 o6 r0 r1 r2 r3 r4 r5 r6 h0 n0 _ T14.heap _
          rw [e14]
          exact ⟨(by unfold own_eqf; rw [if_pos hc8, if_pos hc12, if_neg hc16]), N0, rfl⟩
    · skip
      obtain ⟨fs, hr, hrun, hended, hW, hsame⟩ := X10.leave (v := some (.int (0 : Int32))) (fun h => by rw [Bd.returns] at h; cases h)
      refine ⟨_, _, S11 _ ?_, hrun, hended, _, _, rfl, ?_, ⟨_, rfl⟩, hW, hsame.mono (by decide) (by decide)⟩
      · skip
        show Steps p.tables e below (T10.setTop (mkF m 32 #[rv a0_, rv a1_, rv a1_] [(.int (lcmpW o1 r1))])) _
        refine XS.ifYes X10.here hx rfl (pc0 := 32) (pc' := 97) rfl (hb hby d6_32) rfl ((if0 _ _).trans (feq (fun z => hc12 ((lw_eq _ _).mp z))).2) (by decide) (by decide) ?_
        show Steps p.tables e below (T10.setTop (mkF m 97 #[rv a0_, rv a1_, rv a1_] [])) _
        refine XS.iconst X10.here hx rfl (hb hby d6_97) ?_
        show Steps p.tables e below (T10.setTop (mkF m 98 #[rv a0_, rv a1_, rv a1_] [(.int (0 : Int32))])) _
        exact retN X10 hx (t := .boolean) Bd.returns (by simp) (hb hby d6_98) hr
      · show QEq Z a0_ a1_ o0 o1 o2 o3 o4 o5 o6 r0 r1 r2 r3 r4 r5 r6 h0 n0 _ T10.heap _
        rw [e10]
        exact ⟨(by unfold own_eqf; rw [if_pos hc8, if_neg hc12]), N0, rfl⟩
  · skip
    obtain ⟨fs, hr, hrun, hended, hW, hsame⟩ := X6.leave (v := some (.int (0 : Int32))) (fun h => by rw [Bd.returns] at h; cases h)
    refine ⟨_, _, S7 _ ?_, hrun, hended, _, _, rfl, ?_, ⟨_, rfl⟩, hW, hsame.mono (by decide) (by decide)⟩
    · skip
      show Steps p.tables e below (T6.setTop (mkF m 20 #[rv a0_, rv a1_, rv a1_] [(.int r0), (.int o0)])) _
      refine XS.icmpYes X6.here hx rfl (pc0 := 20) (pc' := 97) rfl (hb hby d6_20) rfl (feq hc8).2 (by decide) (by decide) ?_
      show Steps p.tables e below (T6.setTop (mkF m 97 #[rv a0_, rv a1_, rv a1_] [])) _
      refine XS.iconst X6.here hx rfl (hb hby d6_97) ?_
      show Steps p.tables e below (T6.setTop (mkF m 98 #[rv a0_, rv a1_, rv a1_] [(.int (0 : Int32))])) _
      exact retN X6 hx (t := .boolean) Bd.returns (by simp) (hb hby d6_98) hr
    · show QEq Z a0_ a1_ o0 o1 o2 o3 o4 o5 o6 r0 r1 r2 r3 r4 r5 r6 h0 n0 _ T6.heap _
      rw [e6]
      exact ⟨(by unfold own_eqf; rw [if_neg hc8]), N0, rfl⟩
def QEqN (Z : State) (a0_ : Addr)  (h0 : Heap) (n0 : Nat) (v : Option Value) (h : Heap) (L : List Loc) : Prop := v = some (.int (0 : Int32)) ∧ Fr n0 L ∧ h = h0
theorem ef_rmEqN (m : MethodId) (a0_ : Addr) : entryFrame m #[(.ref a0_), .null] 3 = mkF m 0 #[rv a0_, .val .null, .unset] [] := by first | (simp [entryFrame, mkF, argsToLocals, Value.category]; done) | rfl
set_option maxRecDepth 65536 in
set_option maxHeartbeats 40000000 in
theorem rmEqN (l : Launch) (Z : State) (a0 : Array Value) (hw : ∀ d ∈ tables_1, d.before a0 Z = true) (ws : List Jvm.Cond) (a0_ : Addr)  (h0 : Heap) (n0 : Nat) (Z0 : n0 ≤ h0.size) :
    MetFree l (⟨"com/example/tracewell/tracewell/capture/Flow", "equals", "(Ljava/lang/Object;)Z"⟩ : MethodName) (head1 (Jvm.Cond.code (⟨"com/example/tracewell/tracewell/capture/Flow", "equals", "(Ljava/lang/Object;)Z"⟩ : MethodName) prog_11_method_6_code 3 (some .boolean) :: ws) ({ frames := 0, cells := 0, slots := 0, locals := 0 } : Room)) (fun a U => a = #[(.ref a0_), .null] ∧ Z.Warmed39 U.vm ∧ U.heap = h0) (fun _ _ _ _ _ => True) (fun _ U o U' => ∃ v L, o = .returned v ∧ QEqN Z a0_ h0 n0 v U'.heap L ∧ FrameEnd U o U' L ({ frames := 0, cells := 0, slots := 0, locals := 0 } : Room).cells ({ frames := 0, cells := 0, slots := 0, locals := 0 } : Room).slots) := by
  refine MetFree.of_bodySF (plainFor_of_name pn_1) hisR ?_
  intro p e s m args below meth c s₁ Bd hml0 hP hK
  obtain ⟨rfl, hZ, hh⟩ := hP
  have hx := Bd.exec
  have hby := Bd.bytes
  have hml : c.maxLocals = 3 := hml0
  have hown : s.vm.findClass "com/example/tracewell/tracewell/capture/Flow" = some m.cls := findClass_of_methodNamed Bd.named
  have hnm := (name_of_methodNamed Bd.named Bd.method).1
  have X0 : Stand p l e ({ frames := 0, cells := 0, slots := 0, locals := 0 } : Room) s m #[(.ref a0_), .null] below meth c s₁ [] 0 0 := Stand.of_body Bd
  have e0 : s₁.heap = h0 := by rw [← hh, Bd.state]; rfl
  have N0 := Fr.nil n0
  have S0 : ∀ t, Steps p.tables e below (s₁.setTop (mkF m 0 #[rv a0_, .val .null, .unset] [])) t → Steps p.tables e below (s₁.setTop (entryFrame m #[(.ref a0_), .null] 3)) t := fun t k => castTop (ef_rmEqN m a0_) k
  obtain ⟨fs, hr, hrun, hended, hW, hsame⟩ := X0.leave (v := some (.int (0 : Int32))) (fun h => by rw [Bd.returns] at h; cases h)
  refine ⟨_, _, S0 _ ?_, hrun, hended, _, _, rfl, ?_, ⟨_, rfl⟩, hW, hsame.mono (by decide) (by decide)⟩
  · skip
    show Steps p.tables e below (s₁.setTop (mkF m 0 #[rv a0_, .val .null, .unset] [])) _
    refine XS.aloadN X0.here hx rfl (hb hby d6_0) rfl rfl ?_
    show Steps p.tables e below (s₁.setTop (mkF m 1 #[rv a0_, .val .null, .unset] [.null])) _
    refine X0.instanceofNull hx (g := (mkF m 1 #[rv a0_, .val .null, .unset] [.null])) rfl rfl (hb hby d6_1) _ ?_
    show Steps p.tables e below (s₁.setTop (mkF m 4 #[rv a0_, .val .null, .unset] [(.int (0 : Int32))])) _
    refine XS.ifYes X0.here hx rfl (pc0 := 4) (pc' := 97) rfl (hb hby d6_4) rfl ((if0 _ _).trans (teq (by decide : (0 : Int32) = (0 : Int32))).1) (by decide) (by decide) ?_
    show Steps p.tables e below (s₁.setTop (mkF m 97 #[rv a0_, .val .null, .unset] [])) _
    refine XS.iconst X0.here hx rfl (hb hby d6_97) ?_
    show Steps p.tables e below (s₁.setTop (mkF m 98 #[rv a0_, .val .null, .unset] [(.int (0 : Int32))])) _
    exact retN X0 hx (t := .boolean) Bd.returns (by simp) (hb hby d6_98) hr
  · show QEqN Z a0_ h0 n0 _ s₁.heap _
    rw [e0]
    exact ⟨rfl, N0, rfl⟩
def QEqL (Z : State) (a0_ : Addr) (a1_ : Addr)  (h0 : Heap) (n0 : Nat) (v : Option Value) (h : Heap) (L : List Loc) : Prop := v = some (.int (0 : Int32)) ∧ Fr n0 L ∧ h = h0
theorem ef_rmEqL (m : MethodId) (a0_ : Addr) (a1_ : Addr) : entryFrame m #[(.ref a0_), (.ref a1_)] 3 = mkF m 0 #[rv a0_, rv a1_, .unset] [] := by first | (simp [entryFrame, mkF, argsToLocals, Value.category]; done) | rfl
set_option maxRecDepth 65536 in
set_option maxHeartbeats 40000000 in
theorem rmEqL (l : Launch) (Z : State) (a0 : Array Value) (hw : ∀ d ∈ tables_1, d.before a0 Z = true) (ws : List Jvm.Cond) (a0_ : Addr) (a1_ : Addr)  (h0 : Heap) (n0 : Nat) (Z0 : n0 ≤ h0.size) (E1 : Exa Z h0 a1_ "java/lang/Long") :
    MetFree l (⟨"com/example/tracewell/tracewell/capture/Flow", "equals", "(Ljava/lang/Object;)Z"⟩ : MethodName) (head1 (Jvm.Cond.code (⟨"com/example/tracewell/tracewell/capture/Flow", "equals", "(Ljava/lang/Object;)Z"⟩ : MethodName) prog_11_method_6_code 3 (some .boolean) :: ws) ({ frames := 0, cells := 0, slots := 0, locals := 0 } : Room)) (fun a U => a = #[(.ref a0_), (.ref a1_)] ∧ Z.Warmed39 U.vm ∧ U.heap = h0) (fun _ _ _ _ _ => True) (fun _ U o U' => ∃ v L, o = .returned v ∧ QEqL Z a0_ a1_ h0 n0 v U'.heap L ∧ FrameEnd U o U' L ({ frames := 0, cells := 0, slots := 0, locals := 0 } : Room).cells ({ frames := 0, cells := 0, slots := 0, locals := 0 } : Room).slots) := by
  refine MetFree.of_bodySF (plainFor_of_name pn_1) hisR ?_
  intro p e s m args below meth c s₁ Bd hml0 hP hK
  obtain ⟨rfl, hZ, hh⟩ := hP
  have hx := Bd.exec
  have hby := Bd.bytes
  have hml : c.maxLocals = 3 := hml0
  have hown : s.vm.findClass "com/example/tracewell/tracewell/capture/Flow" = some m.cls := findClass_of_methodNamed Bd.named
  have hnm := (name_of_methodNamed Bd.named Bd.method).1
  have X0 : Stand p l e ({ frames := 0, cells := 0, slots := 0, locals := 0 } : Room) s m #[(.ref a0_), (.ref a1_)] below meth c s₁ [] 0 0 := Stand.of_body Bd
  have e0 : s₁.heap = h0 := by rw [← hh, Bd.state]; rfl
  have N0 := Fr.nil n0
  have S0 : ∀ t, Steps p.tables e below (s₁.setTop (mkF m 0 #[rv a0_, rv a1_, .unset] [])) t → Steps p.tables e below (s₁.setTop (entryFrame m #[(.ref a0_), (.ref a1_)] 3)) t := fun t k => castTop (ef_rmEqL m a0_ a1_) k
  have hno := own_NSno (hw _ (List.mem_of_getElem? (i := 63) rfl)) (hw _ (List.mem_of_getElem? (i := 8) rfl)) (NS.step (hw _ (List.mem_of_getElem? (i := 63) rfl)) (NS.step (hw _ (List.mem_of_getElem? (i := 64) rfl)) (own_NSroot (hw _ (List.mem_of_getElem? (i := 65) rfl)) (hw _ (List.mem_of_getElem? (i := 8) rfl)) (by decide)) (by decide)) (by decide)) (by decide)
  obtain ⟨T1, X1, e1, st1⟩ := instNo X0 hx hZ hown (hw _ (List.mem_of_getElem? (i := 40) rfl)) e0 E1 hno (g := (mkF m 1 #[rv a0_, rv a1_, .unset] [(.ref a1_)])) rfl rfl (hb hby d6_1)
  obtain ⟨fs, hr, hrun, hended, hW, hsame⟩ := X1.leave (v := some (.int (0 : Int32))) (fun h => by rw [Bd.returns] at h; cases h)
  refine ⟨_, _, S0 _ ?_, hrun, hended, _, _, rfl, ?_, ⟨_, rfl⟩, hW, hsame.mono (by decide) (by decide)⟩
  · skip
    show Steps p.tables e below (s₁.setTop (mkF m 0 #[rv a0_, rv a1_, .unset] [])) _
    refine XS.aloadN X0.here hx rfl (hb hby d6_0) rfl rfl ?_
    show Steps p.tables e below (s₁.setTop (mkF m 1 #[rv a0_, rv a1_, .unset] [(.ref a1_)])) _
    refine st1 _ ?_
    show Steps p.tables e below (T1.setTop (mkF m 4 #[rv a0_, rv a1_, .unset] [(.int (0 : Int32))])) _
    refine XS.ifYes X1.here hx rfl (pc0 := 4) (pc' := 97) rfl (hb hby d6_4) rfl ((if0 _ _).trans (teq (by decide : (0 : Int32) = (0 : Int32))).1) (by decide) (by decide) ?_
    show Steps p.tables e below (T1.setTop (mkF m 97 #[rv a0_, rv a1_, .unset] [])) _
    refine XS.iconst X1.here hx rfl (hb hby d6_97) ?_
    show Steps p.tables e below (T1.setTop (mkF m 98 #[rv a0_, rv a1_, .unset] [(.int (0 : Int32))])) _
    exact retN X1 hx (t := .boolean) Bd.returns (by simp) (hb hby d6_98) hr
  · show QEqL Z a0_ a1_ h0 n0 _ T1.heap _
    rw [e1]
    exact ⟨rfl, N0, rfl⟩
theorem d9_0 : decode jdk_18_method_1_code 0 = .ok (.aload_n 0, 1) := by decide +kernel
theorem d9_1 : decode jdk_18_method_1_code 1 = .ok (.invokespecial 1, 3) := by decide +kernel
theorem d9_4 : decode jdk_18_method_1_code 4 = .ok (.return_, 1) := by decide +kernel
theorem pn_2 : plainName "java/lang/Number" = true := by first | (simp [plainName, overriddenIn]; done) | decide +kernel
def QNI (Z : State) (a0_ : Addr)  (h0 : Heap) (n0 : Nat) (v : Option Value) (h : Heap) (L : List Loc) : Prop := v = none ∧ Fr n0 L ∧ h = h0
theorem ef_rmNI (m : MethodId) (a0_ : Addr) : entryFrame m #[(.ref a0_)] 1 = mkF m 0 #[rv a0_] [] := by first | (simp [entryFrame, mkF, argsToLocals, Value.category]; done) | rfl
set_option maxRecDepth 65536 in
set_option maxHeartbeats 40000000 in
theorem rmNI (l : Launch) (Z : State) (a0 : Array Value) (hw : ∀ d ∈ tables_1, d.before a0 Z = true) (ws : List Jvm.Cond) (a0_ : Addr)  (h0 : Heap) (n0 : Nat) (Z0 : n0 ≤ h0.size) :
    MetFree l (⟨"java/lang/Number", "<init>", "()V"⟩ : MethodName) (head1 (Jvm.Cond.code (⟨"java/lang/Number", "<init>", "()V"⟩ : MethodName) jdk_18_method_1_code 1 none :: ws) ({ frames := 1, cells := 0, slots := 0, locals := 12 } : Room)) (fun a U => a = #[(.ref a0_)] ∧ Z.Warmed39 U.vm ∧ U.heap = h0) (fun _ _ _ _ _ => True) (fun _ U o U' => ∃ v L, o = .returned v ∧ QNI Z a0_ h0 n0 v U'.heap L ∧ FrameEnd U o U' L ({ frames := 1, cells := 0, slots := 0, locals := 12 } : Room).cells ({ frames := 1, cells := 0, slots := 0, locals := 12 } : Room).slots) := by
  refine MetFree.of_bodySF (plainFor_of_name pn_2) hisR ?_
  intro p e s m args below meth c s₁ Bd hml0 hP hK
  obtain ⟨rfl, hZ, hh⟩ := hP
  have hx := Bd.exec
  have hby := Bd.bytes
  have hml : c.maxLocals = 1 := hml0
  have hown : s.vm.findClass "java/lang/Number" = some m.cls := findClass_of_methodNamed Bd.named
  have hnm := (name_of_methodNamed Bd.named Bd.method).1
  have X0 : Stand p l e ({ frames := 1, cells := 0, slots := 0, locals := 12 } : Room) s m #[(.ref a0_)] below meth c s₁ [] 0 0 := Stand.of_body Bd
  have e0 : s₁.heap = h0 := by rw [← hh, Bd.state]; rfl
  have N0 := Fr.nil n0
  have S0 : ∀ t, Steps p.tables e below (s₁.setTop (mkF m 0 #[rv a0_] [])) t → Steps p.tables e below (s₁.setTop (entryFrame m #[(.ref a0_)] 1)) t := fun t k => castTop (ef_rmNI m a0_) k
  obtain ⟨T1, X1, e1, st1⟩ := initO X0 hx hZ hown (hw _ (List.mem_of_getElem? (i := 60) rfl)) (hw _ (List.mem_of_getElem? (i := 14) rfl)) (hw _ (List.mem_of_getElem? (i := 15) rfl)) e0 (g := (mkF m 1 #[rv a0_] [(.ref a0_)])) rfl (by rw [hml]; rfl) rfl (hb hby d9_1) (by decide) (W := 0) (by show 2 * 0 + _ ≤ _; exact Nat.le_of_eq rfl) (by decide)
  obtain ⟨fs, hr, hrun, hended, hW, hsame⟩ := X1.leave (v := none) (fun _ => rfl)
  refine ⟨_, _, S0 _ ?_, hrun, hended, _, _, rfl, ?_, ⟨_, rfl⟩, hW, hsame.mono (by decide) (by decide)⟩
  · skip
    show Steps p.tables e below (s₁.setTop (mkF m 0 #[rv a0_] [])) _
    refine XS.aloadN X0.here hx rfl (hb hby d9_0) rfl rfl ?_
    show Steps p.tables e below (s₁.setTop (mkF m 1 #[rv a0_] [(.ref a0_)])) _
    refine st1 _ ?_
    show Steps p.tables e below (T1.setTop (mkF m 4 #[rv a0_] [])) _
    exact X1.returnOut hx Bd.returns (hb hby d9_4) hr
  · show QNI Z a0_ h0 n0 _ T1.heap _
    rw [e1]
    exact ⟨rfl, N0, rfl⟩
theorem d8_0 : decode jdk_35_method_26_code 0 = .ok (.aload_n 0, 1) := by decide +kernel
theorem d8_1 : decode jdk_35_method_26_code 1 = .ok (.invokespecial 270, 3) := by decide +kernel
theorem pd_0 : parseMethodDescriptor "()V" = some ⟨[], none⟩ := by decide +kernel
theorem d8_4 : decode jdk_35_method_26_code 4 = .ok (.aload_n 0, 1) := by decide +kernel
theorem d8_5 : decode jdk_35_method_26_code 5 = .ok (.lload_n 1, 1) := by decide +kernel
theorem d8_6 : decode jdk_35_method_26_code 6 = .ok (.putfield 273, 3) := by decide +kernel
theorem d8_9 : decode jdk_35_method_26_code 9 = .ok (.return_, 1) := by decide +kernel
theorem pn_3 : plainName "java/lang/Long" = true := by first | (simp [plainName, overriddenIn]; done) | decide +kernel
def QLI (Z : State) (a0_ : Addr) (u1 : Int64)  (h0 : Heap) (n0 : Nat) (v : Option Value) (h : Heap) (L : List Loc) : Prop := v = none ∧ Fr n0 L ∧ Keep h0 h [a0_] ∧ Exa Z h a0_ "java/lang/Long"
theorem ef_rmLI (m : MethodId) (a0_ : Addr) (u1 : Int64) : entryFrame m #[(.ref a0_), (.long u1)] 3 = mkF m 0 #[rv a0_, .val (.long u1), .second] [] := by first | (simp [entryFrame, mkF, argsToLocals, Value.category]; done) | rfl
set_option maxRecDepth 65536 in
set_option maxHeartbeats 40000000 in
theorem rmLI (l : Launch) (Z : State) (a0 : Array Value) (hw : ∀ d ∈ tables_1, d.before a0 Z = true) (ws : List Jvm.Cond) (a0_ : Addr) (u1 : Int64)  (h0 : Heap) (n0 : Nat) (Z0 : n0 ≤ h0.size) (E1 : Exa Z h0 a0_ "java/lang/Long") (F1 : Fld Z h0 a0_ "java/lang/Long" "value" "J" (.long (0 : Int64))) (g0 : n0 ≤ a0_) :
    MetFree l (⟨"java/lang/Long", "<init>", "(J)V"⟩ : MethodName) (head1 (Jvm.Cond.code (⟨"java/lang/Long", "<init>", "(J)V"⟩ : MethodName) jdk_35_method_26_code 3 none :: ws) ({ frames := 2, cells := 0, slots := 0, locals := 24 } : Room)) (fun a U => a = #[(.ref a0_), (.long u1)] ∧ Z.Warmed39 U.vm ∧ U.heap = h0) (fun _ _ _ _ _ => True) (fun _ U o U' => ∃ v L, o = .returned v ∧ QLI Z a0_ u1 h0 n0 v U'.heap L ∧ FrameEnd U o U' L ({ frames := 2, cells := 0, slots := 0, locals := 24 } : Room).cells ({ frames := 2, cells := 0, slots := 0, locals := 24 } : Room).slots) := by
  refine MetFree.of_bodySF (plainFor_of_name pn_3) hisR ?_
  intro p e s m args below meth c s₁ Bd hml0 hP hK
  obtain ⟨rfl, hZ, hh⟩ := hP
  have hx := Bd.exec
  have hby := Bd.bytes
  have hml : c.maxLocals = 3 := hml0
  have hown : s.vm.findClass "java/lang/Long" = some m.cls := findClass_of_methodNamed Bd.named
  have hnm := (name_of_methodNamed Bd.named Bd.method).1
  have X0 : Stand p l e ({ frames := 2, cells := 0, slots := 0, locals := 24 } : Room) s m #[(.ref a0_), (.long u1)] below meth c s₁ [] 0 0 := Stand.of_body Bd
  have e0 : s₁.heap = h0 := by rw [← hh, Bd.state]; rfl
  have N0 := Fr.nil n0
  have S0 : ∀ t, Steps p.tables e below (s₁.setTop (mkF m 0 #[rv a0_, .val (.long u1), .second] [])) t → Steps p.tables e below (s₁.setTop (entryFrame m #[(.ref a0_), (.long u1)] 3)) t := fun t k => castTop (ef_rmLI m a0_ u1) k
  have K0 : Keep h0 h0 [a0_] := Keep.refl _ _
  obtain ⟨_, _, ⟨T1, L1, k1, n1⟩, -, X1, ⟨Lc1, hQ1, l1, y1, z1⟩, st1⟩ := X0.specialBack hx (y := (⟨"java/lang/Number", "<init>", "()V"⟩ : MethodName)) rfl hown (mvT hZ (hw _ (List.mem_of_getElem? (i := 54) rfl))) (mvT hZ (hw _ (List.mem_of_getElem? (i := 55) rfl))) (mvT hZ (hw _ (List.mem_of_getElem? (i := 59) rfl))) (by decide) (backOf (W := 0) (rmNI l Z a0 hw [] a0_ h0 n0 Z0) hZ (hw _ (List.mem_of_getElem? (i := 59) rfl)) (hw _ (List.mem_of_getElem? (i := 58) rfl)) (by decide) (by decide)) (g := (mkF m 1 #[rv a0_, .val (.long u1), .second] [(.ref a0_)])) rfl (by rw [hml]; rfl) (Steps.refl _) (a := a0_) (argsL := []) (rest := []) (lenOf pd_0 rfl) rfl (by show 2 * 0 + _ ≤ _; exact Nat.le_of_eq rfl) (hb hby d8_1) (fun _ _ => ⟨rfl, e0, (by decide : 0 + 0 ≤ _), (by decide : 0 + 0 ≤ _)⟩)
  dsimp only [Pt.U, Pt.locs, Pt.cells, Pt.slots] at X1 l1 y1 z1 st1 hQ1
  subst l1 y1 z1
  obtain ⟨rfl, Nq1, eq1⟩ := hQ1
  have N1 := Fr.app N0 Nq1
  obtain ⟨T2, h2, X2, e2, W2, st2⟩ := putF X1 hx hZ hown (host := "") (Or.inl (hw _ (List.mem_of_getElem? (i := 61) rfl))) Via.refl eq1 F1 E1 (Or.inr ⟨(hw _ (List.mem_of_getElem? (i := 62) rfl)), rfl, hnm⟩) (hw _ (List.mem_of_getElem? (i := 49) rfl)) (ty := .long) (by decide) rfl rfl (g := (mkF m 6 #[rv a0_, .val (.long u1), .second] [(.long u1), (.ref a0_)])) rfl rfl (hb hby d8_6)
  have Fw2 := F1.same W2
  have f3 := E1.wr W2
  have N2 := Fr.snoc X2 N1 g0
  have Z2 : n0 ≤ h2.size := Nat.le_trans Z0 (Keep.of_wr W2).1
  have K2 : Keep h0 h2 [a0_] := K0.wr W2 (Or.inl (List.mem_of_getElem? (i := 0) rfl))
  obtain ⟨fs, hr, hrun, hended, hW, hsame⟩ := X2.leave (v := none) (fun _ => rfl)
  refine ⟨_, _, S0 _ ?_, hrun, hended, _, _, rfl, ?_, ⟨_, rfl⟩, hW, hsame.mono (by decide) (by decide)⟩
  · skip
    show Steps p.tables e below (s₁.setTop (mkF m 0 #[rv a0_, .val (.long u1), .second] [])) _
    refine XS.aloadN X0.here hx rfl (hb hby d8_0) rfl rfl ?_
    show Steps p.tables e below (s₁.setTop (mkF m 1 #[rv a0_, .val (.long u1), .second] [(.ref a0_)])) _
    refine st1.trans ?_
    show Steps p.tables e below (T1.setTop (mkF m 4 #[rv a0_, .val (.long u1), .second] [])) _
    refine XS.aloadN X1.here hx rfl (hb hby d8_4) rfl rfl ?_
    show Steps p.tables e below (T1.setTop (mkF m 5 #[rv a0_, .val (.long u1), .second] [(.ref a0_)])) _
    refine XS.lloadN X1.here hx rfl (hb hby d8_5) rfl ?_
    show Steps p.tables e below (T1.setTop (mkF m 6 #[rv a0_, .val (.long u1), .second] [(.long u1), (.ref a0_)])) _
    refine st2 _ ?_
    show Steps p.tables e below (T2.setTop (mkF m 9 #[rv a0_, .val (.long u1), .second] [])) _
    exact X2.returnOut hx Bd.returns (hb hby d8_9) hr
  · show QLI Z a0_ u1 h0 n0 _ T2.heap _
    rw [e2]
    exact ⟨rfl, N2, K2, f3⟩
theorem d7_0 : decode jdk_35_method_24_code 0 = .ok (.sipush 128, 3) := by decide +kernel
theorem d7_3 : decode jdk_35_method_24_code 3 = .ok (.istore_n 2, 1) := by decide +kernel
theorem d7_4 : decode jdk_35_method_24_code 4 = .ok (.lload_n 0, 1) := by decide +kernel
theorem d7_5 : decode jdk_35_method_24_code 5 = .ok (.ldc2_w 230, 3) := by decide +kernel
theorem d7_8 : decode jdk_35_method_24_code 8 = .ok (.lcmp, 1) := by decide +kernel
theorem d7_9 : decode jdk_35_method_24_code 9 = .ok (.ifCond .lt 22, 3) := by decide +kernel
theorem d7_31 : decode jdk_35_method_24_code 31 = .ok (.new 1, 3) := by decide +kernel
theorem d7_34 : decode jdk_35_method_24_code 34 = .ok (.dup, 1) := by decide +kernel
theorem d7_35 : decode jdk_35_method_24_code 35 = .ok (.lload_n 0, 1) := by decide +kernel
theorem d7_36 : decode jdk_35_method_24_code 36 = .ok (.invokespecial 240, 3) := by decide +kernel
theorem pd_1 : parseMethodDescriptor "(J)V" = some ⟨[.long], none⟩ := by decide +kernel
theorem d7_39 : decode jdk_35_method_24_code 39 = .ok (.areturn, 1) := by decide +kernel
theorem d7_12 : decode jdk_35_method_24_code 12 = .ok (.lload_n 0, 1) := by decide +kernel
theorem d7_13 : decode jdk_35_method_24_code 13 = .ok (.ldc2_w 232, 3) := by decide +kernel
theorem d7_16 : decode jdk_35_method_24_code 16 = .ok (.lcmp, 1) := by decide +kernel
theorem d7_17 : decode jdk_35_method_24_code 17 = .ok (.ifCond .gt 14, 3) := by decide +kernel
theorem d7_20 : decode jdk_35_method_24_code 20 = .ok (.getstatic 234, 3) := by decide +kernel
theorem d7_23 : decode jdk_35_method_24_code 23 = .ok (.lload_n 0, 1) := by decide +kernel
theorem d7_24 : decode jdk_35_method_24_code 24 = .ok (.l2i, 1) := by decide +kernel
theorem d7_25 : decode jdk_35_method_24_code 25 = .ok (.sipush 128, 3) := by decide +kernel
theorem d7_28 : decode jdk_35_method_24_code 28 = .ok (.iadd, 1) := by decide +kernel
theorem d7_29 : decode jdk_35_method_24_code 29 = .ok (.aaload, 1) := by decide +kernel
theorem d7_30 : decode jdk_35_method_24_code 30 = .ok (.areturn, 1) := by decide +kernel
def QLV (Z : State) (u0 : Int64) (ca : Addr) (cc : Cell) (h0 : Heap) (n0 : Nat) (v : Option Value) (h : Heap) (L : List Loc) : Prop := ∃ b : Addr, v = some (.ref b) ∧ Fr n0 L ∧ Keep h0 h [] ∧ Exa Z h b "java/lang/Long"
theorem ef_rmLV (m : MethodId) (u0 : Int64) : entryFrame m #[(.long u0)] 3 = mkF m 0 #[.val (.long u0), .second, .unset] [] := by first | (simp [entryFrame, mkF, argsToLocals, Value.category]; done) | rfl
set_option maxRecDepth 65536 in
set_option maxHeartbeats 40000000 in
theorem rmLV (l : Launch) (Z : State) (a0 : Array Value) (hw : ∀ d ∈ tables_1, d.before a0 Z = true) (ws : List Jvm.Cond) (u0 : Int64) (ca : Addr) (cc : Cell) (h0 : Heap) (n0 : Nat) (Z0 : n0 ≤ h0.size) (hO : Old Z n0 h0) (hS : Sta Z Z.heap "java/lang/Long$LongCache" "cache" "[Ljava/lang/Long;" (.ref ca)) (hB : Bxs Z ca cc "java/lang/Long" "J" (256 : Int32) (fun j => .long ((j - (128 : Int32)).toInt64))) :
    MetFree l (⟨"java/lang/Long", "valueOf", "(J)Ljava/lang/Long;"⟩ : MethodName) (head1 (Jvm.Cond.code (⟨"java/lang/Long", "valueOf", "(J)Ljava/lang/Long;"⟩ : MethodName) jdk_35_method_24_code 3 (some (.object "java/lang/Long")) :: ws) ({ frames := 3, cells := 1, slots := 1, locals := 39 } : Room)) (fun a U => a = #[(.long u0)] ∧ Z.Warmed39 U.vm ∧ U.heap = h0) (fun _ _ _ _ _ => True) (fun _ U o U' => ∃ v L, o = .returned v ∧ QLV Z u0 ca cc h0 n0 v U'.heap L ∧ FrameEnd U o U' L ({ frames := 3, cells := 1, slots := 1, locals := 39 } : Room).cells ({ frames := 3, cells := 1, slots := 1, locals := 39 } : Room).slots) := by
  refine MetFree.of_bodySF (plainFor_of_name pn_3) hisR ?_
  intro p e s m args below meth c s₁ Bd hml0 hP hK
  obtain ⟨rfl, hZ, hh⟩ := hP
  have hx := Bd.exec
  have hby := Bd.bytes
  have hml : c.maxLocals = 3 := hml0
  have hown : s.vm.findClass "java/lang/Long" = some m.cls := findClass_of_methodNamed Bd.named
  have hnm := (name_of_methodNamed Bd.named Bd.method).1
  have X0 : Stand p l e ({ frames := 3, cells := 1, slots := 1, locals := 39 } : Room) s m #[(.long u0)] below meth c s₁ [] 0 0 := Stand.of_body Bd
  have e0 : s₁.heap = h0 := by rw [← hh, Bd.state]; rfl
  have N0 := Fr.nil n0
  have S0 : ∀ t, Steps p.tables e below (s₁.setTop (mkF m 0 #[.val (.long u0), .second, .unset] [])) t → Steps p.tables e below (s₁.setTop (entryFrame m #[(.long u0)] 3)) t := fun t k => castTop (ef_rmLV m u0) k
  have K0 : Keep h0 h0 [] := Keep.refl _ _
  have S1 : ∀ t, Steps p.tables e below (s₁.setTop (mkF m 9 #[.val (.long u0), .second, iv (128 : Int32)] [(.int (lcmpW u0 (-128 : Int64)))])) t → Steps p.tables e below (s₁.setTop (entryFrame m #[(.long u0)] 3)) t := by
    intro t k
    refine S0 t ?_
    show Steps p.tables e below (s₁.setTop (mkF m 0 #[.val (.long u0), .second, .unset] [])) _
    refine XS.sipush X0.here hx rfl (hb hby d7_0) ?_
    show Steps p.tables e below (s₁.setTop (mkF m 3 #[.val (.long u0), .second, .unset] [(.int (128 : Int32))])) _
    refine XS.istoreN X0.here hx rfl (hb hby d7_3) rfl (l' := #[.val (.long u0), .second, iv (128 : Int32)]) rfl ?_
    show Steps p.tables e below (s₁.setTop (mkF m 4 #[.val (.long u0), .second, iv (128 : Int32)] [])) _
    refine XS.lloadN X0.here hx rfl (hb hby d7_4) rfl ?_
    show Steps p.tables e below (s₁.setTop (mkF m 5 #[.val (.long u0), .second, iv (128 : Int32)] [(.long u0)])) _
    refine X0.ldc2Long hx hown (mvT hZ (hw _ (List.mem_of_getElem? (i := 46) rfl))) (g := (mkF m 5 #[.val (.long u0), .second, iv (128 : Int32)] [(.long u0)])) rfl (hb hby d7_5) _ ?_
    show Steps p.tables e below (s₁.setTop (mkF m 8 #[.val (.long u0), .second, iv (128 : Int32)] [(.long (-128 : Int64)), (.long u0)])) _
    refine XS.lcmp X0.here hx rfl (hb hby d7_8) rfl ?_
    exact k
  by_cases hc2 : u0 < (-128 : Int64)
  · skip
    obtain ⟨T3, h3, X3, e3, E3, A3, D3, -, st3⟩ := newO X0 hx hZ hown (hw _ (List.mem_of_getElem? (i := 48) rfl)) (hw _ (List.mem_of_getElem? (i := 49) rfl)) (hw _ (List.mem_of_getElem? (i := 44) rfl)) e0 (g := (mkF m 31 #[.val (.long u0), .second, iv (128 : Int32)] [])) rfl (hb hby d7_31) (by decide) (by decide)
    obtain ⟨b3, g3⟩ : ∃ z, z = h0.size := ⟨_, rfl⟩
    rw [← g3] at A3 D3 st3
    have ge_b3 : n0 ≤ b3 := Nat.le_trans Z0 (Nat.le_of_eq g3.symm)
    have f4 := (hS.ext hO.2).ext E3
    have F3_value : Fld Z h3 b3 "java/lang/Long" "value" "J" (.long (0 : Int64)) := D3 (Or.inr (hw _ (List.mem_of_getElem? (i := 62) rfl))) (ty := .long) (by decide)
    have Z3 : n0 ≤ h3.size := Nat.le_trans Z0 E3.1
    have K3 : Keep h0 h3 [] := K0.ext E3
    have sz_b3 : h0.size ≤ b3 := Nat.le_trans K0.1 (Nat.le_of_eq g3.symm)
    obtain ⟨_, _, ⟨T5, L5, k5, n5⟩, -, X5, ⟨Lc5, hQ5, l5, y5, z5⟩, st5⟩ := X3.specialBack hx (y := (⟨"java/lang/Long", "<init>", "(J)V"⟩ : MethodName)) rfl hown (mvT hZ (hw _ (List.mem_of_getElem? (i := 50) rfl))) (mvT hZ (hw _ (List.mem_of_getElem? (i := 51) rfl))) (mvT hZ (hw _ (List.mem_of_getElem? (i := 53) rfl))) (by decide) (backOf (W := 1) (rmLI l Z a0 hw [] b3 u0 h3 n0 Z3 A3 F3_value ge_b3) hZ (hw _ (List.mem_of_getElem? (i := 53) rfl)) (hw _ (List.mem_of_getElem? (i := 44) rfl)) (by decide) (by decide)) (g := (mkF m 36 #[.val (.long u0), .second, iv (128 : Int32)] [(.long u0), (.ref b3), (.ref b3)])) rfl (by rw [hml]; rfl) (Steps.refl _) (a := b3) (argsL := [(.long u0)]) (rest := [(.ref b3)]) (lenOf pd_1 rfl) rfl (by show 2 * 0 + _ ≤ _; exact Nat.le_of_eq rfl) (hb hby d7_36) (fun _ _ => ⟨rfl, e3, (by decide : 1 + 0 ≤ _), (by decide : 1 + 0 ≤ _)⟩)
    dsimp only [Pt.U, Pt.locs, Pt.cells, Pt.slots] at X5 l5 y5 z5 st5 hQ5
    subst l5 y5 z5
    obtain ⟨rfl, Nq5, Kq5, Eq5⟩ := hQ5
    have N5 := Fr.app N0 Nq5
    have K5 : Keep h0 T5.heap [] := K3.trans Kq5 (allS (Or.inr sz_b3) all0)
    obtain ⟨fs, hr, hrun, hended, hW, hsame⟩ := X5.leave (v := some (.ref b3)) (fun h => by rw [Bd.returns] at h; cases h)
    refine ⟨_, _, S1 _ ?_, hrun, hended, _, _, rfl, ?_, ⟨_, rfl⟩, hW, hsame.mono (by decide) (by decide)⟩
    · skip
      show Steps p.tables e below (s₁.setTop (mkF m 9 #[.val (.long u0), .second, iv (128 : Int32)] [(.int (lcmpW u0 (-128 : Int64)))])) _
      refine XS.ifYes X0.here hx rfl (pc0 := 9) (pc' := 31) rfl (hb hby d7_9) rfl ((if0 _ _).trans (tlt ((lw_lt _ _).mpr hc2)).1) (by decide) (by decide) ?_
      show Steps p.tables e below (s₁.setTop (mkF m 31 #[.val (.long u0), .second, iv (128 : Int32)] [])) _
      refine st3 _ ?_
      show Steps p.tables e below (T3.setTop (mkF m 34 #[.val (.long u0), .second, iv (128 : Int32)] [(.ref b3)])) _
      refine XS.dup X3.here hx rfl (hb hby d7_34) rfl rfl ?_
      show Steps p.tables e below (T3.setTop (mkF m 35 #[.val (.long u0), .second, iv (128 : Int32)] [(.ref b3), (.ref b3)])) _
      refine XS.lloadN X3.here hx rfl (hb hby d7_35) rfl ?_
      show Steps p.tables e below (T3.setTop (mkF m 36 #[.val (.long u0), .second, iv (128 : Int32)] [(.long u0), (.ref b3), (.ref b3)])) _
      refine st5.trans ?_
      show Steps p.tables e below (T5.setTop (mkF m 39 #[.val (.long u0), .second, iv (128 : Int32)] [(.ref b3)])) _
      jvm_step X5.here [X5.here.top, hx, (hb hby d7_39), X5.method', Bd.returns, Value.isRef, FieldType.isReference]
      first | (intro acts; rw [hr _ acts rfl rfl rfl]) | rw [hr _ _ rfl rfl rfl]
      exact Steps.refl _
    · show QLV Z u0 ca cc h0 n0 _ T5.heap _
      exact ⟨_, rfl, N5, K5, Eq5⟩
  · skip
    have S6 : ∀ t, Steps p.tables e below (s₁.setTop (mkF m 17 #[.val (.long u0), .second, iv (128 : Int32)] [(.int (lcmpW u0 (127 : Int64)))])) t → Steps p.tables e below (s₁.setTop (entryFrame m #[(.long u0)] 3)) t := by
      intro t k
      refine S1 t ?_
      show Steps p.tables e below (s₁.setTop (mkF m 9 #[.val (.long u0), .second, iv (128 : Int32)] [(.int (lcmpW u0 (-128 : Int64)))])) _
      refine XS.ifNo X0.here hx rfl (hb hby d7_9) rfl ((if0 _ _).trans (flt (fun z => hc2 ((lw_lt _ _).mp z))).1) ?_
      show Steps p.tables e below (s₁.setTop (mkF m 12 #[.val (.long u0), .second, iv (128 : Int32)] [])) _
      refine XS.lloadN X0.here hx rfl (hb hby d7_12) rfl ?_
      show Steps p.tables e below (s₁.setTop (mkF m 13 #[.val (.long u0), .second, iv (128 : Int32)] [(.long u0)])) _
      refine X0.ldc2Long hx hown (mvT hZ (hw _ (List.mem_of_getElem? (i := 47) rfl))) (g := (mkF m 13 #[.val (.long u0), .second, iv (128 : Int32)] [(.long u0)])) rfl (hb hby d7_13) _ ?_
      show Steps p.tables e below (s₁.setTop (mkF m 16 #[.val (.long u0), .second, iv (128 : Int32)] [(.long (127 : Int64)), (.long u0)])) _
      refine XS.lcmp X0.here hx rfl (hb hby d7_16) rfl ?_
      exact k
    by_cases hc7 : (127 : Int64) < u0
    · skip
      obtain ⟨T8, h8, X8, e8, E8, A8, D8, -, st8⟩ := newO X0 hx hZ hown (hw _ (List.mem_of_getElem? (i := 48) rfl)) (hw _ (List.mem_of_getElem? (i := 49) rfl)) (hw _ (List.mem_of_getElem? (i := 44) rfl)) e0 (g := (mkF m 31 #[.val (.long u0), .second, iv (128 : Int32)] [])) rfl (hb hby d7_31) (by decide) (by decide)
      obtain ⟨b8, g8⟩ : ∃ z, z = h0.size := ⟨_, rfl⟩
      rw [← g8] at A8 D8 st8
      have ge_b8 : n0 ≤ b8 := Nat.le_trans Z0 (Nat.le_of_eq g8.symm)
      have f9 := (hS.ext hO.2).ext E8
      have F8_value : Fld Z h8 b8 "java/lang/Long" "value" "J" (.long (0 : Int64)) := D8 (Or.inr (hw _ (List.mem_of_getElem? (i := 62) rfl))) (ty := .long) (by decide)
      have Z8 : n0 ≤ h8.size := Nat.le_trans Z0 E8.1
      have K8 : Keep h0 h8 [] := K0.ext E8
      have sz_b8 : h0.size ≤ b8 := Nat.le_trans K0.1 (Nat.le_of_eq g8.symm)
      obtain ⟨_, _, ⟨T10, L10, k10, n10⟩, -, X10, ⟨Lc10, hQ10, l10, y10, z10⟩, st10⟩ := X8.specialBack hx (y := (⟨"java/lang/Long", "<init>", "(J)V"⟩ : MethodName)) rfl hown (mvT hZ (hw _ (List.mem_of_getElem? (i := 50) rfl))) (mvT hZ (hw _ (List.mem_of_getElem? (i := 51) rfl))) (mvT hZ (hw _ (List.mem_of_getElem? (i := 53) rfl))) (by decide) (backOf (W := 1) (rmLI l Z a0 hw [] b8 u0 h8 n0 Z8 A8 F8_value ge_b8) hZ (hw _ (List.mem_of_getElem? (i := 53) rfl)) (hw _ (List.mem_of_getElem? (i := 44) rfl)) (by decide) (by decide)) (g := (mkF m 36 #[.val (.long u0), .second, iv (128 : Int32)] [(.long u0), (.ref b8), (.ref b8)])) rfl (by rw [hml]; rfl) (Steps.refl _) (a := b8) (argsL := [(.long u0)]) (rest := [(.ref b8)]) (lenOf pd_1 rfl) rfl (by show 2 * 0 + _ ≤ _; exact Nat.le_of_eq rfl) (hb hby d7_36) (fun _ _ => ⟨rfl, e8, (by decide : 1 + 0 ≤ _), (by decide : 1 + 0 ≤ _)⟩)
      dsimp only [Pt.U, Pt.locs, Pt.cells, Pt.slots] at X10 l10 y10 z10 st10 hQ10
      subst l10 y10 z10
      obtain ⟨rfl, Nq10, Kq10, Eq10⟩ := hQ10
      have N10 := Fr.app N0 Nq10
      have K10 : Keep h0 T10.heap [] := K8.trans Kq10 (allS (Or.inr sz_b8) all0)
      obtain ⟨fs, hr, hrun, hended, hW, hsame⟩ := X10.leave (v := some (.ref b8)) (fun h => by rw [Bd.returns] at h; cases h)
      refine ⟨_, _, S6 _ ?_, hrun, hended, _, _, rfl, ?_, ⟨_, rfl⟩, hW, hsame.mono (by decide) (by decide)⟩
      · skip
        show Steps p.tables e below (s₁.setTop (mkF m 17 #[.val (.long u0), .second, iv (128 : Int32)] [(.int (lcmpW u0 (127 : Int64)))])) _
        refine XS.ifYes X0.here hx rfl (pc0 := 17) (pc' := 31) rfl (hb hby d7_17) rfl ((if0 _ _).trans (tlt ((lw_gt _ _).mpr hc7)).2.2.1) (by decide) (by decide) ?_
        show Steps p.tables e below (s₁.setTop (mkF m 31 #[.val (.long u0), .second, iv (128 : Int32)] [])) _
        refine st8 _ ?_
        show Steps p.tables e below (T8.setTop (mkF m 34 #[.val (.long u0), .second, iv (128 : Int32)] [(.ref b8)])) _
        refine XS.dup X8.here hx rfl (hb hby d7_34) rfl rfl ?_
        show Steps p.tables e below (T8.setTop (mkF m 35 #[.val (.long u0), .second, iv (128 : Int32)] [(.ref b8), (.ref b8)])) _
        refine XS.lloadN X8.here hx rfl (hb hby d7_35) rfl ?_
        show Steps p.tables e below (T8.setTop (mkF m 36 #[.val (.long u0), .second, iv (128 : Int32)] [(.long u0), (.ref b8), (.ref b8)])) _
        refine st10.trans ?_
        show Steps p.tables e below (T10.setTop (mkF m 39 #[.val (.long u0), .second, iv (128 : Int32)] [(.ref b8)])) _
        jvm_step X10.here [X10.here.top, hx, (hb hby d7_39), X10.method', Bd.returns, Value.isRef, FieldType.isReference]
        first | (intro acts; rw [hr _ acts rfl rfl rfl]) | rw [hr _ _ rfl rfl rfl]
        exact Steps.refl _
      · show QLV Z u0 ca cc h0 n0 _ T10.heap _
        exact ⟨_, rfl, N10, K10, Eq10⟩
    · skip
      obtain ⟨T11, X11, e11, st11⟩ := getS2 X0 hx hZ hown (host := "") (Or.inl (hw _ (List.mem_of_getElem? (i := 66) rfl))) Via.refl e0 (hS.ext hO.2) (g := (mkF m 20 #[.val (.long u0), .second, iv (128 : Int32)] [])) rfl (hb hby d7_20)
      have hin : ¬ (((u0.toInt32) + (128 : Int32)) < 0 ∨ cc.slots.size ≤ (((u0.toInt32) + (128 : Int32))).toNatClampNeg) := inb_of hB.2.1 (own_lvix u0 hc2 hc7)
      obtain ⟨bx, hbx, hex, -⟩ := hB.2.2.2 ((u0.toInt32) + (128 : Int32)) hin
      obtain ⟨fs, hr, hrun, hended, hW, hsame⟩ := X11.leave (v := some (.ref bx)) (fun h => by rw [Bd.returns] at h; cases h)
      refine ⟨_, _, S6 _ ?_, hrun, hended, _, _, rfl, ?_, ⟨_, rfl⟩, hW, hsame.mono (by decide) (by decide)⟩
      · skip
        show Steps p.tables e below (s₁.setTop (mkF m 17 #[.val (.long u0), .second, iv (128 : Int32)] [(.int (lcmpW u0 (127 : Int64)))])) _
        refine XS.ifNo X0.here hx rfl (hb hby d7_17) rfl ((if0 _ _).trans (flt (fun z => hc7 ((lw_gt _ _).mp z))).2.2.1) ?_
        show Steps p.tables e below (s₁.setTop (mkF m 20 #[.val (.long u0), .second, iv (128 : Int32)] [])) _
        refine st11 _ ?_
        show Steps p.tables e below (T11.setTop (mkF m 23 #[.val (.long u0), .second, iv (128 : Int32)] [(.ref ca)])) _
        refine XS.lloadN X11.here hx rfl (hb hby d7_23) rfl ?_
        show Steps p.tables e below (T11.setTop (mkF m 24 #[.val (.long u0), .second, iv (128 : Int32)] [(.long u0), (.ref ca)])) _
        refine XS.l2i X11.here hx rfl (hb hby d7_24) rfl ?_
        show Steps p.tables e below (T11.setTop (mkF m 25 #[.val (.long u0), .second, iv (128 : Int32)] [(.int (u0.toInt32)), (.ref ca)])) _
        refine XS.sipush X11.here hx rfl (hb hby d7_25) ?_
        show Steps p.tables e below (T11.setTop (mkF m 28 #[.val (.long u0), .second, iv (128 : Int32)] [(.int (128 : Int32)), (.int (u0.toInt32)), (.ref ca)])) _
        refine XS.iadd X11.here hx rfl (hb hby d7_28) rfl ?_
        show Steps p.tables e below (T11.setTop (mkF m 29 #[.val (.long u0), .second, iv (128 : Int32)] [(.int ((u0.toInt32) + (128 : Int32))), (.ref ca)])) _
        refine X11.aaload hx (j := ((u0.toInt32) + (128 : Int32))) (v := (.ref bx)) (by rw [e11]; exact (hB.1.ext hO.2).1) (State.isArrayOf_alike hZ.alike hB.1.2.1) rfl hB.1.2.2 hin hbx (g := (mkF m 29 #[.val (.long u0), .second, iv (128 : Int32)] [(.int ((u0.toInt32) + (128 : Int32))), (.ref ca)])) rfl rfl (hb hby d7_29) _ ?_
        show Steps p.tables e below (T11.setTop (mkF m 30 #[.val (.long u0), .second, iv (128 : Int32)] [(.ref bx)])) _
        jvm_step X11.here [X11.here.top, hx, (hb hby d7_30), X11.method', Bd.returns, Value.isRef, FieldType.isReference]
        first | (intro acts; rw [hr _ acts rfl rfl rfl]) | rw [hr _ _ rfl rfl rfl]
        exact Steps.refl _
      · show QLV Z u0 ca cc h0 n0 _ T11.heap _
        rw [e11]
        exact ⟨_, rfl, N0, Keep.refl _ _, hex.ext hO.2⟩
theorem own_eqf_one {o0 : Int32} {o1 : Int64} {o2 : Int64} {o3 : Int32} {o4 : Int64} {o5 : Int64} {o6 : Int32} {r0 : Int32} {r1 : Int64} {r2 : Int64} {r3 : Int32} {r4 : Int64} {r5 : Int64} {r6 : Int32} (h0 : o0 = r0) (h1 : o1 = r1) (h2 : o2 = r2) (h3 : o3 = r3) (h4 : o4 = r4) (h5 : o5 = r5) (h6 : o6 = r6) : own_eqf o0 o1 o2 o3 o4 o5 o6 r0 r1 r2 r3 r4 r5 r6 = 1 := by
  unfold own_eqf
  rw [if_pos h0, if_pos h1, if_pos h2, if_pos h3, if_pos h4, if_pos h5, if_pos h6]
theorem own_z0 {o0 : Int32} {o1 : Int64} {o2 : Int64} {o3 : Int32} {o4 : Int64} {o5 : Int64} {o6 : Int32} {r0 : Int32} {r1 : Int64} {r2 : Int64} {r3 : Int32} {r4 : Int64} {r5 : Int64} {r6 : Int32} (h : ¬ o0 = r0) : own_eqf o0 o1 o2 o3 o4 o5 o6 r0 r1 r2 r3 r4 r5 r6 = 0 := by
  unfold own_eqf
  rw [if_neg h]
theorem own_z1 {o0 : Int32} {o1 : Int64} {o2 : Int64} {o3 : Int32} {o4 : Int64} {o5 : Int64} {o6 : Int32} {r0 : Int32} {r1 : Int64} {r2 : Int64} {r3 : Int32} {r4 : Int64} {r5 : Int64} {r6 : Int32} (h : ¬ o1 = r1) : own_eqf o0 o1 o2 o3 o4 o5 o6 r0 r1 r2 r3 r4 r5 r6 = 0 := by
  unfold own_eqf
  by_cases h0 : o0 = r0
  case neg => rw [if_neg h0]
  rw [if_pos h0, if_neg h]
theorem own_z2 {o0 : Int32} {o1 : Int64} {o2 : Int64} {o3 : Int32} {o4 : Int64} {o5 : Int64} {o6 : Int32} {r0 : Int32} {r1 : Int64} {r2 : Int64} {r3 : Int32} {r4 : Int64} {r5 : Int64} {r6 : Int32} (h : ¬ o2 = r2) : own_eqf o0 o1 o2 o3 o4 o5 o6 r0 r1 r2 r3 r4 r5 r6 = 0 := by
  unfold own_eqf
  by_cases h0 : o0 = r0
  case neg => rw [if_neg h0]
  by_cases h1 : o1 = r1
  case neg => rw [if_pos h0, if_neg h1]
  rw [if_pos h0, if_pos h1, if_neg h]
theorem own_z3 {o0 : Int32} {o1 : Int64} {o2 : Int64} {o3 : Int32} {o4 : Int64} {o5 : Int64} {o6 : Int32} {r0 : Int32} {r1 : Int64} {r2 : Int64} {r3 : Int32} {r4 : Int64} {r5 : Int64} {r6 : Int32} (h : ¬ o3 = r3) : own_eqf o0 o1 o2 o3 o4 o5 o6 r0 r1 r2 r3 r4 r5 r6 = 0 := by
  unfold own_eqf
  by_cases h0 : o0 = r0
  case neg => rw [if_neg h0]
  by_cases h1 : o1 = r1
  case neg => rw [if_pos h0, if_neg h1]
  by_cases h2 : o2 = r2
  case neg => rw [if_pos h0, if_pos h1, if_neg h2]
  rw [if_pos h0, if_pos h1, if_pos h2, if_neg h]
theorem own_z4 {o0 : Int32} {o1 : Int64} {o2 : Int64} {o3 : Int32} {o4 : Int64} {o5 : Int64} {o6 : Int32} {r0 : Int32} {r1 : Int64} {r2 : Int64} {r3 : Int32} {r4 : Int64} {r5 : Int64} {r6 : Int32} (h : ¬ o4 = r4) : own_eqf o0 o1 o2 o3 o4 o5 o6 r0 r1 r2 r3 r4 r5 r6 = 0 := by
  unfold own_eqf
  by_cases h0 : o0 = r0
  case neg => rw [if_neg h0]
  by_cases h1 : o1 = r1
  case neg => rw [if_pos h0, if_neg h1]
  by_cases h2 : o2 = r2
  case neg => rw [if_pos h0, if_pos h1, if_neg h2]
  by_cases h3 : o3 = r3
  case neg => rw [if_pos h0, if_pos h1, if_pos h2, if_neg h3]
  rw [if_pos h0, if_pos h1, if_pos h2, if_pos h3, if_neg h]
theorem own_z5 {o0 : Int32} {o1 : Int64} {o2 : Int64} {o3 : Int32} {o4 : Int64} {o5 : Int64} {o6 : Int32} {r0 : Int32} {r1 : Int64} {r2 : Int64} {r3 : Int32} {r4 : Int64} {r5 : Int64} {r6 : Int32} (h : ¬ o5 = r5) : own_eqf o0 o1 o2 o3 o4 o5 o6 r0 r1 r2 r3 r4 r5 r6 = 0 := by
  unfold own_eqf
  by_cases h0 : o0 = r0
  case neg => rw [if_neg h0]
  by_cases h1 : o1 = r1
  case neg => rw [if_pos h0, if_neg h1]
  by_cases h2 : o2 = r2
  case neg => rw [if_pos h0, if_pos h1, if_neg h2]
  by_cases h3 : o3 = r3
  case neg => rw [if_pos h0, if_pos h1, if_pos h2, if_neg h3]
  by_cases h4 : o4 = r4
  case neg => rw [if_pos h0, if_pos h1, if_pos h2, if_pos h3, if_neg h4]
  rw [if_pos h0, if_pos h1, if_pos h2, if_pos h3, if_pos h4, if_neg h]
theorem own_z6 {o0 : Int32} {o1 : Int64} {o2 : Int64} {o3 : Int32} {o4 : Int64} {o5 : Int64} {o6 : Int32} {r0 : Int32} {r1 : Int64} {r2 : Int64} {r3 : Int32} {r4 : Int64} {r5 : Int64} {r6 : Int32} (h : ¬ o6 = r6) : own_eqf o0 o1 o2 o3 o4 o5 o6 r0 r1 r2 r3 r4 r5 r6 = 0 := by
  unfold own_eqf
  by_cases h0 : o0 = r0
  case neg => rw [if_neg h0]
  by_cases h1 : o1 = r1
  case neg => rw [if_pos h0, if_neg h1]
  by_cases h2 : o2 = r2
  case neg => rw [if_pos h0, if_pos h1, if_neg h2]
  by_cases h3 : o3 = r3
  case neg => rw [if_pos h0, if_pos h1, if_pos h2, if_neg h3]
  by_cases h4 : o4 = r4
  case neg => rw [if_pos h0, if_pos h1, if_pos h2, if_pos h3, if_neg h4]
  by_cases h5 : o5 = r5
  case neg => rw [if_pos h0, if_pos h1, if_pos h2, if_pos h3, if_pos h4, if_neg h5]
  rw [if_pos h0, if_pos h1, if_pos h2, if_pos h3, if_pos h4, if_pos h5, if_neg h]
theorem own_nn (b : Int32) : nar .boolean (nar .boolean b) = nar .boolean b := by
  show (b &&& 1) &&& 1 = b &&& 1
  rw [Int32.and_assoc]; rfl
theorem own_x32 (x : Int32) : ¬ (x ^^^ (-1 : Int32)) = x := fun h => by
  have q : x ^^^ (x ^^^ (-1 : Int32)) = x ^^^ x := by rw [h]
  rw [← Int32.xor_assoc, Int32.xor_self, Int32.zero_xor] at q
  exact absurd q (by decide)
theorem own_x64 (x : Int64) : ¬ (x ^^^ (-1 : Int64)) = x := fun h => by
  have q : x ^^^ (x ^^^ (-1 : Int64)) = x ^^^ x := by rw [h]
  rw [← Int64.xor_assoc, Int64.xor_self, Int64.zero_xor] at q
  exact absurd q (by decide)
theorem own_01 {b c : Int32} (h : b = (if c = (0 : Int32) then (0 : Int32) else (1 : Int32))) : b = 0 ∨ b = 1 := by
  split at h
  · exact Or.inl h
  · exact Or.inr h
theorem own_nbne {b nb : Int32} (hb : b = 0 ∨ b = 1) (h : nb = (if b = (0 : Int32) then (1 : Int32) else (0 : Int32))) : ¬ nar .boolean nb = nar .boolean b := by
  rcases hb with rfl | rfl
  · subst h; decide
  · subst h; decide
theorem own_sel (y : Int32) : 0 ≤ ((y &&& (2147483647 : Int32)) % (7 : Int32)).toInt ∧ ((y &&& (2147483647 : Int32)) % (7 : Int32)).toInt ≤ 6 := by
  have h := Jvm.Kit.i32_mask y 2147483647 (k := 31) (by decide) (by decide)
  have q := Jvm.Kit.i32_rem_nonneg (x := y &&& (2147483647 : Int32)) (y := 7) (by rw [h]; omega)
  have e : (7 : Int32).toInt = 7 := by decide
  rw [e] at q
  omega
theorem own_six (s : Int32) (h : 0 ≤ s.toInt ∧ s.toInt ≤ 6) (h0 : ¬ s = (0 : Int32)) (h1 : ¬ s = (1 : Int32)) (h2 : ¬ s = (2 : Int32)) (h3 : ¬ s = (3 : Int32)) (h4 : ¬ s = (4 : Int32)) (h5 : ¬ s = (5 : Int32)) : s = (6 : Int32) := by
  simp only [← Int32.toInt_inj, Int32.reduceToInt] at *
  omega
theorem own_kd {sl b p q : Int32} {a c d e : Int64} {k0 : Int32} {k1 : Int64} {k2 : Int64} {k3 : Int32} {k4 : Int64} {k5 : Int64} {k6 : Int32} (hs : 0 ≤ sl.toInt ∧ sl.toInt ≤ 6) (hb : b = 0 ∨ b = 1) (e0 : k0 = (if sl = (0 : Int32) then (if b = (0 : Int32) then (1 : Int32) else (0 : Int32)) else b)) (e1 : k1 = (if sl = (1 : Int32) then (a ^^^ (-1 : Int64)) else a)) (e2 : k2 = (if sl = (2 : Int32) then (c ^^^ (-1 : Int64)) else c)) (e3 : k3 = (if sl = (3 : Int32) then (p ^^^ (-1 : Int32)) else p)) (e4 : k4 = (if sl = (4 : Int32) then (d ^^^ (-1 : Int64)) else d)) (e5 : k5 = (if sl = (5 : Int32) then (e ^^^ (-1 : Int64)) else e)) (e6 : k6 = (if sl = (6 : Int32) then (q ^^^ (-1 : Int32)) else q)) : own_eqf (nar .boolean k0) k1 k2 k3 k4 k5 k6 (nar .boolean b) a c p d e q = 0 := by
  have hc : sl = 0 ∨ sl = 1 ∨ sl = 2 ∨ sl = 3 ∨ sl = 4 ∨ sl = 5 ∨ sl = 6 := by
    simp only [← Int32.toInt_inj, Int32.reduceToInt]; omega
  rcases hc with rfl | rfl | rfl | rfl | rfl | rfl | rfl
  · rw [if_pos rfl] at e0; exact own_z0 (own_nbne hb e0)
  · rw [if_pos rfl] at e1; subst e1; exact own_z1 (own_x64 _)
  · rw [if_pos rfl] at e2; subst e2; exact own_z2 (own_x64 _)
  · rw [if_pos rfl] at e3; subst e3; exact own_z3 (own_x32 _)
  · rw [if_pos rfl] at e4; subst e4; exact own_z4 (own_x64 _)
  · rw [if_pos rfl] at e5; subst e5; exact own_z5 (own_x64 _)
  · rw [if_pos rfl] at e6; subst e6; exact own_z6 (own_x32 _)

theorem own_xp {x0 y0 : Int32} {x1 y1 : Int64} {x2 y2 : Int64} {x3 y3 : Int32} {x4 y4 : Int64} {x5 y5 : Int64} {x6 y6 : Int32} {v : Int32} (hx : x0 = 0 ∨ x0 = 1) (hy : y0 = 0 ∨ y0 = 1) (e : v = (if x0 = y0 then (if x1 = y1 then (if x2 = y2 then (if x3 = y3 then (if x4 = y4 then (if x5 = y5 then (if x6 = y6 then (1 : Int32) else (0 : Int32)) else (0 : Int32)) else (0 : Int32)) else (0 : Int32)) else (0 : Int32)) else (0 : Int32)) else (0 : Int32))) : own_eqf (nar .boolean x0) x1 x2 x3 x4 x5 x6 (nar .boolean y0) y1 y2 y3 y4 y5 y6 = v := by
  have hn : ∀ z : Int32, z = 0 ∨ z = 1 → nar .boolean z = z := fun z hz => by rcases hz with rfl | rfl <;> decide
  rw [hn x0 hx, hn y0 hy, e]
  by_cases h0 : x0 = y0
  case neg => rw [if_neg h0, own_z0 h0]
  by_cases h1 : x1 = y1
  case neg => rw [if_pos h0, if_neg h1, own_z1 h1]
  by_cases h2 : x2 = y2
  case neg => rw [if_pos h0, if_pos h1, if_neg h2, own_z2 h2]
  by_cases h3 : x3 = y3
  case neg => rw [if_pos h0, if_pos h1, if_pos h2, if_neg h3, own_z3 h3]
  by_cases h4 : x4 = y4
  case neg => rw [if_pos h0, if_pos h1, if_pos h2, if_pos h3, if_neg h4, own_z4 h4]
  by_cases h5 : x5 = y5
  case neg => rw [if_pos h0, if_pos h1, if_pos h2, if_pos h3, if_pos h4, if_neg h5, own_z5 h5]
  by_cases h6 : x6 = y6
  case neg => rw [if_pos h0, if_pos h1, if_pos h2, if_pos h3, if_pos h4, if_pos h5, if_neg h6, own_z6 h6]
  rw [if_pos h0, if_pos h1, if_pos h2, if_pos h3, if_pos h4, if_pos h5, if_pos h6, own_eqf_one h0 h1 h2 h3 h4 h5 h6]

theorem own_yp {x0 y0 : Int32} {x1 y1 : Int64} {x2 y2 : Int64} {x3 y3 : Int32} {x4 y4 : Int64} {x5 y5 : Int64} {x6 y6 : Int32} {v : Int32} (hx : x0 = 0 ∨ x0 = 1) (hy : y0 = 0 ∨ y0 = 1) (e : v = (if x0 = y0 then (if x1 = y1 then (if x2 = y2 then (if x3 = y3 then (if x4 = y4 then (if x5 = y5 then (if x6 = y6 then (1 : Int32) else (0 : Int32)) else (0 : Int32)) else (0 : Int32)) else (0 : Int32)) else (0 : Int32)) else (0 : Int32)) else (0 : Int32))) : own_eqf (nar .boolean y0) y1 y2 y3 y4 y5 y6 (nar .boolean x0) x1 x2 x3 x4 x5 x6 = v := by
  have hn : ∀ z : Int32, z = 0 ∨ z = 1 → nar .boolean z = z := fun z hz => by rcases hz with rfl | rfl <;> decide
  rw [hn x0 hx, hn y0 hy, e]
  by_cases h0 : x0 = y0
  case neg => rw [if_neg h0, own_z0 (fun z => h0 z.symm)]
  by_cases h1 : x1 = y1
  case neg => rw [if_pos h0, if_neg h1, own_z1 (fun z => h1 z.symm)]
  by_cases h2 : x2 = y2
  case neg => rw [if_pos h0, if_pos h1, if_neg h2, own_z2 (fun z => h2 z.symm)]
  by_cases h3 : x3 = y3
  case neg => rw [if_pos h0, if_pos h1, if_pos h2, if_neg h3, own_z3 (fun z => h3 z.symm)]
  by_cases h4 : x4 = y4
  case neg => rw [if_pos h0, if_pos h1, if_pos h2, if_pos h3, if_neg h4, own_z4 (fun z => h4 z.symm)]
  by_cases h5 : x5 = y5
  case neg => rw [if_pos h0, if_pos h1, if_pos h2, if_pos h3, if_pos h4, if_neg h5, own_z5 (fun z => h5 z.symm)]
  by_cases h6 : x6 = y6
  case neg => rw [if_pos h0, if_pos h1, if_pos h2, if_pos h3, if_pos h4, if_pos h5, if_neg h6, own_z6 (fun z => h6 z.symm)]
  rw [if_pos h0, if_pos h1, if_pos h2, if_pos h3, if_pos h4, if_pos h5, if_pos h6, own_eqf_one h0.symm h1.symm h2.symm h3.symm h4.symm h5.symm h6.symm]

theorem own_sub128 {Z : State} {args : Array Value} {j : Int32} (hj : ¬ j < 0) : (Jvm.Term.sub (.index 0) (.int 128)).eval args Z none [j.toNatClampNeg] Z = some (.int (j - 128)) := by
  have h := idx_at (args := args) (first := Z) (s := Z) (o := none) hj
  simp [Term.eval, h] at *
  try rw [h]

theorem pd_2 : parseMethodDescriptor "(IIJJ)J" = some ⟨[.int, .int, .long, .long], some .long⟩ := by decide +kernel
theorem pd_3 : parseMethodDescriptor "(IIII)I" = some ⟨[.int, .int, .int, .int], some .int⟩ := by decide +kernel
theorem pd_4 : parseMethodDescriptor "(ZJJIJJI)V" = some ⟨[.boolean, .long, .long, .int, .long, .long, .int], none⟩ := by decide +kernel
theorem pd_5 : parseMethodDescriptor "(Ljava/lang/Object;)Z" = some ⟨[(.object "java/lang/Object")], some .boolean⟩ := by decide +kernel
theorem pd_6 : parseMethodDescriptor "(J)Ljava/lang/Long;" = some ⟨[.long], some (.object "java/lang/Long")⟩ := by decide +kernel
def Q0 (Z : State) (u0 : Int64) (u1 : Int64) (u2 : Int32) (u3 : Int32) (u4 : Int32) (u5 : Int32) (ca : Addr) (cc : Cell) (h0 : Heap) (n0 : Nat) (v : Option Value) (h : Heap) (L : List Loc) : Prop := v = some (.int 1) ∧ Fr n0 L
theorem ef_rm0 (m : MethodId) (u0 : Int64) (u1 : Int64) (u2 : Int32) (u3 : Int32) (u4 : Int32) (u5 : Int32) : entryFrame m #[(.long u0), (.long u1), (.int u2), (.int u3), (.int u4), (.int u5)] maxLocals = mkF m 0 #[.val (.long u0), .second, .val (.long u1), .second, iv u2, iv u3, iv u4, iv u5, .unset, .unset, .unset, .unset, .unset, .unset, .unset, .unset, .unset, .unset, .unset, .unset, .unset, .unset, .unset, .unset, .unset, .unset, .unset, .unset, .unset, .unset, .unset, .unset, .unset, .unset] [] := by first | (simp [entryFrame, mkF, argsToLocals, Value.category, maxLocals]; done) | rfl
set_option maxRecDepth 65536 in
set_option maxHeartbeats 40000000 in
theorem rm0 (l : Launch) (Z : State) (a0 : Array Value) (hw : ∀ d ∈ tables_1, d.before a0 Z = true) (ws : List Jvm.Cond) (u0 : Int64) (u1 : Int64) (u2 : Int32) (u3 : Int32) (u4 : Int32) (u5 : Int32) (ca : Addr) (cc : Cell) (h0 : Heap) (n0 : Nat) (Z0 : n0 ≤ h0.size) (hO : Old Z n0 h0) (hS : Sta Z Z.heap "java/lang/Long$LongCache" "cache" "[Ljava/lang/Long;" (.ref ca)) (hB : Bxs Z ca cc "java/lang/Long" "J" (256 : Int32) (fun j => .long ((j - (128 : Int32)).toInt64))) :
    MetFree l x (head1 (Jvm.Cond.code x code maxLocals ret :: ws) room_1) (fun a U => a = #[(.long u0), (.long u1), (.int u2), (.int u3), (.int u4), (.int u5)] ∧ Z.Warmed39 U.vm ∧ U.heap = h0) (fun _ _ _ _ _ => True) (fun _ U o U' => ∃ v L, o = .returned v ∧ Q0 Z u0 u1 u2 u3 u4 u5 ca cc h0 n0 v U'.heap L ∧ FrameEnd U o U' L room_1.cells room_1.slots) := by
  refine MetFree.of_bodySF (plainFor_of_name pn_0) hisR ?_
  intro p e s m args below meth c s₁ Bd hml0 hP hK
  obtain ⟨rfl, hZ, hh⟩ := hP
  have hx := Bd.exec
  have hby := Bd.bytes
  have hml : c.maxLocals = 34 := hml0
  have hown : s.vm.findClass "com/example/tracewell/tracewell/capture/FlowEqualsPinLaw" = some m.cls := findClass_of_methodNamed Bd.named
  have hnm := (name_of_methodNamed Bd.named Bd.method).1
  have X0 : Stand p l e room_1 s m #[(.long u0), (.long u1), (.int u2), (.int u3), (.int u4), (.int u5)] below meth c s₁ [] 0 0 := Stand.of_body Bd
  have e0 : s₁.heap = h0 := by rw [← hh, Bd.state]; rfl
  have N0 := Fr.nil n0
  have S0 : ∀ t, Steps p.tables e below (s₁.setTop (mkF m 0 #[.val (.long u0), .second, .val (.long u1), .second, iv u2, iv u3, iv u4, iv u5, .unset, .unset, .unset, .unset, .unset, .unset, .unset, .unset, .unset, .unset, .unset, .unset, .unset, .unset, .unset, .unset, .unset, .unset, .unset, .unset, .unset, .unset, .unset, .unset, .unset, .unset] [])) t → Steps p.tables e below (s₁.setTop (entryFrame m #[(.long u0), (.long u1), (.int u2), (.int u3), (.int u4), (.int u5)] maxLocals)) t := fun t k => castTop (ef_rm0 m u0 u1 u2 u3 u4 u5) k
  have S1 : ∀ t, Steps p.tables e below (s₁.setTop (mkF m 4 #[.val (.long u0), .second, .val (.long u1), .second, iv u2, iv u3, iv u4, iv u5, .unset, .unset, .unset, .unset, .unset, .unset, .unset, .unset, .unset, .unset, .unset, .unset, .unset, .unset, .unset, .unset, .unset, .unset, .unset, .unset, .unset, .unset, .unset, .unset, .unset, .unset] [(.int (u4 &&& (1 : Int32)))])) t → Steps p.tables e below (s₁.setTop (entryFrame m #[(.long u0), (.long u1), (.int u2), (.int u3), (.int u4), (.int u5)] maxLocals)) t := by
    intro t k
    refine S0 t ?_
    show Steps p.tables e below (s₁.setTop (mkF m 0 #[.val (.long u0), .second, .val (.long u1), .second, iv u2, iv u3, iv u4, iv u5, .unset, .unset, .unset, .unset, .unset, .unset, .unset, .unset, .unset, .unset, .unset, .unset, .unset, .unset, .unset, .unset, .unset, .unset, .unset, .unset, .unset, .unset, .unset, .unset, .unset, .unset] [])) _
    refine XS.iload X0.here hx rfl (hb hby at_0) rfl ?_
    show Steps p.tables e below (s₁.setTop (mkF m 2 #[.val (.long u0), .second, .val (.long u1), .second, iv u2, iv u3, iv u4, iv u5, .unset, .unset, .unset, .unset, .unset, .unset, .unset, .unset, .unset, .unset, .unset, .unset, .unset, .unset, .unset, .unset, .unset, .unset, .unset, .unset, .unset, .unset, .unset, .unset, .unset, .unset] [(.int u4)])) _
    refine XS.iconst X0.here hx rfl (hb hby at_2) ?_
    show Steps p.tables e below (s₁.setTop (mkF m 3 #[.val (.long u0), .second, .val (.long u1), .second, iv u2, iv u3, iv u4, iv u5, .unset, .unset, .unset, .unset, .unset, .unset, .unset, .unset, .unset, .unset, .unset, .unset, .unset, .unset, .unset, .unset, .unset, .unset, .unset, .unset, .unset, .unset, .unset, .unset, .unset, .unset] [(.int (1 : Int32)), (.int u4)])) _
    refine XS.iand X0.here hx rfl (hb hby at_3) rfl ?_
    exact k
  obtain ⟨ix, e_ix⟩ : ∃ z : Int32, z = (if (u4 &&& (1 : Int32)) = (0 : Int32) then (0 : Int32) else (1 : Int32)) := ⟨_, rfl⟩
  have S3 : ∀ t, Steps p.tables e below (s₁.setTop (mkF m 12 #[.val (.long u0), .second, .val (.long u1), .second, iv u2, iv u3, iv u4, iv u5, .unset, .unset, .unset, .unset, .unset, .unset, .unset, .unset, .unset, .unset, .unset, .unset, .unset, .unset, .unset, .unset, .unset, .unset, .unset, .unset, .unset, .unset, .unset, .unset, .unset, .unset] [(.int ix)])) t → Steps p.tables e below (s₁.setTop (entryFrame m #[(.long u0), (.long u1), (.int u2), (.int u3), (.int u4), (.int u5)] maxLocals)) t := by
    intro t k
    refine S1 t ?_
    by_cases hd2 : (u4 &&& (1 : Int32)) = (0 : Int32)
    · skip
      rw [show ix = (0 : Int32) from by rw [e_ix, if_pos hd2]] at k
      show Steps p.tables e below (s₁.setTop (mkF m 4 #[.val (.long u0), .second, .val (.long u1), .second, iv u2, iv u3, iv u4, iv u5, .unset, .unset, .unset, .unset, .unset, .unset, .unset, .unset, .unset, .unset, .unset, .unset, .unset, .unset, .unset, .unset, .unset, .unset, .unset, .unset, .unset, .unset, .unset, .unset, .unset, .unset] [(.int (u4 &&& (1 : Int32)))])) _
      refine XS.ifYes X0.here hx rfl (pc0 := 4) (pc' := 11) rfl (hb hby at_4) rfl ((if0 _ _).trans (teq hd2).1) (by decide) (by decide) ?_
      show Steps p.tables e below (s₁.setTop (mkF m 11 #[.val (.long u0), .second, .val (.long u1), .second, iv u2, iv u3, iv u4, iv u5, .unset, .unset, .unset, .unset, .unset, .unset, .unset, .unset, .unset, .unset, .unset, .unset, .unset, .unset, .unset, .unset, .unset, .unset, .unset, .unset, .unset, .unset, .unset, .unset, .unset, .unset] [])) _
      refine XS.iconst X0.here hx rfl (hb hby at_11) ?_
      exact k
    · skip
      rw [show ix = (1 : Int32) from by rw [e_ix, if_neg hd2]] at k
      show Steps p.tables e below (s₁.setTop (mkF m 4 #[.val (.long u0), .second, .val (.long u1), .second, iv u2, iv u3, iv u4, iv u5, .unset, .unset, .unset, .unset, .unset, .unset, .unset, .unset, .unset, .unset, .unset, .unset, .unset, .unset, .unset, .unset, .unset, .unset, .unset, .unset, .unset, .unset, .unset, .unset, .unset, .unset] [(.int (u4 &&& (1 : Int32)))])) _
      refine XS.ifNo X0.here hx rfl (hb hby at_4) rfl ((if0 _ _).trans (feq hd2).1) ?_
      show Steps p.tables e below (s₁.setTop (mkF m 7 #[.val (.long u0), .second, .val (.long u1), .second, iv u2, iv u3, iv u4, iv u5, .unset, .unset, .unset, .unset, .unset, .unset, .unset, .unset, .unset, .unset, .unset, .unset, .unset, .unset, .unset, .unset, .unset, .unset, .unset, .unset, .unset, .unset, .unset, .unset, .unset, .unset] [])) _
      refine XS.iconst X0.here hx rfl (hb hby at_7) ?_
      show Steps p.tables e below (s₁.setTop (mkF m 8 #[.val (.long u0), .second, .val (.long u1), .second, iv u2, iv u3, iv u4, iv u5, .unset, .unset, .unset, .unset, .unset, .unset, .unset, .unset, .unset, .unset, .unset, .unset, .unset, .unset, .unset, .unset, .unset, .unset, .unset, .unset, .unset, .unset, .unset, .unset, .unset, .unset] [(.int (1 : Int32))])) _
      refine XS.goto X0.here hx rfl (pc0 := 8) (pc' := 12) rfl (hb hby at_8) (by decide) (by decide) ?_
      exact k
  have S4 : ∀ t, Steps p.tables e below (s₁.setTop (mkF m 18 #[.val (.long u0), .second, .val (.long u1), .second, iv u2, iv u3, iv u4, iv u5, iv ix, .unset, .unset, .unset, .unset, .unset, .unset, .unset, .unset, .unset, .unset, .unset, .unset, .unset, .unset, .unset, .unset, .unset, .unset, .unset, .unset, .unset, .unset, .unset, .unset, .unset] [(.int (u4 &&& (2 : Int32)))])) t → Steps p.tables e below (s₁.setTop (entryFrame m #[(.long u0), (.long u1), (.int u2), (.int u3), (.int u4), (.int u5)] maxLocals)) t := by
    intro t k
    refine S3 t ?_
    show Steps p.tables e below (s₁.setTop (mkF m 12 #[.val (.long u0), .second, .val (.long u1), .second, iv u2, iv u3, iv u4, iv u5, .unset, .unset, .unset, .unset, .unset, .unset, .unset, .unset, .unset, .unset, .unset, .unset, .unset, .unset, .unset, .unset, .unset, .unset, .unset, .unset, .unset, .unset, .unset, .unset, .unset, .unset] [(.int ix)])) _
    refine XS.istore X0.here hx rfl (hb hby at_12) rfl (l' := #[.val (.long u0), .second, .val (.long u1), .second, iv u2, iv u3, iv u4, iv u5, iv ix, .unset, .unset, .unset, .unset, .unset, .unset, .unset, .unset, .unset, .unset, .unset, .unset, .unset, .unset, .unset, .unset, .unset, .unset, .unset, .unset, .unset, .unset, .unset, .unset, .unset]) rfl ?_
    show Steps p.tables e below (s₁.setTop (mkF m 14 #[.val (.long u0), .second, .val (.long u1), .second, iv u2, iv u3, iv u4, iv u5, iv ix, .unset, .unset, .unset, .unset, .unset, .unset, .unset, .unset, .unset, .unset, .unset, .unset, .unset, .unset, .unset, .unset, .unset, .unset, .unset, .unset, .unset, .unset, .unset, .unset, .unset] [])) _
    refine XS.iload X0.here hx rfl (hb hby at_14) rfl ?_
    show Steps p.tables e below (s₁.setTop (mkF m 16 #[.val (.long u0), .second, .val (.long u1), .second, iv u2, iv u3, iv u4, iv u5, iv ix, .unset, .unset, .unset, .unset, .unset, .unset, .unset, .unset, .unset, .unset, .unset, .unset, .unset, .unset, .unset, .unset, .unset, .unset, .unset, .unset, .unset, .unset, .unset, .unset, .unset] [(.int u4)])) _
    refine XS.iconst X0.here hx rfl (hb hby at_16) ?_
    show Steps p.tables e below (s₁.setTop (mkF m 17 #[.val (.long u0), .second, .val (.long u1), .second, iv u2, iv u3, iv u4, iv u5, iv ix, .unset, .unset, .unset, .unset, .unset, .unset, .unset, .unset, .unset, .unset, .unset, .unset, .unset, .unset, .unset, .unset, .unset, .unset, .unset, .unset, .unset, .unset, .unset, .unset, .unset] [(.int (2 : Int32)), (.int u4)])) _
    refine XS.iand X0.here hx rfl (hb hby at_17) rfl ?_
    exact k
  obtain ⟨iy, e_iy⟩ : ∃ z : Int32, z = (if (u4 &&& (2 : Int32)) = (0 : Int32) then (0 : Int32) else (1 : Int32)) := ⟨_, rfl⟩
  have S6 : ∀ t, Steps p.tables e below (s₁.setTop (mkF m 26 #[.val (.long u0), .second, .val (.long u1), .second, iv u2, iv u3, iv u4, iv u5, iv ix, .unset, .unset, .unset, .unset, .unset, .unset, .unset, .unset, .unset, .unset, .unset, .unset, .unset, .unset, .unset, .unset, .unset, .unset, .unset, .unset, .unset, .unset, .unset, .unset, .unset] [(.int iy)])) t → Steps p.tables e below (s₁.setTop (entryFrame m #[(.long u0), (.long u1), (.int u2), (.int u3), (.int u4), (.int u5)] maxLocals)) t := by
    intro t k
    refine S4 t ?_
    by_cases hd5 : (u4 &&& (2 : Int32)) = (0 : Int32)
    · skip
      rw [show iy = (0 : Int32) from by rw [e_iy, if_pos hd5]] at k
      show Steps p.tables e below (s₁.setTop (mkF m 18 #[.val (.long u0), .second, .val (.long u1), .second, iv u2, iv u3, iv u4, iv u5, iv ix, .unset, .unset, .unset, .unset, .unset, .unset, .unset, .unset, .unset, .unset, .unset, .unset, .unset, .unset, .unset, .unset, .unset, .unset, .unset, .unset, .unset, .unset, .unset, .unset, .unset] [(.int (u4 &&& (2 : Int32)))])) _
      refine XS.ifYes X0.here hx rfl (pc0 := 18) (pc' := 25) rfl (hb hby at_18) rfl ((if0 _ _).trans (teq hd5).1) (by decide) (by decide) ?_
      show Steps p.tables e below (s₁.setTop (mkF m 25 #[.val (.long u0), .second, .val (.long u1), .second, iv u2, iv u3, iv u4, iv u5, iv ix, .unset, .unset, .unset, .unset, .unset, .unset, .unset, .unset, .unset, .unset, .unset, .unset, .unset, .unset, .unset, .unset, .unset, .unset, .unset, .unset, .unset, .unset, .unset, .unset, .unset] [])) _
      refine XS.iconst X0.here hx rfl (hb hby at_25) ?_
      exact k
    · skip
      rw [show iy = (1 : Int32) from by rw [e_iy, if_neg hd5]] at k
      show Steps p.tables e below (s₁.setTop (mkF m 18 #[.val (.long u0), .second, .val (.long u1), .second, iv u2, iv u3, iv u4, iv u5, iv ix, .unset, .unset, .unset, .unset, .unset, .unset, .unset, .unset, .unset, .unset, .unset, .unset, .unset, .unset, .unset, .unset, .unset, .unset, .unset, .unset, .unset, .unset, .unset, .unset, .unset] [(.int (u4 &&& (2 : Int32)))])) _
      refine XS.ifNo X0.here hx rfl (hb hby at_18) rfl ((if0 _ _).trans (feq hd5).1) ?_
      show Steps p.tables e below (s₁.setTop (mkF m 21 #[.val (.long u0), .second, .val (.long u1), .second, iv u2, iv u3, iv u4, iv u5, iv ix, .unset, .unset, .unset, .unset, .unset, .unset, .unset, .unset, .unset, .unset, .unset, .unset, .unset, .unset, .unset, .unset, .unset, .unset, .unset, .unset, .unset, .unset, .unset, .unset, .unset] [])) _
      refine XS.iconst X0.here hx rfl (hb hby at_21) ?_
      show Steps p.tables e below (s₁.setTop (mkF m 22 #[.val (.long u0), .second, .val (.long u1), .second, iv u2, iv u3, iv u4, iv u5, iv ix, .unset, .unset, .unset, .unset, .unset, .unset, .unset, .unset, .unset, .unset, .unset, .unset, .unset, .unset, .unset, .unset, .unset, .unset, .unset, .unset, .unset, .unset, .unset, .unset, .unset] [(.int (1 : Int32))])) _
      refine XS.goto X0.here hx rfl (pc0 := 22) (pc' := 26) rfl (hb hby at_22) (by decide) (by decide) ?_
      exact k
  have S7 : ∀ t, Steps p.tables e below (s₁.setTop (mkF m 36 #[.val (.long u0), .second, .val (.long u1), .second, iv u2, iv u3, iv u4, iv u5, iv ix, iv iy, iv (((u4.toUInt32 >>> ((2 : Int32) &&& 31).toUInt32).toInt32) &&& (3 : Int32)), .unset, .unset, .unset, .unset, .unset, .unset, .unset, .unset, .unset, .unset, .unset, .unset, .unset, .unset, .unset, .unset, .unset, .unset, .unset, .unset, .unset, .unset, .unset] [])) t → Steps p.tables e below (s₁.setTop (entryFrame m #[(.long u0), (.long u1), (.int u2), (.int u3), (.int u4), (.int u5)] maxLocals)) t := by
    intro t k
    refine S6 t ?_
    show Steps p.tables e below (s₁.setTop (mkF m 26 #[.val (.long u0), .second, .val (.long u1), .second, iv u2, iv u3, iv u4, iv u5, iv ix, .unset, .unset, .unset, .unset, .unset, .unset, .unset, .unset, .unset, .unset, .unset, .unset, .unset, .unset, .unset, .unset, .unset, .unset, .unset, .unset, .unset, .unset, .unset, .unset, .unset] [(.int iy)])) _
    refine XS.istore X0.here hx rfl (hb hby at_26) rfl (l' := #[.val (.long u0), .second, .val (.long u1), .second, iv u2, iv u3, iv u4, iv u5, iv ix, iv iy, .unset, .unset, .unset, .unset, .unset, .unset, .unset, .unset, .unset, .unset, .unset, .unset, .unset, .unset, .unset, .unset, .unset, .unset, .unset, .unset, .unset, .unset, .unset, .unset]) rfl ?_
    show Steps p.tables e below (s₁.setTop (mkF m 28 #[.val (.long u0), .second, .val (.long u1), .second, iv u2, iv u3, iv u4, iv u5, iv ix, iv iy, .unset, .unset, .unset, .unset, .unset, .unset, .unset, .unset, .unset, .unset, .unset, .unset, .unset, .unset, .unset, .unset, .unset, .unset, .unset, .unset, .unset, .unset, .unset, .unset] [])) _
    refine XS.iload X0.here hx rfl (hb hby at_28) rfl ?_
    show Steps p.tables e below (s₁.setTop (mkF m 30 #[.val (.long u0), .second, .val (.long u1), .second, iv u2, iv u3, iv u4, iv u5, iv ix, iv iy, .unset, .unset, .unset, .unset, .unset, .unset, .unset, .unset, .unset, .unset, .unset, .unset, .unset, .unset, .unset, .unset, .unset, .unset, .unset, .unset, .unset, .unset, .unset, .unset] [(.int u4)])) _
    refine XS.iconst X0.here hx rfl (hb hby at_30) ?_
    show Steps p.tables e below (s₁.setTop (mkF m 31 #[.val (.long u0), .second, .val (.long u1), .second, iv u2, iv u3, iv u4, iv u5, iv ix, iv iy, .unset, .unset, .unset, .unset, .unset, .unset, .unset, .unset, .unset, .unset, .unset, .unset, .unset, .unset, .unset, .unset, .unset, .unset, .unset, .unset, .unset, .unset, .unset, .unset] [(.int (2 : Int32)), (.int u4)])) _
    refine XS.iushr X0.here hx rfl (hb hby at_31) rfl ?_
    show Steps p.tables e below (s₁.setTop (mkF m 32 #[.val (.long u0), .second, .val (.long u1), .second, iv u2, iv u3, iv u4, iv u5, iv ix, iv iy, .unset, .unset, .unset, .unset, .unset, .unset, .unset, .unset, .unset, .unset, .unset, .unset, .unset, .unset, .unset, .unset, .unset, .unset, .unset, .unset, .unset, .unset, .unset, .unset] [(.int ((u4.toUInt32 >>> ((2 : Int32) &&& 31).toUInt32).toInt32))])) _
    refine XS.iconst X0.here hx rfl (hb hby at_32) ?_
    show Steps p.tables e below (s₁.setTop (mkF m 33 #[.val (.long u0), .second, .val (.long u1), .second, iv u2, iv u3, iv u4, iv u5, iv ix, iv iy, .unset, .unset, .unset, .unset, .unset, .unset, .unset, .unset, .unset, .unset, .unset, .unset, .unset, .unset, .unset, .unset, .unset, .unset, .unset, .unset, .unset, .unset, .unset, .unset] [(.int (3 : Int32)), (.int ((u4.toUInt32 >>> ((2 : Int32) &&& 31).toUInt32).toInt32))])) _
    refine XS.iand X0.here hx rfl (hb hby at_33) rfl ?_
    show Steps p.tables e below (s₁.setTop (mkF m 34 #[.val (.long u0), .second, .val (.long u1), .second, iv u2, iv u3, iv u4, iv u5, iv ix, iv iy, .unset, .unset, .unset, .unset, .unset, .unset, .unset, .unset, .unset, .unset, .unset, .unset, .unset, .unset, .unset, .unset, .unset, .unset, .unset, .unset, .unset, .unset, .unset, .unset] [(.int (((u4.toUInt32 >>> ((2 : Int32) &&& 31).toUInt32).toInt32) &&& (3 : Int32)))])) _
    refine XS.istore X0.here hx rfl (hb hby at_34) rfl (l' := #[.val (.long u0), .second, .val (.long u1), .second, iv u2, iv u3, iv u4, iv u5, iv ix, iv iy, iv (((u4.toUInt32 >>> ((2 : Int32) &&& 31).toUInt32).toInt32) &&& (3 : Int32)), .unset, .unset, .unset, .unset, .unset, .unset, .unset, .unset, .unset, .unset, .unset, .unset, .unset, .unset, .unset, .unset, .unset, .unset, .unset, .unset, .unset, .unset, .unset]) rfl ?_
    exact k
  obtain ⟨kd, e_kd⟩ : ∃ z : Int32, z = (((u4.toUInt32 >>> ((2 : Int32) &&& 31).toUInt32).toInt32) &&& (3 : Int32)) := ⟨_, rfl⟩
  rw [← e_kd] at S7
  obtain ⟨_, _, ⟨T8, L8, k8, n8⟩, -, X8, ⟨Lc8, hQ8, l8, y8, z8⟩, st8⟩ := Jvm.LawKit.callS X0 hx (y := (⟨"com/example/tracewell/tracewell/capture/FlowEqualsPinLaw", "pickL", "(IIJJ)J"⟩ : MethodName)) hown (mvT hZ (hw _ (List.mem_of_getElem? (i := 0) rfl))) (mvT hZ (hw _ (List.mem_of_getElem? (i := 1) rfl))) (mvT hZ (hw _ (List.mem_of_getElem? (i := 2) rfl))) (mvT hZ (hw _ (List.mem_of_getElem? (i := 3) rfl))) (by decide) (backOf (W := 0) (rm1 l Z a0 hw [] u5 (0 : Int32) u0 u1 h0 n0 Z0) hZ (hw _ (List.mem_of_getElem? (i := 3) rfl)) (hw _ (List.mem_of_getElem? (i := 2) rfl)) (by decide) (by decide)) (g := (mkF m 41 #[.val (.long u0), .second, .val (.long u1), .second, iv u2, iv u3, iv u4, iv u5, iv ix, iv iy, iv kd, .unset, .unset, .unset, .unset, .unset, .unset, .unset, .unset, .unset, .unset, .unset, .unset, .unset, .unset, .unset, .unset, .unset, .unset, .unset, .unset, .unset, .unset, .unset] [(.long u1), (.long u0), (.int (0 : Int32)), (.int u5)])) rfl (by rw [hml]; rfl) (argsL := [(.int u5), (.int (0 : Int32)), (.long u0), (.long u1)]) (rest := []) (lenOf pd_2 rfl) rfl (by show 2 * 0 + _ ≤ _; exact Nat.le_of_eq rfl) (hb hby at_41) (fun _ _ => ⟨rfl, e0, (by decide : 0 + 0 ≤ _), (by decide : 0 + 0 ≤ _)⟩)
  dsimp only [Pt.U, Pt.locs, Pt.cells, Pt.slots] at X8 l8 y8 z8 st8 hQ8
  subst l8 y8 z8
  obtain ⟨rfl, Nq8, eq8⟩ := hQ8
  have N8 := Fr.app N0 Nq8
  have S9 : ∀ t, Steps p.tables e below (T8.setTop (mkF m 46 #[.val (.long u0), .second, .val (.long u1), .second, iv u2, iv u3, iv u4, iv u5, iv ix, iv iy, iv kd, .val (.long (own_pL u5 (0 : Int32) u0 u1)), .second, .unset, .unset, .unset, .unset, .unset, .unset, .unset, .unset, .unset, .unset, .unset, .unset, .unset, .unset, .unset, .unset, .unset, .unset, .unset, .unset, .unset] [])) t → Steps p.tables e below (s₁.setTop (entryFrame m #[(.long u0), (.long u1), (.int u2), (.int u3), (.int u4), (.int u5)] maxLocals)) t := by
    intro t k
    refine S7 t ?_
    show Steps p.tables e below (s₁.setTop (mkF m 36 #[.val (.long u0), .second, .val (.long u1), .second, iv u2, iv u3, iv u4, iv u5, iv ix, iv iy, iv kd, .unset, .unset, .unset, .unset, .unset, .unset, .unset, .unset, .unset, .unset, .unset, .unset, .unset, .unset, .unset, .unset, .unset, .unset, .unset, .unset, .unset, .unset, .unset] [])) _
    refine XS.iload X0.here hx rfl (hb hby at_36) rfl ?_
    show Steps p.tables e below (s₁.setTop (mkF m 38 #[.val (.long u0), .second, .val (.long u1), .second, iv u2, iv u3, iv u4, iv u5, iv ix, iv iy, iv kd, .unset, .unset, .unset, .unset, .unset, .unset, .unset, .unset, .unset, .unset, .unset, .unset, .unset, .unset, .unset, .unset, .unset, .unset, .unset, .unset, .unset, .unset, .unset] [(.int u5)])) _
    refine XS.iconst X0.here hx rfl (hb hby at_38) ?_
    show Steps p.tables e below (s₁.setTop (mkF m 39 #[.val (.long u0), .second, .val (.long u1), .second, iv u2, iv u3, iv u4, iv u5, iv ix, iv iy, iv kd, .unset, .unset, .unset, .unset, .unset, .unset, .unset, .unset, .unset, .unset, .unset, .unset, .unset, .unset, .unset, .unset, .unset, .unset, .unset, .unset, .unset, .unset, .unset] [(.int (0 : Int32)), (.int u5)])) _
    refine XS.lloadN X0.here hx rfl (hb hby at_39) rfl ?_
    show Steps p.tables e below (s₁.setTop (mkF m 40 #[.val (.long u0), .second, .val (.long u1), .second, iv u2, iv u3, iv u4, iv u5, iv ix, iv iy, iv kd, .unset, .unset, .unset, .unset, .unset, .unset, .unset, .unset, .unset, .unset, .unset, .unset, .unset, .unset, .unset, .unset, .unset, .unset, .unset, .unset, .unset, .unset, .unset] [(.long u0), (.int (0 : Int32)), (.int u5)])) _
    refine XS.lloadN X0.here hx rfl (hb hby at_40) rfl ?_
    show Steps p.tables e below (s₁.setTop (mkF m 41 #[.val (.long u0), .second, .val (.long u1), .second, iv u2, iv u3, iv u4, iv u5, iv ix, iv iy, iv kd, .unset, .unset, .unset, .unset, .unset, .unset, .unset, .unset, .unset, .unset, .unset, .unset, .unset, .unset, .unset, .unset, .unset, .unset, .unset, .unset, .unset, .unset, .unset] [(.long u1), (.long u0), (.int (0 : Int32)), (.int u5)])) _
    refine st8 _ ?_
    show Steps p.tables e below (T8.setTop (mkF m 44 #[.val (.long u0), .second, .val (.long u1), .second, iv u2, iv u3, iv u4, iv u5, iv ix, iv iy, iv kd, .unset, .unset, .unset, .unset, .unset, .unset, .unset, .unset, .unset, .unset, .unset, .unset, .unset, .unset, .unset, .unset, .unset, .unset, .unset, .unset, .unset, .unset, .unset] [(.long (own_pL u5 (0 : Int32) u0 u1))])) _
    refine XS.lstore X8.here hx rfl (hb hby at_44) rfl (l' := #[.val (.long u0), .second, .val (.long u1), .second, iv u2, iv u3, iv u4, iv u5, iv ix, iv iy, iv kd, .val (.long (own_pL u5 (0 : Int32) u0 u1)), .second, .unset, .unset, .unset, .unset, .unset, .unset, .unset, .unset, .unset, .unset, .unset, .unset, .unset, .unset, .unset, .unset, .unset, .unset, .unset, .unset, .unset]) rfl ?_
    exact k
  obtain ⟨xa, e_xa⟩ : ∃ z : Int64, z = (own_pL u5 (0 : Int32) u0 u1) := ⟨_, rfl⟩
  rw [← e_xa] at S9
  obtain ⟨_, _, ⟨T10, L10, k10, n10⟩, -, X10, ⟨Lc10, hQ10, l10, y10, z10⟩, st10⟩ := Jvm.LawKit.callS X8 hx (y := (⟨"com/example/tracewell/tracewell/capture/FlowEqualsPinLaw", "pickL", "(IIJJ)J"⟩ : MethodName)) hown (mvT hZ (hw _ (List.mem_of_getElem? (i := 0) rfl))) (mvT hZ (hw _ (List.mem_of_getElem? (i := 1) rfl))) (mvT hZ (hw _ (List.mem_of_getElem? (i := 2) rfl))) (mvT hZ (hw _ (List.mem_of_getElem? (i := 3) rfl))) (by decide) (backOf (W := 0) (rm1 l Z a0 hw [] u5 (1 : Int32) u0 u1 h0 n0 Z0) hZ (hw _ (List.mem_of_getElem? (i := 3) rfl)) (hw _ (List.mem_of_getElem? (i := 2) rfl)) (by decide) (by decide)) (g := (mkF m 51 #[.val (.long u0), .second, .val (.long u1), .second, iv u2, iv u3, iv u4, iv u5, iv ix, iv iy, iv kd, .val (.long xa), .second, .unset, .unset, .unset, .unset, .unset, .unset, .unset, .unset, .unset, .unset, .unset, .unset, .unset, .unset, .unset, .unset, .unset, .unset, .unset, .unset, .unset] [(.long u1), (.long u0), (.int (1 : Int32)), (.int u5)])) rfl (by rw [hml]; rfl) (argsL := [(.int u5), (.int (1 : Int32)), (.long u0), (.long u1)]) (rest := []) (lenOf pd_2 rfl) rfl (by show 2 * 0 + _ ≤ _; exact Nat.le_of_eq rfl) (hb hby at_51) (fun _ _ => ⟨rfl, eq8, (by decide : 0 + 0 ≤ _), (by decide : 0 + 0 ≤ _)⟩)
  dsimp only [Pt.U, Pt.locs, Pt.cells, Pt.slots] at X10 l10 y10 z10 st10 hQ10
  subst l10 y10 z10
  obtain ⟨rfl, Nq10, eq10⟩ := hQ10
  have N10 := Fr.app N8 Nq10
  have S11 : ∀ t, Steps p.tables e below (T10.setTop (mkF m 56 #[.val (.long u0), .second, .val (.long u1), .second, iv u2, iv u3, iv u4, iv u5, iv ix, iv iy, iv kd, .val (.long xa), .second, .val (.long (own_pL u5 (1 : Int32) u0 u1)), .second, .unset, .unset, .unset, .unset, .unset, .unset, .unset, .unset, .unset, .unset, .unset, .unset, .unset, .unset, .unset, .unset, .unset, .unset, .unset] [])) t → Steps p.tables e below (s₁.setTop (entryFrame m #[(.long u0), (.long u1), (.int u2), (.int u3), (.int u4), (.int u5)] maxLocals)) t := by
    intro t k
    refine S9 t ?_
    show Steps p.tables e below (T8.setTop (mkF m 46 #[.val (.long u0), .second, .val (.long u1), .second, iv u2, iv u3, iv u4, iv u5, iv ix, iv iy, iv kd, .val (.long xa), .second, .unset, .unset, .unset, .unset, .unset, .unset, .unset, .unset, .unset, .unset, .unset, .unset, .unset, .unset, .unset, .unset, .unset, .unset, .unset, .unset, .unset] [])) _
    refine XS.iload X8.here hx rfl (hb hby at_46) rfl ?_
    show Steps p.tables e below (T8.setTop (mkF m 48 #[.val (.long u0), .second, .val (.long u1), .second, iv u2, iv u3, iv u4, iv u5, iv ix, iv iy, iv kd, .val (.long xa), .second, .unset, .unset, .unset, .unset, .unset, .unset, .unset, .unset, .unset, .unset, .unset, .unset, .unset, .unset, .unset, .unset, .unset, .unset, .unset, .unset, .unset] [(.int u5)])) _
    refine XS.iconst X8.here hx rfl (hb hby at_48) ?_
    show Steps p.tables e below (T8.setTop (mkF m 49 #[.val (.long u0), .second, .val (.long u1), .second, iv u2, iv u3, iv u4, iv u5, iv ix, iv iy, iv kd, .val (.long xa), .second, .unset, .unset, .unset, .unset, .unset, .unset, .unset, .unset, .unset, .unset, .unset, .unset, .unset, .unset, .unset, .unset, .unset, .unset, .unset, .unset, .unset] [(.int (1 : Int32)), (.int u5)])) _
    refine XS.lloadN X8.here hx rfl (hb hby at_49) rfl ?_
    show Steps p.tables e below (T8.setTop (mkF m 50 #[.val (.long u0), .second, .val (.long u1), .second, iv u2, iv u3, iv u4, iv u5, iv ix, iv iy, iv kd, .val (.long xa), .second, .unset, .unset, .unset, .unset, .unset, .unset, .unset, .unset, .unset, .unset, .unset, .unset, .unset, .unset, .unset, .unset, .unset, .unset, .unset, .unset, .unset] [(.long u0), (.int (1 : Int32)), (.int u5)])) _
    refine XS.lloadN X8.here hx rfl (hb hby at_50) rfl ?_
    show Steps p.tables e below (T8.setTop (mkF m 51 #[.val (.long u0), .second, .val (.long u1), .second, iv u2, iv u3, iv u4, iv u5, iv ix, iv iy, iv kd, .val (.long xa), .second, .unset, .unset, .unset, .unset, .unset, .unset, .unset, .unset, .unset, .unset, .unset, .unset, .unset, .unset, .unset, .unset, .unset, .unset, .unset, .unset, .unset] [(.long u1), (.long u0), (.int (1 : Int32)), (.int u5)])) _
    refine st10 _ ?_
    show Steps p.tables e below (T10.setTop (mkF m 54 #[.val (.long u0), .second, .val (.long u1), .second, iv u2, iv u3, iv u4, iv u5, iv ix, iv iy, iv kd, .val (.long xa), .second, .unset, .unset, .unset, .unset, .unset, .unset, .unset, .unset, .unset, .unset, .unset, .unset, .unset, .unset, .unset, .unset, .unset, .unset, .unset, .unset, .unset] [(.long (own_pL u5 (1 : Int32) u0 u1))])) _
    refine XS.lstore X10.here hx rfl (hb hby at_54) rfl (l' := #[.val (.long u0), .second, .val (.long u1), .second, iv u2, iv u3, iv u4, iv u5, iv ix, iv iy, iv kd, .val (.long xa), .second, .val (.long (own_pL u5 (1 : Int32) u0 u1)), .second, .unset, .unset, .unset, .unset, .unset, .unset, .unset, .unset, .unset, .unset, .unset, .unset, .unset, .unset, .unset, .unset, .unset, .unset, .unset]) rfl ?_
    exact k
  obtain ⟨xb, e_xb⟩ : ∃ z : Int64, z = (own_pL u5 (1 : Int32) u0 u1) := ⟨_, rfl⟩
  rw [← e_xb] at S11
  obtain ⟨_, _, ⟨T12, L12, k12, n12⟩, -, X12, ⟨Lc12, hQ12, l12, y12, z12⟩, st12⟩ := Jvm.LawKit.callS X10 hx (y := (⟨"com/example/tracewell/tracewell/capture/FlowEqualsPinLaw", "pickI", "(IIII)I"⟩ : MethodName)) hown (mvT hZ (hw _ (List.mem_of_getElem? (i := 4) rfl))) (mvT hZ (hw _ (List.mem_of_getElem? (i := 5) rfl))) (mvT hZ (hw _ (List.mem_of_getElem? (i := 2) rfl))) (mvT hZ (hw _ (List.mem_of_getElem? (i := 6) rfl))) (by decide) (backOf (W := 0) (rm2 l Z a0 hw [] u5 (2 : Int32) u2 u3 h0 n0 Z0) hZ (hw _ (List.mem_of_getElem? (i := 6) rfl)) (hw _ (List.mem_of_getElem? (i := 2) rfl)) (by decide) (by decide)) (g := (mkF m 63 #[.val (.long u0), .second, .val (.long u1), .second, iv u2, iv u3, iv u4, iv u5, iv ix, iv iy, iv kd, .val (.long xa), .second, .val (.long xb), .second, .unset, .unset, .unset, .unset, .unset, .unset, .unset, .unset, .unset, .unset, .unset, .unset, .unset, .unset, .unset, .unset, .unset, .unset, .unset] [(.int u3), (.int u2), (.int (2 : Int32)), (.int u5)])) rfl (by rw [hml]; rfl) (argsL := [(.int u5), (.int (2 : Int32)), (.int u2), (.int u3)]) (rest := []) (lenOf pd_3 rfl) rfl (by show 2 * 0 + _ ≤ _; exact Nat.le_of_eq rfl) (hb hby at_63) (fun _ _ => ⟨rfl, eq10, (by decide : 0 + 0 ≤ _), (by decide : 0 + 0 ≤ _)⟩)
  dsimp only [Pt.U, Pt.locs, Pt.cells, Pt.slots] at X12 l12 y12 z12 st12 hQ12
  subst l12 y12 z12
  obtain ⟨rfl, Nq12, eq12⟩ := hQ12
  have N12 := Fr.app N10 Nq12
  have S13 : ∀ t, Steps p.tables e below (T12.setTop (mkF m 68 #[.val (.long u0), .second, .val (.long u1), .second, iv u2, iv u3, iv u4, iv u5, iv ix, iv iy, iv kd, .val (.long xa), .second, .val (.long xb), .second, iv (own_pI u5 (2 : Int32) u2 u3), .unset, .unset, .unset, .unset, .unset, .unset, .unset, .unset, .unset, .unset, .unset, .unset, .unset, .unset, .unset, .unset, .unset, .unset] [])) t → Steps p.tables e below (s₁.setTop (entryFrame m #[(.long u0), (.long u1), (.int u2), (.int u3), (.int u4), (.int u5)] maxLocals)) t := by
    intro t k
    refine S11 t ?_
    show Steps p.tables e below (T10.setTop (mkF m 56 #[.val (.long u0), .second, .val (.long u1), .second, iv u2, iv u3, iv u4, iv u5, iv ix, iv iy, iv kd, .val (.long xa), .second, .val (.long xb), .second, .unset, .unset, .unset, .unset, .unset, .unset, .unset, .unset, .unset, .unset, .unset, .unset, .unset, .unset, .unset, .unset, .unset, .unset, .unset] [])) _
    refine XS.iload X10.here hx rfl (hb hby at_56) rfl ?_
    show Steps p.tables e below (T10.setTop (mkF m 58 #[.val (.long u0), .second, .val (.long u1), .second, iv u2, iv u3, iv u4, iv u5, iv ix, iv iy, iv kd, .val (.long xa), .second, .val (.long xb), .second, .unset, .unset, .unset, .unset, .unset, .unset, .unset, .unset, .unset, .unset, .unset, .unset, .unset, .unset, .unset, .unset, .unset, .unset, .unset] [(.int u5)])) _
    refine XS.iconst X10.here hx rfl (hb hby at_58) ?_
    show Steps p.tables e below (T10.setTop (mkF m 59 #[.val (.long u0), .second, .val (.long u1), .second, iv u2, iv u3, iv u4, iv u5, iv ix, iv iy, iv kd, .val (.long xa), .second, .val (.long xb), .second, .unset, .unset, .unset, .unset, .unset, .unset, .unset, .unset, .unset, .unset, .unset, .unset, .unset, .unset, .unset, .unset, .unset, .unset, .unset] [(.int (2 : Int32)), (.int u5)])) _
    refine XS.iload X10.here hx rfl (hb hby at_59) rfl ?_
    show Steps p.tables e below (T10.setTop (mkF m 61 #[.val (.long u0), .second, .val (.long u1), .second, iv u2, iv u3, iv u4, iv u5, iv ix, iv iy, iv kd, .val (.long xa), .second, .val (.long xb), .second, .unset, .unset, .unset, .unset, .unset, .unset, .unset, .unset, .unset, .unset, .unset, .unset, .unset, .unset, .unset, .unset, .unset, .unset, .unset] [(.int u2), (.int (2 : Int32)), (.int u5)])) _
    refine XS.iload X10.here hx rfl (hb hby at_61) rfl ?_
    show Steps p.tables e below (T10.setTop (mkF m 63 #[.val (.long u0), .second, .val (.long u1), .second, iv u2, iv u3, iv u4, iv u5, iv ix, iv iy, iv kd, .val (.long xa), .second, .val (.long xb), .second, .unset, .unset, .unset, .unset, .unset, .unset, .unset, .unset, .unset, .unset, .unset, .unset, .unset, .unset, .unset, .unset, .unset, .unset, .unset] [(.int u3), (.int u2), (.int (2 : Int32)), (.int u5)])) _
    refine st12 _ ?_
    show Steps p.tables e below (T12.setTop (mkF m 66 #[.val (.long u0), .second, .val (.long u1), .second, iv u2, iv u3, iv u4, iv u5, iv ix, iv iy, iv kd, .val (.long xa), .second, .val (.long xb), .second, .unset, .unset, .unset, .unset, .unset, .unset, .unset, .unset, .unset, .unset, .unset, .unset, .unset, .unset, .unset, .unset, .unset, .unset, .unset] [(.int (own_pI u5 (2 : Int32) u2 u3))])) _
    refine XS.istore X12.here hx rfl (hb hby at_66) rfl (l' := #[.val (.long u0), .second, .val (.long u1), .second, iv u2, iv u3, iv u4, iv u5, iv ix, iv iy, iv kd, .val (.long xa), .second, .val (.long xb), .second, iv (own_pI u5 (2 : Int32) u2 u3), .unset, .unset, .unset, .unset, .unset, .unset, .unset, .unset, .unset, .unset, .unset, .unset, .unset, .unset, .unset, .unset, .unset, .unset]) rfl ?_
    exact k
  obtain ⟨xc, e_xc⟩ : ∃ z : Int32, z = (own_pI u5 (2 : Int32) u2 u3) := ⟨_, rfl⟩
  rw [← e_xc] at S13
  obtain ⟨_, _, ⟨T14, L14, k14, n14⟩, -, X14, ⟨Lc14, hQ14, l14, y14, z14⟩, st14⟩ := Jvm.LawKit.callS X12 hx (y := (⟨"com/example/tracewell/tracewell/capture/FlowEqualsPinLaw", "pickL", "(IIJJ)J"⟩ : MethodName)) hown (mvT hZ (hw _ (List.mem_of_getElem? (i := 0) rfl))) (mvT hZ (hw _ (List.mem_of_getElem? (i := 1) rfl))) (mvT hZ (hw _ (List.mem_of_getElem? (i := 2) rfl))) (mvT hZ (hw _ (List.mem_of_getElem? (i := 3) rfl))) (by decide) (backOf (W := 0) (rm1 l Z a0 hw [] u5 (3 : Int32) u0 u1 h0 n0 Z0) hZ (hw _ (List.mem_of_getElem? (i := 3) rfl)) (hw _ (List.mem_of_getElem? (i := 2) rfl)) (by decide) (by decide)) (g := (mkF m 73 #[.val (.long u0), .second, .val (.long u1), .second, iv u2, iv u3, iv u4, iv u5, iv ix, iv iy, iv kd, .val (.long xa), .second, .val (.long xb), .second, iv xc, .unset, .unset, .unset, .unset, .unset, .unset, .unset, .unset, .unset, .unset, .unset, .unset, .unset, .unset, .unset, .unset, .unset, .unset] [(.long u1), (.long u0), (.int (3 : Int32)), (.int u5)])) rfl (by rw [hml]; rfl) (argsL := [(.int u5), (.int (3 : Int32)), (.long u0), (.long u1)]) (rest := []) (lenOf pd_2 rfl) rfl (by show 2 * 0 + _ ≤ _; exact Nat.le_of_eq rfl) (hb hby at_73) (fun _ _ => ⟨rfl, eq12, (by decide : 0 + 0 ≤ _), (by decide : 0 + 0 ≤ _)⟩)
  dsimp only [Pt.U, Pt.locs, Pt.cells, Pt.slots] at X14 l14 y14 z14 st14 hQ14
  subst l14 y14 z14
  obtain ⟨rfl, Nq14, eq14⟩ := hQ14
  have N14 := Fr.app N12 Nq14
  have S15 : ∀ t, Steps p.tables e below (T14.setTop (mkF m 78 #[.val (.long u0), .second, .val (.long u1), .second, iv u2, iv u3, iv u4, iv u5, iv ix, iv iy, iv kd, .val (.long xa), .second, .val (.long xb), .second, iv xc, .val (.long (own_pL u5 (3 : Int32) u0 u1)), .second, .unset, .unset, .unset, .unset, .unset, .unset, .unset, .unset, .unset, .unset, .unset, .unset, .unset, .unset, .unset, .unset] [])) t → Steps p.tables e below (s₁.setTop (entryFrame m #[(.long u0), (.long u1), (.int u2), (.int u3), (.int u4), (.int u5)] maxLocals)) t := by
    intro t k
    refine S13 t ?_
    show Steps p.tables e below (T12.setTop (mkF m 68 #[.val (.long u0), .second, .val (.long u1), .second, iv u2, iv u3, iv u4, iv u5, iv ix, iv iy, iv kd, .val (.long xa), .second, .val (.long xb), .second, iv xc, .unset, .unset, .unset, .unset, .unset, .unset, .unset, .unset, .unset, .unset, .unset, .unset, .unset, .unset, .unset, .unset, .unset, .unset] [])) _
    refine XS.iload X12.here hx rfl (hb hby at_68) rfl ?_
    show Steps p.tables e below (T12.setTop (mkF m 70 #[.val (.long u0), .second, .val (.long u1), .second, iv u2, iv u3, iv u4, iv u5, iv ix, iv iy, iv kd, .val (.long xa), .second, .val (.long xb), .second, iv xc, .unset, .unset, .unset, .unset, .unset, .unset, .unset, .unset, .unset, .unset, .unset, .unset, .unset, .unset, .unset, .unset, .unset, .unset] [(.int u5)])) _
    refine XS.iconst X12.here hx rfl (hb hby at_70) ?_
    show Steps p.tables e below (T12.setTop (mkF m 71 #[.val (.long u0), .second, .val (.long u1), .second, iv u2, iv u3, iv u4, iv u5, iv ix, iv iy, iv kd, .val (.long xa), .second, .val (.long xb), .second, iv xc, .unset, .unset, .unset, .unset, .unset, .unset, .unset, .unset, .unset, .unset, .unset, .unset, .unset, .unset, .unset, .unset, .unset, .unset] [(.int (3 : Int32)), (.int u5)])) _
    refine XS.lloadN X12.here hx rfl (hb hby at_71) rfl ?_
    show Steps p.tables e below (T12.setTop (mkF m 72 #[.val (.long u0), .second, .val (.long u1), .second, iv u2, iv u3, iv u4, iv u5, iv ix, iv iy, iv kd, .val (.long xa), .second, .val (.long xb), .second, iv xc, .unset, .unset, .unset, .unset, .unset, .unset, .unset, .unset, .unset, .unset, .unset, .unset, .unset, .unset, .unset, .unset, .unset, .unset] [(.long u0), (.int (3 : Int32)), (.int u5)])) _
    refine XS.lloadN X12.here hx rfl (hb hby at_72) rfl ?_
    show Steps p.tables e below (T12.setTop (mkF m 73 #[.val (.long u0), .second, .val (.long u1), .second, iv u2, iv u3, iv u4, iv u5, iv ix, iv iy, iv kd, .val (.long xa), .second, .val (.long xb), .second, iv xc, .unset, .unset, .unset, .unset, .unset, .unset, .unset, .unset, .unset, .unset, .unset, .unset, .unset, .unset, .unset, .unset, .unset, .unset] [(.long u1), (.long u0), (.int (3 : Int32)), (.int u5)])) _
    refine st14 _ ?_
    show Steps p.tables e below (T14.setTop (mkF m 76 #[.val (.long u0), .second, .val (.long u1), .second, iv u2, iv u3, iv u4, iv u5, iv ix, iv iy, iv kd, .val (.long xa), .second, .val (.long xb), .second, iv xc, .unset, .unset, .unset, .unset, .unset, .unset, .unset, .unset, .unset, .unset, .unset, .unset, .unset, .unset, .unset, .unset, .unset, .unset] [(.long (own_pL u5 (3 : Int32) u0 u1))])) _
    refine XS.lstore X14.here hx rfl (hb hby at_76) rfl (l' := #[.val (.long u0), .second, .val (.long u1), .second, iv u2, iv u3, iv u4, iv u5, iv ix, iv iy, iv kd, .val (.long xa), .second, .val (.long xb), .second, iv xc, .val (.long (own_pL u5 (3 : Int32) u0 u1)), .second, .unset, .unset, .unset, .unset, .unset, .unset, .unset, .unset, .unset, .unset, .unset, .unset, .unset, .unset, .unset, .unset]) rfl ?_
    exact k
  obtain ⟨xd, e_xd⟩ : ∃ z : Int64, z = (own_pL u5 (3 : Int32) u0 u1) := ⟨_, rfl⟩
  rw [← e_xd] at S15
  obtain ⟨_, _, ⟨T16, L16, k16, n16⟩, -, X16, ⟨Lc16, hQ16, l16, y16, z16⟩, st16⟩ := Jvm.LawKit.callS X14 hx (y := (⟨"com/example/tracewell/tracewell/capture/FlowEqualsPinLaw", "pickL", "(IIJJ)J"⟩ : MethodName)) hown (mvT hZ (hw _ (List.mem_of_getElem? (i := 0) rfl))) (mvT hZ (hw _ (List.mem_of_getElem? (i := 1) rfl))) (mvT hZ (hw _ (List.mem_of_getElem? (i := 2) rfl))) (mvT hZ (hw _ (List.mem_of_getElem? (i := 3) rfl))) (by decide) (backOf (W := 0) (rm1 l Z a0 hw [] u5 (4 : Int32) u0 u1 h0 n0 Z0) hZ (hw _ (List.mem_of_getElem? (i := 3) rfl)) (hw _ (List.mem_of_getElem? (i := 2) rfl)) (by decide) (by decide)) (g := (mkF m 83 #[.val (.long u0), .second, .val (.long u1), .second, iv u2, iv u3, iv u4, iv u5, iv ix, iv iy, iv kd, .val (.long xa), .second, .val (.long xb), .second, iv xc, .val (.long xd), .second, .unset, .unset, .unset, .unset, .unset, .unset, .unset, .unset, .unset, .unset, .unset, .unset, .unset, .unset, .unset, .unset] [(.long u1), (.long u0), (.int (4 : Int32)), (.int u5)])) rfl (by rw [hml]; rfl) (argsL := [(.int u5), (.int (4 : Int32)), (.long u0), (.long u1)]) (rest := []) (lenOf pd_2 rfl) rfl (by show 2 * 0 + _ ≤ _; exact Nat.le_of_eq rfl) (hb hby at_83) (fun _ _ => ⟨rfl, eq14, (by decide : 0 + 0 ≤ _), (by decide : 0 + 0 ≤ _)⟩)
  dsimp only [Pt.U, Pt.locs, Pt.cells, Pt.slots] at X16 l16 y16 z16 st16 hQ16
  subst l16 y16 z16
  obtain ⟨rfl, Nq16, eq16⟩ := hQ16
  have N16 := Fr.app N14 Nq16
  have S17 : ∀ t, Steps p.tables e below (T16.setTop (mkF m 88 #[.val (.long u0), .second, .val (.long u1), .second, iv u2, iv u3, iv u4, iv u5, iv ix, iv iy, iv kd, .val (.long xa), .second, .val (.long xb), .second, iv xc, .val (.long xd), .second, .val (.long (own_pL u5 (4 : Int32) u0 u1)), .second, .unset, .unset, .unset, .unset, .unset, .unset, .unset, .unset, .unset, .unset, .unset, .unset, .unset, .unset] [])) t → Steps p.tables e below (s₁.setTop (entryFrame m #[(.long u0), (.long u1), (.int u2), (.int u3), (.int u4), (.int u5)] maxLocals)) t := by
    intro t k
    refine S15 t ?_
    show Steps p.tables e below (T14.setTop (mkF m 78 #[.val (.long u0), .second, .val (.long u1), .second, iv u2, iv u3, iv u4, iv u5, iv ix, iv iy, iv kd, .val (.long xa), .second, .val (.long xb), .second, iv xc, .val (.long xd), .second, .unset, .unset, .unset, .unset, .unset, .unset, .unset, .unset, .unset, .unset, .unset, .unset, .unset, .unset, .unset, .unset] [])) _
    refine XS.iload X14.here hx rfl (hb hby at_78) rfl ?_
    show Steps p.tables e below (T14.setTop (mkF m 80 #[.val (.long u0), .second, .val (.long u1), .second, iv u2, iv u3, iv u4, iv u5, iv ix, iv iy, iv kd, .val (.long xa), .second, .val (.long xb), .second, iv xc, .val (.long xd), .second, .unset, .unset, .unset, .unset, .unset, .unset, .unset, .unset, .unset, .unset, .unset, .unset, .unset, .unset, .unset, .unset] [(.int u5)])) _
    refine XS.iconst X14.here hx rfl (hb hby at_80) ?_
    show Steps p.tables e below (T14.setTop (mkF m 81 #[.val (.long u0), .second, .val (.long u1), .second, iv u2, iv u3, iv u4, iv u5, iv ix, iv iy, iv kd, .val (.long xa), .second, .val (.long xb), .second, iv xc, .val (.long xd), .second, .unset, .unset, .unset, .unset, .unset, .unset, .unset, .unset, .unset, .unset, .unset, .unset, .unset, .unset, .unset, .unset] [(.int (4 : Int32)), (.int u5)])) _
    refine XS.lloadN X14.here hx rfl (hb hby at_81) rfl ?_
    show Steps p.tables e below (T14.setTop (mkF m 82 #[.val (.long u0), .second, .val (.long u1), .second, iv u2, iv u3, iv u4, iv u5, iv ix, iv iy, iv kd, .val (.long xa), .second, .val (.long xb), .second, iv xc, .val (.long xd), .second, .unset, .unset, .unset, .unset, .unset, .unset, .unset, .unset, .unset, .unset, .unset, .unset, .unset, .unset, .unset, .unset] [(.long u0), (.int (4 : Int32)), (.int u5)])) _
    refine XS.lloadN X14.here hx rfl (hb hby at_82) rfl ?_
    show Steps p.tables e below (T14.setTop (mkF m 83 #[.val (.long u0), .second, .val (.long u1), .second, iv u2, iv u3, iv u4, iv u5, iv ix, iv iy, iv kd, .val (.long xa), .second, .val (.long xb), .second, iv xc, .val (.long xd), .second, .unset, .unset, .unset, .unset, .unset, .unset, .unset, .unset, .unset, .unset, .unset, .unset, .unset, .unset, .unset, .unset] [(.long u1), (.long u0), (.int (4 : Int32)), (.int u5)])) _
    refine st16 _ ?_
    show Steps p.tables e below (T16.setTop (mkF m 86 #[.val (.long u0), .second, .val (.long u1), .second, iv u2, iv u3, iv u4, iv u5, iv ix, iv iy, iv kd, .val (.long xa), .second, .val (.long xb), .second, iv xc, .val (.long xd), .second, .unset, .unset, .unset, .unset, .unset, .unset, .unset, .unset, .unset, .unset, .unset, .unset, .unset, .unset, .unset, .unset] [(.long (own_pL u5 (4 : Int32) u0 u1))])) _
    refine XS.lstore X16.here hx rfl (hb hby at_86) rfl (l' := #[.val (.long u0), .second, .val (.long u1), .second, iv u2, iv u3, iv u4, iv u5, iv ix, iv iy, iv kd, .val (.long xa), .second, .val (.long xb), .second, iv xc, .val (.long xd), .second, .val (.long (own_pL u5 (4 : Int32) u0 u1)), .second, .unset, .unset, .unset, .unset, .unset, .unset, .unset, .unset, .unset, .unset, .unset, .unset, .unset, .unset]) rfl ?_
    exact k
  obtain ⟨xe, e_xe⟩ : ∃ z : Int64, z = (own_pL u5 (4 : Int32) u0 u1) := ⟨_, rfl⟩
  rw [← e_xe] at S17
  obtain ⟨_, _, ⟨T18, L18, k18, n18⟩, -, X18, ⟨Lc18, hQ18, l18, y18, z18⟩, st18⟩ := Jvm.LawKit.callS X16 hx (y := (⟨"com/example/tracewell/tracewell/capture/FlowEqualsPinLaw", "pickI", "(IIII)I"⟩ : MethodName)) hown (mvT hZ (hw _ (List.mem_of_getElem? (i := 4) rfl))) (mvT hZ (hw _ (List.mem_of_getElem? (i := 5) rfl))) (mvT hZ (hw _ (List.mem_of_getElem? (i := 2) rfl))) (mvT hZ (hw _ (List.mem_of_getElem? (i := 6) rfl))) (by decide) (backOf (W := 0) (rm2 l Z a0 hw [] u5 (5 : Int32) u2 u3 h0 n0 Z0) hZ (hw _ (List.mem_of_getElem? (i := 6) rfl)) (hw _ (List.mem_of_getElem? (i := 2) rfl)) (by decide) (by decide)) (g := (mkF m 95 #[.val (.long u0), .second, .val (.long u1), .second, iv u2, iv u3, iv u4, iv u5, iv ix, iv iy, iv kd, .val (.long xa), .second, .val (.long xb), .second, iv xc, .val (.long xd), .second, .val (.long xe), .second, .unset, .unset, .unset, .unset, .unset, .unset, .unset, .unset, .unset, .unset, .unset, .unset, .unset, .unset] [(.int u3), (.int u2), (.int (5 : Int32)), (.int u5)])) rfl (by rw [hml]; rfl) (argsL := [(.int u5), (.int (5 : Int32)), (.int u2), (.int u3)]) (rest := []) (lenOf pd_3 rfl) rfl (by show 2 * 0 + _ ≤ _; exact Nat.le_of_eq rfl) (hb hby at_95) (fun _ _ => ⟨rfl, eq16, (by decide : 0 + 0 ≤ _), (by decide : 0 + 0 ≤ _)⟩)
  dsimp only [Pt.U, Pt.locs, Pt.cells, Pt.slots] at X18 l18 y18 z18 st18 hQ18
  subst l18 y18 z18
  obtain ⟨rfl, Nq18, eq18⟩ := hQ18
  have N18 := Fr.app N16 Nq18
  have S19 : ∀ t, Steps p.tables e below (T18.setTop (mkF m 100 #[.val (.long u0), .second, .val (.long u1), .second, iv u2, iv u3, iv u4, iv u5, iv ix, iv iy, iv kd, .val (.long xa), .second, .val (.long xb), .second, iv xc, .val (.long xd), .second, .val (.long xe), .second, iv (own_pI u5 (5 : Int32) u2 u3), .unset, .unset, .unset, .unset, .unset, .unset, .unset, .unset, .unset, .unset, .unset, .unset, .unset] [])) t → Steps p.tables e below (s₁.setTop (entryFrame m #[(.long u0), (.long u1), (.int u2), (.int u3), (.int u4), (.int u5)] maxLocals)) t := by
    intro t k
    refine S17 t ?_
    show Steps p.tables e below (T16.setTop (mkF m 88 #[.val (.long u0), .second, .val (.long u1), .second, iv u2, iv u3, iv u4, iv u5, iv ix, iv iy, iv kd, .val (.long xa), .second, .val (.long xb), .second, iv xc, .val (.long xd), .second, .val (.long xe), .second, .unset, .unset, .unset, .unset, .unset, .unset, .unset, .unset, .unset, .unset, .unset, .unset, .unset, .unset] [])) _
    refine XS.iload X16.here hx rfl (hb hby at_88) rfl ?_
    show Steps p.tables e below (T16.setTop (mkF m 90 #[.val (.long u0), .second, .val (.long u1), .second, iv u2, iv u3, iv u4, iv u5, iv ix, iv iy, iv kd, .val (.long xa), .second, .val (.long xb), .second, iv xc, .val (.long xd), .second, .val (.long xe), .second, .unset, .unset, .unset, .unset, .unset, .unset, .unset, .unset, .unset, .unset, .unset, .unset, .unset, .unset] [(.int u5)])) _
    refine XS.iconst X16.here hx rfl (hb hby at_90) ?_
    show Steps p.tables e below (T16.setTop (mkF m 91 #[.val (.long u0), .second, .val (.long u1), .second, iv u2, iv u3, iv u4, iv u5, iv ix, iv iy, iv kd, .val (.long xa), .second, .val (.long xb), .second, iv xc, .val (.long xd), .second, .val (.long xe), .second, .unset, .unset, .unset, .unset, .unset, .unset, .unset, .unset, .unset, .unset, .unset, .unset, .unset, .unset] [(.int (5 : Int32)), (.int u5)])) _
    refine XS.iload X16.here hx rfl (hb hby at_91) rfl ?_
    show Steps p.tables e below (T16.setTop (mkF m 93 #[.val (.long u0), .second, .val (.long u1), .second, iv u2, iv u3, iv u4, iv u5, iv ix, iv iy, iv kd, .val (.long xa), .second, .val (.long xb), .second, iv xc, .val (.long xd), .second, .val (.long xe), .second, .unset, .unset, .unset, .unset, .unset, .unset, .unset, .unset, .unset, .unset, .unset, .unset, .unset, .unset] [(.int u2), (.int (5 : Int32)), (.int u5)])) _
    refine XS.iload X16.here hx rfl (hb hby at_93) rfl ?_
    show Steps p.tables e below (T16.setTop (mkF m 95 #[.val (.long u0), .second, .val (.long u1), .second, iv u2, iv u3, iv u4, iv u5, iv ix, iv iy, iv kd, .val (.long xa), .second, .val (.long xb), .second, iv xc, .val (.long xd), .second, .val (.long xe), .second, .unset, .unset, .unset, .unset, .unset, .unset, .unset, .unset, .unset, .unset, .unset, .unset, .unset, .unset] [(.int u3), (.int u2), (.int (5 : Int32)), (.int u5)])) _
    refine st18 _ ?_
    show Steps p.tables e below (T18.setTop (mkF m 98 #[.val (.long u0), .second, .val (.long u1), .second, iv u2, iv u3, iv u4, iv u5, iv ix, iv iy, iv kd, .val (.long xa), .second, .val (.long xb), .second, iv xc, .val (.long xd), .second, .val (.long xe), .second, .unset, .unset, .unset, .unset, .unset, .unset, .unset, .unset, .unset, .unset, .unset, .unset, .unset, .unset] [(.int (own_pI u5 (5 : Int32) u2 u3))])) _
    refine XS.istore X18.here hx rfl (hb hby at_98) rfl (l' := #[.val (.long u0), .second, .val (.long u1), .second, iv u2, iv u3, iv u4, iv u5, iv ix, iv iy, iv kd, .val (.long xa), .second, .val (.long xb), .second, iv xc, .val (.long xd), .second, .val (.long xe), .second, iv (own_pI u5 (5 : Int32) u2 u3), .unset, .unset, .unset, .unset, .unset, .unset, .unset, .unset, .unset, .unset, .unset, .unset, .unset]) rfl ?_
    exact k
  obtain ⟨xf, e_xf⟩ : ∃ z : Int32, z = (own_pI u5 (5 : Int32) u2 u3) := ⟨_, rfl⟩
  rw [← e_xf] at S19
  obtain ⟨_, _, ⟨T20, L20, k20, n20⟩, -, X20, ⟨Lc20, hQ20, l20, y20, z20⟩, st20⟩ := Jvm.LawKit.callS X18 hx (y := (⟨"com/example/tracewell/tracewell/capture/FlowEqualsPinLaw", "pickL", "(IIJJ)J"⟩ : MethodName)) hown (mvT hZ (hw _ (List.mem_of_getElem? (i := 0) rfl))) (mvT hZ (hw _ (List.mem_of_getElem? (i := 1) rfl))) (mvT hZ (hw _ (List.mem_of_getElem? (i := 2) rfl))) (mvT hZ (hw _ (List.mem_of_getElem? (i := 3) rfl))) (by decide) (backOf (W := 0) (rm1 l Z a0 hw [] u5 (6 : Int32) u0 u1 h0 n0 Z0) hZ (hw _ (List.mem_of_getElem? (i := 3) rfl)) (hw _ (List.mem_of_getElem? (i := 2) rfl)) (by decide) (by decide)) (g := (mkF m 106 #[.val (.long u0), .second, .val (.long u1), .second, iv u2, iv u3, iv u4, iv u5, iv ix, iv iy, iv kd, .val (.long xa), .second, .val (.long xb), .second, iv xc, .val (.long xd), .second, .val (.long xe), .second, iv xf, .unset, .unset, .unset, .unset, .unset, .unset, .unset, .unset, .unset, .unset, .unset, .unset, .unset] [(.long u1), (.long u0), (.int (6 : Int32)), (.int u5)])) rfl (by rw [hml]; rfl) (argsL := [(.int u5), (.int (6 : Int32)), (.long u0), (.long u1)]) (rest := []) (lenOf pd_2 rfl) rfl (by show 2 * 0 + _ ≤ _; exact Nat.le_of_eq rfl) (hb hby at_106) (fun _ _ => ⟨rfl, eq18, (by decide : 0 + 0 ≤ _), (by decide : 0 + 0 ≤ _)⟩)
  dsimp only [Pt.U, Pt.locs, Pt.cells, Pt.slots] at X20 l20 y20 z20 st20 hQ20
  subst l20 y20 z20
  obtain ⟨rfl, Nq20, eq20⟩ := hQ20
  have N20 := Fr.app N18 Nq20
  have S21 : ∀ t, Steps p.tables e below (T20.setTop (mkF m 111 #[.val (.long u0), .second, .val (.long u1), .second, iv u2, iv u3, iv u4, iv u5, iv ix, iv iy, iv kd, .val (.long xa), .second, .val (.long xb), .second, iv xc, .val (.long xd), .second, .val (.long xe), .second, iv xf, .val (.long (own_pL u5 (6 : Int32) u0 u1)), .second, .unset, .unset, .unset, .unset, .unset, .unset, .unset, .unset, .unset, .unset, .unset] [])) t → Steps p.tables e below (s₁.setTop (entryFrame m #[(.long u0), (.long u1), (.int u2), (.int u3), (.int u4), (.int u5)] maxLocals)) t := by
    intro t k
    refine S19 t ?_
    show Steps p.tables e below (T18.setTop (mkF m 100 #[.val (.long u0), .second, .val (.long u1), .second, iv u2, iv u3, iv u4, iv u5, iv ix, iv iy, iv kd, .val (.long xa), .second, .val (.long xb), .second, iv xc, .val (.long xd), .second, .val (.long xe), .second, iv xf, .unset, .unset, .unset, .unset, .unset, .unset, .unset, .unset, .unset, .unset, .unset, .unset, .unset] [])) _
    refine XS.iload X18.here hx rfl (hb hby at_100) rfl ?_
    show Steps p.tables e below (T18.setTop (mkF m 102 #[.val (.long u0), .second, .val (.long u1), .second, iv u2, iv u3, iv u4, iv u5, iv ix, iv iy, iv kd, .val (.long xa), .second, .val (.long xb), .second, iv xc, .val (.long xd), .second, .val (.long xe), .second, iv xf, .unset, .unset, .unset, .unset, .unset, .unset, .unset, .unset, .unset, .unset, .unset, .unset, .unset] [(.int u5)])) _
    refine XS.bipush X18.here hx rfl (hb hby at_102) ?_
    show Steps p.tables e below (T18.setTop (mkF m 104 #[.val (.long u0), .second, .val (.long u1), .second, iv u2, iv u3, iv u4, iv u5, iv ix, iv iy, iv kd, .val (.long xa), .second, .val (.long xb), .second, iv xc, .val (.long xd), .second, .val (.long xe), .second, iv xf, .unset, .unset, .unset, .unset, .unset, .unset, .unset, .unset, .unset, .unset, .unset, .unset, .unset] [(.int (6 : Int32)), (.int u5)])) _
    refine XS.lloadN X18.here hx rfl (hb hby at_104) rfl ?_
    show Steps p.tables e below (T18.setTop (mkF m 105 #[.val (.long u0), .second, .val (.long u1), .second, iv u2, iv u3, iv u4, iv u5, iv ix, iv iy, iv kd, .val (.long xa), .second, .val (.long xb), .second, iv xc, .val (.long xd), .second, .val (.long xe), .second, iv xf, .unset, .unset, .unset, .unset, .unset, .unset, .unset, .unset, .unset, .unset, .unset, .unset, .unset] [(.long u0), (.int (6 : Int32)), (.int u5)])) _
    refine XS.lloadN X18.here hx rfl (hb hby at_105) rfl ?_
    show Steps p.tables e below (T18.setTop (mkF m 106 #[.val (.long u0), .second, .val (.long u1), .second, iv u2, iv u3, iv u4, iv u5, iv ix, iv iy, iv kd, .val (.long xa), .second, .val (.long xb), .second, iv xc, .val (.long xd), .second, .val (.long xe), .second, iv xf, .unset, .unset, .unset, .unset, .unset, .unset, .unset, .unset, .unset, .unset, .unset, .unset, .unset] [(.long u1), (.long u0), (.int (6 : Int32)), (.int u5)])) _
    refine st20 _ ?_
    show Steps p.tables e below (T20.setTop (mkF m 109 #[.val (.long u0), .second, .val (.long u1), .second, iv u2, iv u3, iv u4, iv u5, iv ix, iv iy, iv kd, .val (.long xa), .second, .val (.long xb), .second, iv xc, .val (.long xd), .second, .val (.long xe), .second, iv xf, .unset, .unset, .unset, .unset, .unset, .unset, .unset, .unset, .unset, .unset, .unset, .unset, .unset] [(.long (own_pL u5 (6 : Int32) u0 u1))])) _
    refine XS.lstore X20.here hx rfl (hb hby at_109) rfl (l' := #[.val (.long u0), .second, .val (.long u1), .second, iv u2, iv u3, iv u4, iv u5, iv ix, iv iy, iv kd, .val (.long xa), .second, .val (.long xb), .second, iv xc, .val (.long xd), .second, .val (.long xe), .second, iv xf, .val (.long (own_pL u5 (6 : Int32) u0 u1)), .second, .unset, .unset, .unset, .unset, .unset, .unset, .unset, .unset, .unset, .unset, .unset]) rfl ?_
    exact k
  obtain ⟨ya, e_ya⟩ : ∃ z : Int64, z = (own_pL u5 (6 : Int32) u0 u1) := ⟨_, rfl⟩
  rw [← e_ya] at S21
  obtain ⟨_, _, ⟨T22, L22, k22, n22⟩, -, X22, ⟨Lc22, hQ22, l22, y22, z22⟩, st22⟩ := Jvm.LawKit.callS X20 hx (y := (⟨"com/example/tracewell/tracewell/capture/FlowEqualsPinLaw", "pickL", "(IIJJ)J"⟩ : MethodName)) hown (mvT hZ (hw _ (List.mem_of_getElem? (i := 0) rfl))) (mvT hZ (hw _ (List.mem_of_getElem? (i := 1) rfl))) (mvT hZ (hw _ (List.mem_of_getElem? (i := 2) rfl))) (mvT hZ (hw _ (List.mem_of_getElem? (i := 3) rfl))) (by decide) (backOf (W := 0) (rm1 l Z a0 hw [] u5 (7 : Int32) u0 u1 h0 n0 Z0) hZ (hw _ (List.mem_of_getElem? (i := 3) rfl)) (hw _ (List.mem_of_getElem? (i := 2) rfl)) (by decide) (by decide)) (g := (mkF m 117 #[.val (.long u0), .second, .val (.long u1), .second, iv u2, iv u3, iv u4, iv u5, iv ix, iv iy, iv kd, .val (.long xa), .second, .val (.long xb), .second, iv xc, .val (.long xd), .second, .val (.long xe), .second, iv xf, .val (.long ya), .second, .unset, .unset, .unset, .unset, .unset, .unset, .unset, .unset, .unset, .unset, .unset] [(.long u1), (.long u0), (.int (7 : Int32)), (.int u5)])) rfl (by rw [hml]; rfl) (argsL := [(.int u5), (.int (7 : Int32)), (.long u0), (.long u1)]) (rest := []) (lenOf pd_2 rfl) rfl (by show 2 * 0 + _ ≤ _; exact Nat.le_of_eq rfl) (hb hby at_117) (fun _ _ => ⟨rfl, eq20, (by decide : 0 + 0 ≤ _), (by decide : 0 + 0 ≤ _)⟩)
  dsimp only [Pt.U, Pt.locs, Pt.cells, Pt.slots] at X22 l22 y22 z22 st22 hQ22
  subst l22 y22 z22
  obtain ⟨rfl, Nq22, eq22⟩ := hQ22
  have N22 := Fr.app N20 Nq22
  have S23 : ∀ t, Steps p.tables e below (T22.setTop (mkF m 122 #[.val (.long u0), .second, .val (.long u1), .second, iv u2, iv u3, iv u4, iv u5, iv ix, iv iy, iv kd, .val (.long xa), .second, .val (.long xb), .second, iv xc, .val (.long xd), .second, .val (.long xe), .second, iv xf, .val (.long ya), .second, .val (.long (own_pL u5 (7 : Int32) u0 u1)), .second, .unset, .unset, .unset, .unset, .unset, .unset, .unset, .unset, .unset] [])) t → Steps p.tables e below (s₁.setTop (entryFrame m #[(.long u0), (.long u1), (.int u2), (.int u3), (.int u4), (.int u5)] maxLocals)) t := by
    intro t k
    refine S21 t ?_
    show Steps p.tables e below (T20.setTop (mkF m 111 #[.val (.long u0), .second, .val (.long u1), .second, iv u2, iv u3, iv u4, iv u5, iv ix, iv iy, iv kd, .val (.long xa), .second, .val (.long xb), .second, iv xc, .val (.long xd), .second, .val (.long xe), .second, iv xf, .val (.long ya), .second, .unset, .unset, .unset, .unset, .unset, .unset, .unset, .unset, .unset, .unset, .unset] [])) _
    refine XS.iload X20.here hx rfl (hb hby at_111) rfl ?_
    show Steps p.tables e below (T20.setTop (mkF m 113 #[.val (.long u0), .second, .val (.long u1), .second, iv u2, iv u3, iv u4, iv u5, iv ix, iv iy, iv kd, .val (.long xa), .second, .val (.long xb), .second, iv xc, .val (.long xd), .second, .val (.long xe), .second, iv xf, .val (.long ya), .second, .unset, .unset, .unset, .unset, .unset, .unset, .unset, .unset, .unset, .unset, .unset] [(.int u5)])) _
    refine XS.bipush X20.here hx rfl (hb hby at_113) ?_
    show Steps p.tables e below (T20.setTop (mkF m 115 #[.val (.long u0), .second, .val (.long u1), .second, iv u2, iv u3, iv u4, iv u5, iv ix, iv iy, iv kd, .val (.long xa), .second, .val (.long xb), .second, iv xc, .val (.long xd), .second, .val (.long xe), .second, iv xf, .val (.long ya), .second, .unset, .unset, .unset, .unset, .unset, .unset, .unset, .unset, .unset, .unset, .unset] [(.int (7 : Int32)), (.int u5)])) _
    refine XS.lloadN X20.here hx rfl (hb hby at_115) rfl ?_
    show Steps p.tables e below (T20.setTop (mkF m 116 #[.val (.long u0), .second, .val (.long u1), .second, iv u2, iv u3, iv u4, iv u5, iv ix, iv iy, iv kd, .val (.long xa), .second, .val (.long xb), .second, iv xc, .val (.long xd), .second, .val (.long xe), .second, iv xf, .val (.long ya), .second, .unset, .unset, .unset, .unset, .unset, .unset, .unset, .unset, .unset, .unset, .unset] [(.long u0), (.int (7 : Int32)), (.int u5)])) _
    refine XS.lloadN X20.here hx rfl (hb hby at_116) rfl ?_
    show Steps p.tables e below (T20.setTop (mkF m 117 #[.val (.long u0), .second, .val (.long u1), .second, iv u2, iv u3, iv u4, iv u5, iv ix, iv iy, iv kd, .val (.long xa), .second, .val (.long xb), .second, iv xc, .val (.long xd), .second, .val (.long xe), .second, iv xf, .val (.long ya), .second, .unset, .unset, .unset, .unset, .unset, .unset, .unset, .unset, .unset, .unset, .unset] [(.long u1), (.long u0), (.int (7 : Int32)), (.int u5)])) _
    refine st22 _ ?_
    show Steps p.tables e below (T22.setTop (mkF m 120 #[.val (.long u0), .second, .val (.long u1), .second, iv u2, iv u3, iv u4, iv u5, iv ix, iv iy, iv kd, .val (.long xa), .second, .val (.long xb), .second, iv xc, .val (.long xd), .second, .val (.long xe), .second, iv xf, .val (.long ya), .second, .unset, .unset, .unset, .unset, .unset, .unset, .unset, .unset, .unset, .unset, .unset] [(.long (own_pL u5 (7 : Int32) u0 u1))])) _
    refine XS.lstore X22.here hx rfl (hb hby at_120) rfl (l' := #[.val (.long u0), .second, .val (.long u1), .second, iv u2, iv u3, iv u4, iv u5, iv ix, iv iy, iv kd, .val (.long xa), .second, .val (.long xb), .second, iv xc, .val (.long xd), .second, .val (.long xe), .second, iv xf, .val (.long ya), .second, .val (.long (own_pL u5 (7 : Int32) u0 u1)), .second, .unset, .unset, .unset, .unset, .unset, .unset, .unset, .unset, .unset]) rfl ?_
    exact k
  obtain ⟨yb, e_yb⟩ : ∃ z : Int64, z = (own_pL u5 (7 : Int32) u0 u1) := ⟨_, rfl⟩
  rw [← e_yb] at S23
  obtain ⟨_, _, ⟨T24, L24, k24, n24⟩, -, X24, ⟨Lc24, hQ24, l24, y24, z24⟩, st24⟩ := Jvm.LawKit.callS X22 hx (y := (⟨"com/example/tracewell/tracewell/capture/FlowEqualsPinLaw", "pickI", "(IIII)I"⟩ : MethodName)) hown (mvT hZ (hw _ (List.mem_of_getElem? (i := 4) rfl))) (mvT hZ (hw _ (List.mem_of_getElem? (i := 5) rfl))) (mvT hZ (hw _ (List.mem_of_getElem? (i := 2) rfl))) (mvT hZ (hw _ (List.mem_of_getElem? (i := 6) rfl))) (by decide) (backOf (W := 0) (rm2 l Z a0 hw [] u5 (8 : Int32) u2 u3 h0 n0 Z0) hZ (hw _ (List.mem_of_getElem? (i := 6) rfl)) (hw _ (List.mem_of_getElem? (i := 2) rfl)) (by decide) (by decide)) (g := (mkF m 130 #[.val (.long u0), .second, .val (.long u1), .second, iv u2, iv u3, iv u4, iv u5, iv ix, iv iy, iv kd, .val (.long xa), .second, .val (.long xb), .second, iv xc, .val (.long xd), .second, .val (.long xe), .second, iv xf, .val (.long ya), .second, .val (.long yb), .second, .unset, .unset, .unset, .unset, .unset, .unset, .unset, .unset, .unset] [(.int u3), (.int u2), (.int (8 : Int32)), (.int u5)])) rfl (by rw [hml]; rfl) (argsL := [(.int u5), (.int (8 : Int32)), (.int u2), (.int u3)]) (rest := []) (lenOf pd_3 rfl) rfl (by show 2 * 0 + _ ≤ _; exact Nat.le_of_eq rfl) (hb hby at_130) (fun _ _ => ⟨rfl, eq22, (by decide : 0 + 0 ≤ _), (by decide : 0 + 0 ≤ _)⟩)
  dsimp only [Pt.U, Pt.locs, Pt.cells, Pt.slots] at X24 l24 y24 z24 st24 hQ24
  subst l24 y24 z24
  obtain ⟨rfl, Nq24, eq24⟩ := hQ24
  have N24 := Fr.app N22 Nq24
  have S25 : ∀ t, Steps p.tables e below (T24.setTop (mkF m 135 #[.val (.long u0), .second, .val (.long u1), .second, iv u2, iv u3, iv u4, iv u5, iv ix, iv iy, iv kd, .val (.long xa), .second, .val (.long xb), .second, iv xc, .val (.long xd), .second, .val (.long xe), .second, iv xf, .val (.long ya), .second, .val (.long yb), .second, iv (own_pI u5 (8 : Int32) u2 u3), .unset, .unset, .unset, .unset, .unset, .unset, .unset, .unset] [])) t → Steps p.tables e below (s₁.setTop (entryFrame m #[(.long u0), (.long u1), (.int u2), (.int u3), (.int u4), (.int u5)] maxLocals)) t := by
    intro t k
    refine S23 t ?_
    show Steps p.tables e below (T22.setTop (mkF m 122 #[.val (.long u0), .second, .val (.long u1), .second, iv u2, iv u3, iv u4, iv u5, iv ix, iv iy, iv kd, .val (.long xa), .second, .val (.long xb), .second, iv xc, .val (.long xd), .second, .val (.long xe), .second, iv xf, .val (.long ya), .second, .val (.long yb), .second, .unset, .unset, .unset, .unset, .unset, .unset, .unset, .unset, .unset] [])) _
    refine XS.iload X22.here hx rfl (hb hby at_122) rfl ?_
    show Steps p.tables e below (T22.setTop (mkF m 124 #[.val (.long u0), .second, .val (.long u1), .second, iv u2, iv u3, iv u4, iv u5, iv ix, iv iy, iv kd, .val (.long xa), .second, .val (.long xb), .second, iv xc, .val (.long xd), .second, .val (.long xe), .second, iv xf, .val (.long ya), .second, .val (.long yb), .second, .unset, .unset, .unset, .unset, .unset, .unset, .unset, .unset, .unset] [(.int u5)])) _
    refine XS.bipush X22.here hx rfl (hb hby at_124) ?_
    show Steps p.tables e below (T22.setTop (mkF m 126 #[.val (.long u0), .second, .val (.long u1), .second, iv u2, iv u3, iv u4, iv u5, iv ix, iv iy, iv kd, .val (.long xa), .second, .val (.long xb), .second, iv xc, .val (.long xd), .second, .val (.long xe), .second, iv xf, .val (.long ya), .second, .val (.long yb), .second, .unset, .unset, .unset, .unset, .unset, .unset, .unset, .unset, .unset] [(.int (8 : Int32)), (.int u5)])) _
    refine XS.iload X22.here hx rfl (hb hby at_126) rfl ?_
    show Steps p.tables e below (T22.setTop (mkF m 128 #[.val (.long u0), .second, .val (.long u1), .second, iv u2, iv u3, iv u4, iv u5, iv ix, iv iy, iv kd, .val (.long xa), .second, .val (.long xb), .second, iv xc, .val (.long xd), .second, .val (.long xe), .second, iv xf, .val (.long ya), .second, .val (.long yb), .second, .unset, .unset, .unset, .unset, .unset, .unset, .unset, .unset, .unset] [(.int u2), (.int (8 : Int32)), (.int u5)])) _
    refine XS.iload X22.here hx rfl (hb hby at_128) rfl ?_
    show Steps p.tables e below (T22.setTop (mkF m 130 #[.val (.long u0), .second, .val (.long u1), .second, iv u2, iv u3, iv u4, iv u5, iv ix, iv iy, iv kd, .val (.long xa), .second, .val (.long xb), .second, iv xc, .val (.long xd), .second, .val (.long xe), .second, iv xf, .val (.long ya), .second, .val (.long yb), .second, .unset, .unset, .unset, .unset, .unset, .unset, .unset, .unset, .unset] [(.int u3), (.int u2), (.int (8 : Int32)), (.int u5)])) _
    refine st24 _ ?_
    show Steps p.tables e below (T24.setTop (mkF m 133 #[.val (.long u0), .second, .val (.long u1), .second, iv u2, iv u3, iv u4, iv u5, iv ix, iv iy, iv kd, .val (.long xa), .second, .val (.long xb), .second, iv xc, .val (.long xd), .second, .val (.long xe), .second, iv xf, .val (.long ya), .second, .val (.long yb), .second, .unset, .unset, .unset, .unset, .unset, .unset, .unset, .unset, .unset] [(.int (own_pI u5 (8 : Int32) u2 u3))])) _
    refine XS.istore X24.here hx rfl (hb hby at_133) rfl (l' := #[.val (.long u0), .second, .val (.long u1), .second, iv u2, iv u3, iv u4, iv u5, iv ix, iv iy, iv kd, .val (.long xa), .second, .val (.long xb), .second, iv xc, .val (.long xd), .second, .val (.long xe), .second, iv xf, .val (.long ya), .second, .val (.long yb), .second, iv (own_pI u5 (8 : Int32) u2 u3), .unset, .unset, .unset, .unset, .unset, .unset, .unset, .unset]) rfl ?_
    exact k
  obtain ⟨yc, e_yc⟩ : ∃ z : Int32, z = (own_pI u5 (8 : Int32) u2 u3) := ⟨_, rfl⟩
  rw [← e_yc] at S25
  obtain ⟨_, _, ⟨T26, L26, k26, n26⟩, -, X26, ⟨Lc26, hQ26, l26, y26, z26⟩, st26⟩ := Jvm.LawKit.callS X24 hx (y := (⟨"com/example/tracewell/tracewell/capture/FlowEqualsPinLaw", "pickL", "(IIJJ)J"⟩ : MethodName)) hown (mvT hZ (hw _ (List.mem_of_getElem? (i := 0) rfl))) (mvT hZ (hw _ (List.mem_of_getElem? (i := 1) rfl))) (mvT hZ (hw _ (List.mem_of_getElem? (i := 2) rfl))) (mvT hZ (hw _ (List.mem_of_getElem? (i := 3) rfl))) (by decide) (backOf (W := 0) (rm1 l Z a0 hw [] u5 (9 : Int32) u0 u1 h0 n0 Z0) hZ (hw _ (List.mem_of_getElem? (i := 3) rfl)) (hw _ (List.mem_of_getElem? (i := 2) rfl)) (by decide) (by decide)) (g := (mkF m 141 #[.val (.long u0), .second, .val (.long u1), .second, iv u2, iv u3, iv u4, iv u5, iv ix, iv iy, iv kd, .val (.long xa), .second, .val (.long xb), .second, iv xc, .val (.long xd), .second, .val (.long xe), .second, iv xf, .val (.long ya), .second, .val (.long yb), .second, iv yc, .unset, .unset, .unset, .unset, .unset, .unset, .unset, .unset] [(.long u1), (.long u0), (.int (9 : Int32)), (.int u5)])) rfl (by rw [hml]; rfl) (argsL := [(.int u5), (.int (9 : Int32)), (.long u0), (.long u1)]) (rest := []) (lenOf pd_2 rfl) rfl (by show 2 * 0 + _ ≤ _; exact Nat.le_of_eq rfl) (hb hby at_141) (fun _ _ => ⟨rfl, eq24, (by decide : 0 + 0 ≤ _), (by decide : 0 + 0 ≤ _)⟩)
  dsimp only [Pt.U, Pt.locs, Pt.cells, Pt.slots] at X26 l26 y26 z26 st26 hQ26
  subst l26 y26 z26
  obtain ⟨rfl, Nq26, eq26⟩ := hQ26
  have N26 := Fr.app N24 Nq26
  have S27 : ∀ t, Steps p.tables e below (T26.setTop (mkF m 146 #[.val (.long u0), .second, .val (.long u1), .second, iv u2, iv u3, iv u4, iv u5, iv ix, iv iy, iv kd, .val (.long xa), .second, .val (.long xb), .second, iv xc, .val (.long xd), .second, .val (.long xe), .second, iv xf, .val (.long ya), .second, .val (.long yb), .second, iv yc, .val (.long (own_pL u5 (9 : Int32) u0 u1)), .second, .unset, .unset, .unset, .unset, .unset, .unset] [])) t → Steps p.tables e below (s₁.setTop (entryFrame m #[(.long u0), (.long u1), (.int u2), (.int u3), (.int u4), (.int u5)] maxLocals)) t := by
    intro t k
    refine S25 t ?_
    show Steps p.tables e below (T24.setTop (mkF m 135 #[.val (.long u0), .second, .val (.long u1), .second, iv u2, iv u3, iv u4, iv u5, iv ix, iv iy, iv kd, .val (.long xa), .second, .val (.long xb), .second, iv xc, .val (.long xd), .second, .val (.long xe), .second, iv xf, .val (.long ya), .second, .val (.long yb), .second, iv yc, .unset, .unset, .unset, .unset, .unset, .unset, .unset, .unset] [])) _
    refine XS.iload X24.here hx rfl (hb hby at_135) rfl ?_
    show Steps p.tables e below (T24.setTop (mkF m 137 #[.val (.long u0), .second, .val (.long u1), .second, iv u2, iv u3, iv u4, iv u5, iv ix, iv iy, iv kd, .val (.long xa), .second, .val (.long xb), .second, iv xc, .val (.long xd), .second, .val (.long xe), .second, iv xf, .val (.long ya), .second, .val (.long yb), .second, iv yc, .unset, .unset, .unset, .unset, .unset, .unset, .unset, .unset] [(.int u5)])) _
    refine XS.bipush X24.here hx rfl (hb hby at_137) ?_
    show Steps p.tables e below (T24.setTop (mkF m 139 #[.val (.long u0), .second, .val (.long u1), .second, iv u2, iv u3, iv u4, iv u5, iv ix, iv iy, iv kd, .val (.long xa), .second, .val (.long xb), .second, iv xc, .val (.long xd), .second, .val (.long xe), .second, iv xf, .val (.long ya), .second, .val (.long yb), .second, iv yc, .unset, .unset, .unset, .unset, .unset, .unset, .unset, .unset] [(.int (9 : Int32)), (.int u5)])) _
    refine XS.lloadN X24.here hx rfl (hb hby at_139) rfl ?_
    show Steps p.tables e below (T24.setTop (mkF m 140 #[.val (.long u0), .second, .val (.long u1), .second, iv u2, iv u3, iv u4, iv u5, iv ix, iv iy, iv kd, .val (.long xa), .second, .val (.long xb), .second, iv xc, .val (.long xd), .second, .val (.long xe), .second, iv xf, .val (.long ya), .second, .val (.long yb), .second, iv yc, .unset, .unset, .unset, .unset, .unset, .unset, .unset, .unset] [(.long u0), (.int (9 : Int32)), (.int u5)])) _
    refine XS.lloadN X24.here hx rfl (hb hby at_140) rfl ?_
    show Steps p.tables e below (T24.setTop (mkF m 141 #[.val (.long u0), .second, .val (.long u1), .second, iv u2, iv u3, iv u4, iv u5, iv ix, iv iy, iv kd, .val (.long xa), .second, .val (.long xb), .second, iv xc, .val (.long xd), .second, .val (.long xe), .second, iv xf, .val (.long ya), .second, .val (.long yb), .second, iv yc, .unset, .unset, .unset, .unset, .unset, .unset, .unset, .unset] [(.long u1), (.long u0), (.int (9 : Int32)), (.int u5)])) _
    refine st26 _ ?_
    show Steps p.tables e below (T26.setTop (mkF m 144 #[.val (.long u0), .second, .val (.long u1), .second, iv u2, iv u3, iv u4, iv u5, iv ix, iv iy, iv kd, .val (.long xa), .second, .val (.long xb), .second, iv xc, .val (.long xd), .second, .val (.long xe), .second, iv xf, .val (.long ya), .second, .val (.long yb), .second, iv yc, .unset, .unset, .unset, .unset, .unset, .unset, .unset, .unset] [(.long (own_pL u5 (9 : Int32) u0 u1))])) _
    refine XS.lstore X26.here hx rfl (hb hby at_144) rfl (l' := #[.val (.long u0), .second, .val (.long u1), .second, iv u2, iv u3, iv u4, iv u5, iv ix, iv iy, iv kd, .val (.long xa), .second, .val (.long xb), .second, iv xc, .val (.long xd), .second, .val (.long xe), .second, iv xf, .val (.long ya), .second, .val (.long yb), .second, iv yc, .val (.long (own_pL u5 (9 : Int32) u0 u1)), .second, .unset, .unset, .unset, .unset, .unset, .unset]) rfl ?_
    exact k
  obtain ⟨yd, e_yd⟩ : ∃ z : Int64, z = (own_pL u5 (9 : Int32) u0 u1) := ⟨_, rfl⟩
  rw [← e_yd] at S27
  obtain ⟨_, _, ⟨T28, L28, k28, n28⟩, -, X28, ⟨Lc28, hQ28, l28, y28, z28⟩, st28⟩ := Jvm.LawKit.callS X26 hx (y := (⟨"com/example/tracewell/tracewell/capture/FlowEqualsPinLaw", "pickL", "(IIJJ)J"⟩ : MethodName)) hown (mvT hZ (hw _ (List.mem_of_getElem? (i := 0) rfl))) (mvT hZ (hw _ (List.mem_of_getElem? (i := 1) rfl))) (mvT hZ (hw _ (List.mem_of_getElem? (i := 2) rfl))) (mvT hZ (hw _ (List.mem_of_getElem? (i := 3) rfl))) (by decide) (backOf (W := 0) (rm1 l Z a0 hw [] u5 (10 : Int32) u0 u1 h0 n0 Z0) hZ (hw _ (List.mem_of_getElem? (i := 3) rfl)) (hw _ (List.mem_of_getElem? (i := 2) rfl)) (by decide) (by decide)) (g := (mkF m 152 #[.val (.long u0), .second, .val (.long u1), .second, iv u2, iv u3, iv u4, iv u5, iv ix, iv iy, iv kd, .val (.long xa), .second, .val (.long xb), .second, iv xc, .val (.long xd), .second, .val (.long xe), .second, iv xf, .val (.long ya), .second, .val (.long yb), .second, iv yc, .val (.long yd), .second, .unset, .unset, .unset, .unset, .unset, .unset] [(.long u1), (.long u0), (.int (10 : Int32)), (.int u5)])) rfl (by rw [hml]; rfl) (argsL := [(.int u5), (.int (10 : Int32)), (.long u0), (.long u1)]) (rest := []) (lenOf pd_2 rfl) rfl (by show 2 * 0 + _ ≤ _; exact Nat.le_of_eq rfl) (hb hby at_152) (fun _ _ => ⟨rfl, eq26, (by decide : 0 + 0 ≤ _), (by decide : 0 + 0 ≤ _)⟩)
  dsimp only [Pt.U, Pt.locs, Pt.cells, Pt.slots] at X28 l28 y28 z28 st28 hQ28
  subst l28 y28 z28
  obtain ⟨rfl, Nq28, eq28⟩ := hQ28
  have N28 := Fr.app N26 Nq28
  have S29 : ∀ t, Steps p.tables e below (T28.setTop (mkF m 157 #[.val (.long u0), .second, .val (.long u1), .second, iv u2, iv u3, iv u4, iv u5, iv ix, iv iy, iv kd, .val (.long xa), .second, .val (.long xb), .second, iv xc, .val (.long xd), .second, .val (.long xe), .second, iv xf, .val (.long ya), .second, .val (.long yb), .second, iv yc, .val (.long yd), .second, .val (.long (own_pL u5 (10 : Int32) u0 u1)), .second, .unset, .unset, .unset, .unset] [])) t → Steps p.tables e below (s₁.setTop (entryFrame m #[(.long u0), (.long u1), (.int u2), (.int u3), (.int u4), (.int u5)] maxLocals)) t := by
    intro t k
    refine S27 t ?_
    show Steps p.tables e below (T26.setTop (mkF m 146 #[.val (.long u0), .second, .val (.long u1), .second, iv u2, iv u3, iv u4, iv u5, iv ix, iv iy, iv kd, .val (.long xa), .second, .val (.long xb), .second, iv xc, .val (.long xd), .second, .val (.long xe), .second, iv xf, .val (.long ya), .second, .val (.long yb), .second, iv yc, .val (.long yd), .second, .unset, .unset, .unset, .unset, .unset, .unset] [])) _
    refine XS.iload X26.here hx rfl (hb hby at_146) rfl ?_
    show Steps p.tables e below (T26.setTop (mkF m 148 #[.val (.long u0), .second, .val (.long u1), .second, iv u2, iv u3, iv u4, iv u5, iv ix, iv iy, iv kd, .val (.long xa), .second, .val (.long xb), .second, iv xc, .val (.long xd), .second, .val (.long xe), .second, iv xf, .val (.long ya), .second, .val (.long yb), .second, iv yc, .val (.long yd), .second, .unset, .unset, .unset, .unset, .unset, .unset] [(.int u5)])) _
    refine XS.bipush X26.here hx rfl (hb hby at_148) ?_
    show Steps p.tables e below (T26.setTop (mkF m 150 #[.val (.long u0), .second, .val (.long u1), .second, iv u2, iv u3, iv u4, iv u5, iv ix, iv iy, iv kd, .val (.long xa), .second, .val (.long xb), .second, iv xc, .val (.long xd), .second, .val (.long xe), .second, iv xf, .val (.long ya), .second, .val (.long yb), .second, iv yc, .val (.long yd), .second, .unset, .unset, .unset, .unset, .unset, .unset] [(.int (10 : Int32)), (.int u5)])) _
    refine XS.lloadN X26.here hx rfl (hb hby at_150) rfl ?_
    show Steps p.tables e below (T26.setTop (mkF m 151 #[.val (.long u0), .second, .val (.long u1), .second, iv u2, iv u3, iv u4, iv u5, iv ix, iv iy, iv kd, .val (.long xa), .second, .val (.long xb), .second, iv xc, .val (.long xd), .second, .val (.long xe), .second, iv xf, .val (.long ya), .second, .val (.long yb), .second, iv yc, .val (.long yd), .second, .unset, .unset, .unset, .unset, .unset, .unset] [(.long u0), (.int (10 : Int32)), (.int u5)])) _
    refine XS.lloadN X26.here hx rfl (hb hby at_151) rfl ?_
    show Steps p.tables e below (T26.setTop (mkF m 152 #[.val (.long u0), .second, .val (.long u1), .second, iv u2, iv u3, iv u4, iv u5, iv ix, iv iy, iv kd, .val (.long xa), .second, .val (.long xb), .second, iv xc, .val (.long xd), .second, .val (.long xe), .second, iv xf, .val (.long ya), .second, .val (.long yb), .second, iv yc, .val (.long yd), .second, .unset, .unset, .unset, .unset, .unset, .unset] [(.long u1), (.long u0), (.int (10 : Int32)), (.int u5)])) _
    refine st28 _ ?_
    show Steps p.tables e below (T28.setTop (mkF m 155 #[.val (.long u0), .second, .val (.long u1), .second, iv u2, iv u3, iv u4, iv u5, iv ix, iv iy, iv kd, .val (.long xa), .second, .val (.long xb), .second, iv xc, .val (.long xd), .second, .val (.long xe), .second, iv xf, .val (.long ya), .second, .val (.long yb), .second, iv yc, .val (.long yd), .second, .unset, .unset, .unset, .unset, .unset, .unset] [(.long (own_pL u5 (10 : Int32) u0 u1))])) _
    refine XS.lstore X28.here hx rfl (hb hby at_155) rfl (l' := #[.val (.long u0), .second, .val (.long u1), .second, iv u2, iv u3, iv u4, iv u5, iv ix, iv iy, iv kd, .val (.long xa), .second, .val (.long xb), .second, iv xc, .val (.long xd), .second, .val (.long xe), .second, iv xf, .val (.long ya), .second, .val (.long yb), .second, iv yc, .val (.long yd), .second, .val (.long (own_pL u5 (10 : Int32) u0 u1)), .second, .unset, .unset, .unset, .unset]) rfl ?_
    exact k
  obtain ⟨ye, e_ye⟩ : ∃ z : Int64, z = (own_pL u5 (10 : Int32) u0 u1) := ⟨_, rfl⟩
  rw [← e_ye] at S29
  obtain ⟨_, _, ⟨T30, L30, k30, n30⟩, -, X30, ⟨Lc30, hQ30, l30, y30, z30⟩, st30⟩ := Jvm.LawKit.callS X28 hx (y := (⟨"com/example/tracewell/tracewell/capture/FlowEqualsPinLaw", "pickI", "(IIII)I"⟩ : MethodName)) hown (mvT hZ (hw _ (List.mem_of_getElem? (i := 4) rfl))) (mvT hZ (hw _ (List.mem_of_getElem? (i := 5) rfl))) (mvT hZ (hw _ (List.mem_of_getElem? (i := 2) rfl))) (mvT hZ (hw _ (List.mem_of_getElem? (i := 6) rfl))) (by decide) (backOf (W := 0) (rm2 l Z a0 hw [] u5 (11 : Int32) u2 u3 h0 n0 Z0) hZ (hw _ (List.mem_of_getElem? (i := 6) rfl)) (hw _ (List.mem_of_getElem? (i := 2) rfl)) (by decide) (by decide)) (g := (mkF m 165 #[.val (.long u0), .second, .val (.long u1), .second, iv u2, iv u3, iv u4, iv u5, iv ix, iv iy, iv kd, .val (.long xa), .second, .val (.long xb), .second, iv xc, .val (.long xd), .second, .val (.long xe), .second, iv xf, .val (.long ya), .second, .val (.long yb), .second, iv yc, .val (.long yd), .second, .val (.long ye), .second, .unset, .unset, .unset, .unset] [(.int u3), (.int u2), (.int (11 : Int32)), (.int u5)])) rfl (by rw [hml]; rfl) (argsL := [(.int u5), (.int (11 : Int32)), (.int u2), (.int u3)]) (rest := []) (lenOf pd_3 rfl) rfl (by show 2 * 0 + _ ≤ _; exact Nat.le_of_eq rfl) (hb hby at_165) (fun _ _ => ⟨rfl, eq28, (by decide : 0 + 0 ≤ _), (by decide : 0 + 0 ≤ _)⟩)
  dsimp only [Pt.U, Pt.locs, Pt.cells, Pt.slots] at X30 l30 y30 z30 st30 hQ30
  subst l30 y30 z30
  obtain ⟨rfl, Nq30, eq30⟩ := hQ30
  have N30 := Fr.app N28 Nq30
  have S31 : ∀ t, Steps p.tables e below (T30.setTop (mkF m 170 #[.val (.long u0), .second, .val (.long u1), .second, iv u2, iv u3, iv u4, iv u5, iv ix, iv iy, iv kd, .val (.long xa), .second, .val (.long xb), .second, iv xc, .val (.long xd), .second, .val (.long xe), .second, iv xf, .val (.long ya), .second, .val (.long yb), .second, iv yc, .val (.long yd), .second, .val (.long ye), .second, iv (own_pI u5 (11 : Int32) u2 u3), .unset, .unset, .unset] [])) t → Steps p.tables e below (s₁.setTop (entryFrame m #[(.long u0), (.long u1), (.int u2), (.int u3), (.int u4), (.int u5)] maxLocals)) t := by
    intro t k
    refine S29 t ?_
    show Steps p.tables e below (T28.setTop (mkF m 157 #[.val (.long u0), .second, .val (.long u1), .second, iv u2, iv u3, iv u4, iv u5, iv ix, iv iy, iv kd, .val (.long xa), .second, .val (.long xb), .second, iv xc, .val (.long xd), .second, .val (.long xe), .second, iv xf, .val (.long ya), .second, .val (.long yb), .second, iv yc, .val (.long yd), .second, .val (.long ye), .second, .unset, .unset, .unset, .unset] [])) _
    refine XS.iload X28.here hx rfl (hb hby at_157) rfl ?_
    show Steps p.tables e below (T28.setTop (mkF m 159 #[.val (.long u0), .second, .val (.long u1), .second, iv u2, iv u3, iv u4, iv u5, iv ix, iv iy, iv kd, .val (.long xa), .second, .val (.long xb), .second, iv xc, .val (.long xd), .second, .val (.long xe), .second, iv xf, .val (.long ya), .second, .val (.long yb), .second, iv yc, .val (.long yd), .second, .val (.long ye), .second, .unset, .unset, .unset, .unset] [(.int u5)])) _
    refine XS.bipush X28.here hx rfl (hb hby at_159) ?_
    show Steps p.tables e below (T28.setTop (mkF m 161 #[.val (.long u0), .second, .val (.long u1), .second, iv u2, iv u3, iv u4, iv u5, iv ix, iv iy, iv kd, .val (.long xa), .second, .val (.long xb), .second, iv xc, .val (.long xd), .second, .val (.long xe), .second, iv xf, .val (.long ya), .second, .val (.long yb), .second, iv yc, .val (.long yd), .second, .val (.long ye), .second, .unset, .unset, .unset, .unset] [(.int (11 : Int32)), (.int u5)])) _
    refine XS.iload X28.here hx rfl (hb hby at_161) rfl ?_
    show Steps p.tables e below (T28.setTop (mkF m 163 #[.val (.long u0), .second, .val (.long u1), .second, iv u2, iv u3, iv u4, iv u5, iv ix, iv iy, iv kd, .val (.long xa), .second, .val (.long xb), .second, iv xc, .val (.long xd), .second, .val (.long xe), .second, iv xf, .val (.long ya), .second, .val (.long yb), .second, iv yc, .val (.long yd), .second, .val (.long ye), .second, .unset, .unset, .unset, .unset] [(.int u2), (.int (11 : Int32)), (.int u5)])) _
    refine XS.iload X28.here hx rfl (hb hby at_163) rfl ?_
    show Steps p.tables e below (T28.setTop (mkF m 165 #[.val (.long u0), .second, .val (.long u1), .second, iv u2, iv u3, iv u4, iv u5, iv ix, iv iy, iv kd, .val (.long xa), .second, .val (.long xb), .second, iv xc, .val (.long xd), .second, .val (.long xe), .second, iv xf, .val (.long ya), .second, .val (.long yb), .second, iv yc, .val (.long yd), .second, .val (.long ye), .second, .unset, .unset, .unset, .unset] [(.int u3), (.int u2), (.int (11 : Int32)), (.int u5)])) _
    refine st30 _ ?_
    show Steps p.tables e below (T30.setTop (mkF m 168 #[.val (.long u0), .second, .val (.long u1), .second, iv u2, iv u3, iv u4, iv u5, iv ix, iv iy, iv kd, .val (.long xa), .second, .val (.long xb), .second, iv xc, .val (.long xd), .second, .val (.long xe), .second, iv xf, .val (.long ya), .second, .val (.long yb), .second, iv yc, .val (.long yd), .second, .val (.long ye), .second, .unset, .unset, .unset, .unset] [(.int (own_pI u5 (11 : Int32) u2 u3))])) _
    refine XS.istore X30.here hx rfl (hb hby at_168) rfl (l' := #[.val (.long u0), .second, .val (.long u1), .second, iv u2, iv u3, iv u4, iv u5, iv ix, iv iy, iv kd, .val (.long xa), .second, .val (.long xb), .second, iv xc, .val (.long xd), .second, .val (.long xe), .second, iv xf, .val (.long ya), .second, .val (.long yb), .second, iv yc, .val (.long yd), .second, .val (.long ye), .second, iv (own_pI u5 (11 : Int32) u2 u3), .unset, .unset, .unset]) rfl ?_
    exact k
  obtain ⟨yf, e_yf⟩ : ∃ z : Int32, z = (own_pI u5 (11 : Int32) u2 u3) := ⟨_, rfl⟩
  rw [← e_yf] at S31
  obtain ⟨T32, h32, X32, e32, E32, A32, D32, -, st32⟩ := newO X30 hx hZ hown (hw _ (List.mem_of_getElem? (i := 7) rfl)) (hw _ (List.mem_of_getElem? (i := 8) rfl)) (hw _ (List.mem_of_getElem? (i := 9) rfl)) eq30 (g := (mkF m 170 #[.val (.long u0), .second, .val (.long u1), .second, iv u2, iv u3, iv u4, iv u5, iv ix, iv iy, iv kd, .val (.long xa), .second, .val (.long xb), .second, iv xc, .val (.long xd), .second, .val (.long xe), .second, iv xf, .val (.long ya), .second, .val (.long yb), .second, iv yc, .val (.long yd), .second, .val (.long ye), .second, iv yf, .unset, .unset, .unset] [])) rfl (hb hby at_170) (by decide) (by decide)
  obtain ⟨b32, g32⟩ : ∃ z, z = h0.size := ⟨_, rfl⟩
  rw [← g32] at A32 D32 st32
  have ge_b32 : n0 ≤ b32 := Nat.le_trans Z0 (Nat.le_of_eq g32.symm)
  have Od33 := hO.ext E32
  have F32_ipv6 : Fld Z h32 b32 "com/example/tracewell/tracewell/capture/Flow" "ipv6" "Z" (.int (0 : Int32)) := D32 (Or.inl (hw _ (List.mem_of_getElem? (i := 22) rfl))) (ty := .boolean) (by decide)
  have F32_sourceHigh : Fld Z h32 b32 "com/example/tracewell/tracewell/capture/Flow" "sourceHigh" "J" (.long (0 : Int64)) := D32 (Or.inl (hw _ (List.mem_of_getElem? (i := 24) rfl))) (ty := .long) (by decide)
  have F32_sourceLow : Fld Z h32 b32 "com/example/tracewell/tracewell/capture/Flow" "sourceLow" "J" (.long (0 : Int64)) := D32 (Or.inl (hw _ (List.mem_of_getElem? (i := 26) rfl))) (ty := .long) (by decide)
  have F32_sourcePort : Fld Z h32 b32 "com/example/tracewell/tracewell/capture/Flow" "sourcePort" "I" (.int (0 : Int32)) := D32 (Or.inl (hw _ (List.mem_of_getElem? (i := 28) rfl))) (ty := .int) (by decide)
  have F32_destinationHigh : Fld Z h32 b32 "com/example/tracewell/tracewell/capture/Flow" "destinationHigh" "J" (.long (0 : Int64)) := D32 (Or.inl (hw _ (List.mem_of_getElem? (i := 30) rfl))) (ty := .long) (by decide)
  have F32_destinationLow : Fld Z h32 b32 "com/example/tracewell/tracewell/capture/Flow" "destinationLow" "J" (.long (0 : Int64)) := D32 (Or.inl (hw _ (List.mem_of_getElem? (i := 32) rfl))) (ty := .long) (by decide)
  have F32_destinationPort : Fld Z h32 b32 "com/example/tracewell/tracewell/capture/Flow" "destinationPort" "I" (.int (0 : Int32)) := D32 (Or.inl (hw _ (List.mem_of_getElem? (i := 34) rfl))) (ty := .int) (by decide)
  have Z32 : n0 ≤ h32.size := Nat.le_trans Z0 E32.1
  obtain ⟨_, _, ⟨T34, L34, k34, n34⟩, -, X34, ⟨Lc34, hQ34, l34, y34, z34⟩, st34⟩ := X32.specialBack hx (y := (⟨"com/example/tracewell/tracewell/capture/Flow", "<init>", "()V"⟩ : MethodName)) rfl hown (mvT hZ (hw _ (List.mem_of_getElem? (i := 10) rfl))) (mvT hZ (hw _ (List.mem_of_getElem? (i := 11) rfl))) (mvT hZ (hw _ (List.mem_of_getElem? (i := 12) rfl))) (by decide) (backOf (W := 1) (rmI0 l Z a0 hw [] b32 h32 n0 Z32) hZ (hw _ (List.mem_of_getElem? (i := 12) rfl)) (hw _ (List.mem_of_getElem? (i := 9) rfl)) (by decide) (by decide)) (g := (mkF m 174 #[.val (.long u0), .second, .val (.long u1), .second, iv u2, iv u3, iv u4, iv u5, iv ix, iv iy, iv kd, .val (.long xa), .second, .val (.long xb), .second, iv xc, .val (.long xd), .second, .val (.long xe), .second, iv xf, .val (.long ya), .second, .val (.long yb), .second, iv yc, .val (.long yd), .second, .val (.long ye), .second, iv yf, .unset, .unset, .unset] [(.ref b32), (.ref b32)])) rfl (by rw [hml]; rfl) (Steps.refl _) (a := b32) (argsL := []) (rest := [(.ref b32)]) (lenOf pd_0 rfl) rfl (by show 2 * 0 + _ ≤ _; exact Nat.le_of_eq rfl) (hb hby at_174) (fun _ _ => ⟨rfl, e32, (by decide : 1 + 0 ≤ _), (by decide : 7 + 0 ≤ _)⟩)
  dsimp only [Pt.U, Pt.locs, Pt.cells, Pt.slots] at X34 l34 y34 z34 st34 hQ34
  subst l34 y34 z34
  obtain ⟨rfl, Nq34, eq34⟩ := hQ34
  have N34 := Fr.app N30 Nq34
  have B35 : own_Fl Z h32 b32 (0 : Int32) (0 : Int64) (0 : Int64) (0 : Int32) (0 : Int64) (0 : Int64) (0 : Int32) := ⟨A32, F32_ipv6, F32_sourceHigh, F32_sourceLow, F32_sourcePort, F32_destinationHigh, F32_destinationLow, F32_destinationPort⟩
  obtain ⟨cq36, kq36, q36a, q36b, q36c⟩ := isOf hZ eq34 A32
  obtain ⟨_, _, ⟨T36, L36, k36, n36⟩, -, X36, ⟨Lc36, hQ36, l36, y36, z36⟩, st36⟩ := X34.virtualBack hx (y := (⟨"com/example/tracewell/tracewell/capture/Flow", "set", "(ZJJIJJI)V"⟩ : MethodName)) (z := (⟨"com/example/tracewell/tracewell/capture/Flow", "set", "(ZJJIJJI)V"⟩ : MethodName)) hown (mvT hZ (hw _ (List.mem_of_getElem? (i := 16) rfl))) (mvT hZ (hw _ (List.mem_of_getElem? (i := 17) rfl))) (notFace_of_selects (args := #[]) (mvT hZ (hw _ (List.mem_of_getElem? (i := 19) rfl)))) (mvT hZ (hw _ (List.mem_of_getElem? (i := 19) rfl))) (mvT hZ (hw _ (List.mem_of_getElem? (i := 18) rfl))) (by decide) (backOf (W := 0) (rmSet l Z a0 hw [] b32 ix xa xb xc xd xe xf (0 : Int32) (0 : Int64) (0 : Int64) (0 : Int32) (0 : Int64) (0 : Int64) (0 : Int32) h32 n0 Z32 B35 ge_b32) hZ (hw _ (List.mem_of_getElem? (i := 20) rfl)) (hw _ (List.mem_of_getElem? (i := 9) rfl)) (by decide) (by decide)) q36a q36c (g := (mkF m 195 #[.val (.long u0), .second, .val (.long u1), .second, iv u2, iv u3, iv u4, iv u5, iv ix, iv iy, iv kd, .val (.long xa), .second, .val (.long xb), .second, iv xc, .val (.long xd), .second, .val (.long xe), .second, iv xf, .val (.long ya), .second, .val (.long yb), .second, iv yc, .val (.long yd), .second, .val (.long ye), .second, iv yf, rv b32, .unset, .unset] [(.int xf), (.long xe), (.long xd), (.int xc), (.long xb), (.long xa), (.int ix), (.ref b32)])) rfl (by rw [hml]; rfl) (Steps.refl _) (argsL := [(.int ix), (.long xa), (.long xb), (.int xc), (.long xd), (.long xe), (.int xf)]) (rest := []) (lenOf pd_4 rfl) rfl (by show 2 * 0 + _ ≤ _; exact Nat.le_of_eq rfl) (hb hby at_195) (fun _ _ => ⟨rfl, eq34, (by decide : 1 + 0 ≤ _), (by decide : 7 + 0 ≤ _)⟩)
  dsimp only [Pt.U, Pt.locs, Pt.cells, Pt.slots] at X36 l36 y36 z36 st36 hQ36
  subst l36 y36 z36
  obtain ⟨rfl, Nq36, Kq36, Bq36⟩ := hQ36
  have N36 := Fr.app N34 Nq36
  have Z36 : n0 ≤ T36.heap.size := Nat.le_trans Z32 Kq36.1
  have Od37 := Od33.keep Kq36 (allS ge_b32 all0)
  have f38 := A32.keep Kq36
  obtain ⟨T40, h40, X40, e40, E40, A40, D40, -, st40⟩ := newO X36 hx hZ hown (hw _ (List.mem_of_getElem? (i := 7) rfl)) (hw _ (List.mem_of_getElem? (i := 8) rfl)) (hw _ (List.mem_of_getElem? (i := 9) rfl)) rfl (g := (mkF m 198 #[.val (.long u0), .second, .val (.long u1), .second, iv u2, iv u3, iv u4, iv u5, iv ix, iv iy, iv kd, .val (.long xa), .second, .val (.long xb), .second, iv xc, .val (.long xd), .second, .val (.long xe), .second, iv xf, .val (.long ya), .second, .val (.long yb), .second, iv yc, .val (.long yd), .second, .val (.long ye), .second, iv yf, rv b32, .unset, .unset] [])) rfl (hb hby at_198) (by decide) (by decide)
  obtain ⟨b40, g40⟩ : ∃ z, z = T36.heap.size := ⟨_, rfl⟩
  rw [← g40] at A40 D40 st40
  have ge_b40 : n0 ≤ b40 := Nat.le_trans Z36 (Nat.le_of_eq g40.symm)
  have ne_b32_b40 : b32 ≠ b40 := Nat.ne_of_lt (Nat.lt_of_lt_of_le (f38).lt (Nat.le_of_eq g40.symm))
  have Od41 := Od37.ext E40
  have f42 := f38.ext E40
  have f43 := Bq36.ext E40
  have F40_ipv6 : Fld Z h40 b40 "com/example/tracewell/tracewell/capture/Flow" "ipv6" "Z" (.int (0 : Int32)) := D40 (Or.inl (hw _ (List.mem_of_getElem? (i := 22) rfl))) (ty := .boolean) (by decide)
  have F40_sourceHigh : Fld Z h40 b40 "com/example/tracewell/tracewell/capture/Flow" "sourceHigh" "J" (.long (0 : Int64)) := D40 (Or.inl (hw _ (List.mem_of_getElem? (i := 24) rfl))) (ty := .long) (by decide)
  have F40_sourceLow : Fld Z h40 b40 "com/example/tracewell/tracewell/capture/Flow" "sourceLow" "J" (.long (0 : Int64)) := D40 (Or.inl (hw _ (List.mem_of_getElem? (i := 26) rfl))) (ty := .long) (by decide)
  have F40_sourcePort : Fld Z h40 b40 "com/example/tracewell/tracewell/capture/Flow" "sourcePort" "I" (.int (0 : Int32)) := D40 (Or.inl (hw _ (List.mem_of_getElem? (i := 28) rfl))) (ty := .int) (by decide)
  have F40_destinationHigh : Fld Z h40 b40 "com/example/tracewell/tracewell/capture/Flow" "destinationHigh" "J" (.long (0 : Int64)) := D40 (Or.inl (hw _ (List.mem_of_getElem? (i := 30) rfl))) (ty := .long) (by decide)
  have F40_destinationLow : Fld Z h40 b40 "com/example/tracewell/tracewell/capture/Flow" "destinationLow" "J" (.long (0 : Int64)) := D40 (Or.inl (hw _ (List.mem_of_getElem? (i := 32) rfl))) (ty := .long) (by decide)
  have F40_destinationPort : Fld Z h40 b40 "com/example/tracewell/tracewell/capture/Flow" "destinationPort" "I" (.int (0 : Int32)) := D40 (Or.inl (hw _ (List.mem_of_getElem? (i := 34) rfl))) (ty := .int) (by decide)
  have Z40 : n0 ≤ h40.size := Nat.le_trans Z36 E40.1
  obtain ⟨_, _, ⟨T44, L44, k44, n44⟩, -, X44, ⟨Lc44, hQ44, l44, y44, z44⟩, st44⟩ := X40.specialBack hx (y := (⟨"com/example/tracewell/tracewell/capture/Flow", "<init>", "()V"⟩ : MethodName)) rfl hown (mvT hZ (hw _ (List.mem_of_getElem? (i := 10) rfl))) (mvT hZ (hw _ (List.mem_of_getElem? (i := 11) rfl))) (mvT hZ (hw _ (List.mem_of_getElem? (i := 12) rfl))) (by decide) (backOf (W := 1) (rmI0 l Z a0 hw [] b40 h40 n0 Z40) hZ (hw _ (List.mem_of_getElem? (i := 12) rfl)) (hw _ (List.mem_of_getElem? (i := 9) rfl)) (by decide) (by decide)) (g := (mkF m 202 #[.val (.long u0), .second, .val (.long u1), .second, iv u2, iv u3, iv u4, iv u5, iv ix, iv iy, iv kd, .val (.long xa), .second, .val (.long xb), .second, iv xc, .val (.long xd), .second, .val (.long xe), .second, iv xf, .val (.long ya), .second, .val (.long yb), .second, iv yc, .val (.long yd), .second, .val (.long ye), .second, iv yf, rv b32, .unset, .unset] [(.ref b40), (.ref b40)])) rfl (by rw [hml]; rfl) (Steps.refl _) (a := b40) (argsL := []) (rest := [(.ref b40)]) (lenOf pd_0 rfl) rfl (by show 2 * 0 + _ ≤ _; exact Nat.le_of_eq rfl) (hb hby at_202) (fun _ _ => ⟨rfl, e40, (by decide : 2 + 0 ≤ _), (by decide : 14 + 0 ≤ _)⟩)
  dsimp only [Pt.U, Pt.locs, Pt.cells, Pt.slots] at X44 l44 y44 z44 st44 hQ44
  subst l44 y44 z44
  obtain ⟨rfl, Nq44, eq44⟩ := hQ44
  have N44 := Fr.app N36 Nq44
  have B45 : own_Fl Z h40 b40 (0 : Int32) (0 : Int64) (0 : Int64) (0 : Int32) (0 : Int64) (0 : Int64) (0 : Int32) := ⟨A40, F40_ipv6, F40_sourceHigh, F40_sourceLow, F40_sourcePort, F40_destinationHigh, F40_destinationLow, F40_destinationPort⟩
  obtain ⟨cq46, kq46, q46a, q46b, q46c⟩ := isOf hZ eq44 A40
  obtain ⟨_, _, ⟨T46, L46, k46, n46⟩, -, X46, ⟨Lc46, hQ46, l46, y46, z46⟩, st46⟩ := X44.virtualBack hx (y := (⟨"com/example/tracewell/tracewell/capture/Flow", "set", "(ZJJIJJI)V"⟩ : MethodName)) (z := (⟨"com/example/tracewell/tracewell/capture/Flow", "set", "(ZJJIJJI)V"⟩ : MethodName)) hown (mvT hZ (hw _ (List.mem_of_getElem? (i := 16) rfl))) (mvT hZ (hw _ (List.mem_of_getElem? (i := 17) rfl))) (notFace_of_selects (args := #[]) (mvT hZ (hw _ (List.mem_of_getElem? (i := 19) rfl)))) (mvT hZ (hw _ (List.mem_of_getElem? (i := 19) rfl))) (mvT hZ (hw _ (List.mem_of_getElem? (i := 18) rfl))) (by decide) (backOf (W := 0) (rmSet l Z a0 hw [] b40 iy ya yb yc yd ye yf (0 : Int32) (0 : Int64) (0 : Int64) (0 : Int32) (0 : Int64) (0 : Int64) (0 : Int32) h40 n0 Z40 B45 ge_b40) hZ (hw _ (List.mem_of_getElem? (i := 20) rfl)) (hw _ (List.mem_of_getElem? (i := 9) rfl)) (by decide) (by decide)) q46a q46c (g := (mkF m 223 #[.val (.long u0), .second, .val (.long u1), .second, iv u2, iv u3, iv u4, iv u5, iv ix, iv iy, iv kd, .val (.long xa), .second, .val (.long xb), .second, iv xc, .val (.long xd), .second, .val (.long xe), .second, iv xf, .val (.long ya), .second, .val (.long yb), .second, iv yc, .val (.long yd), .second, .val (.long ye), .second, iv yf, rv b32, rv b40, .unset] [(.int yf), (.long ye), (.long yd), (.int yc), (.long yb), (.long ya), (.int iy), (.ref b40)])) rfl (by rw [hml]; rfl) (Steps.refl _) (argsL := [(.int iy), (.long ya), (.long yb), (.int yc), (.long yd), (.long ye), (.int yf)]) (rest := []) (lenOf pd_4 rfl) rfl (by show 2 * 0 + _ ≤ _; exact Nat.le_of_eq rfl) (hb hby at_223) (fun _ _ => ⟨rfl, eq44, (by decide : 2 + 0 ≤ _), (by decide : 14 + 0 ≤ _)⟩)
  dsimp only [Pt.U, Pt.locs, Pt.cells, Pt.slots] at X46 l46 y46 z46 st46 hQ46
  subst l46 y46 z46
  obtain ⟨rfl, Nq46, Kq46, Bq46⟩ := hQ46
  have N46 := Fr.app N44 Nq46
  have Z46 : n0 ≤ T46.heap.size := Nat.le_trans Z40 Kq46.1
  have Od47 := Od41.keep Kq46 (allS ge_b40 all0)
  have f48 := f42.keep Kq46
  have f49 := f43.keep Kq46 (ninS ne_b32_b40 nin0)
  have f50 := A40.keep Kq46
  have S52 : ∀ t, Steps p.tables e below (T46.setTop (mkF m 229 #[.val (.long u0), .second, .val (.long u1), .second, iv u2, iv u3, iv u4, iv u5, iv ix, iv iy, iv kd, .val (.long xa), .second, .val (.long xb), .second, iv xc, .val (.long xd), .second, .val (.long xe), .second, iv xf, .val (.long ya), .second, .val (.long yb), .second, iv yc, .val (.long yd), .second, .val (.long ye), .second, iv yf, rv b32, rv b40, .unset] [(.int (1 : Int32)), (.int kd)])) t → Steps p.tables e below (s₁.setTop (entryFrame m #[(.long u0), (.long u1), (.int u2), (.int u3), (.int u4), (.int u5)] maxLocals)) t := by
    intro t k
    refine S31 t ?_
    show Steps p.tables e below (T30.setTop (mkF m 170 #[.val (.long u0), .second, .val (.long u1), .second, iv u2, iv u3, iv u4, iv u5, iv ix, iv iy, iv kd, .val (.long xa), .second, .val (.long xb), .second, iv xc, .val (.long xd), .second, .val (.long xe), .second, iv xf, .val (.long ya), .second, .val (.long yb), .second, iv yc, .val (.long yd), .second, .val (.long ye), .second, iv yf, .unset, .unset, .unset] [])) _
    refine st32 _ ?_
    show Steps p.tables e below (T32.setTop (mkF m 173 #[.val (.long u0), .second, .val (.long u1), .second, iv u2, iv u3, iv u4, iv u5, iv ix, iv iy, iv kd, .val (.long xa), .second, .val (.long xb), .second, iv xc, .val (.long xd), .second, .val (.long xe), .second, iv xf, .val (.long ya), .second, .val (.long yb), .second, iv yc, .val (.long yd), .second, .val (.long ye), .second, iv yf, .unset, .unset, .unset] [(.ref b32)])) _
    refine XS.dup X32.here hx rfl (hb hby at_173) rfl rfl ?_
    show Steps p.tables e below (T32.setTop (mkF m 174 #[.val (.long u0), .second, .val (.long u1), .second, iv u2, iv u3, iv u4, iv u5, iv ix, iv iy, iv kd, .val (.long xa), .second, .val (.long xb), .second, iv xc, .val (.long xd), .second, .val (.long xe), .second, iv xf, .val (.long ya), .second, .val (.long yb), .second, iv yc, .val (.long yd), .second, .val (.long ye), .second, iv yf, .unset, .unset, .unset] [(.ref b32), (.ref b32)])) _
    refine st34.trans ?_
    show Steps p.tables e below (T34.setTop (mkF m 177 #[.val (.long u0), .second, .val (.long u1), .second, iv u2, iv u3, iv u4, iv u5, iv ix, iv iy, iv kd, .val (.long xa), .second, .val (.long xb), .second, iv xc, .val (.long xd), .second, .val (.long xe), .second, iv xf, .val (.long ya), .second, .val (.long yb), .second, iv yc, .val (.long yd), .second, .val (.long ye), .second, iv yf, .unset, .unset, .unset] [(.ref b32)])) _
    refine XS.astore X34.here hx rfl (hb hby at_177) rfl rfl (l' := #[.val (.long u0), .second, .val (.long u1), .second, iv u2, iv u3, iv u4, iv u5, iv ix, iv iy, iv kd, .val (.long xa), .second, .val (.long xb), .second, iv xc, .val (.long xd), .second, .val (.long xe), .second, iv xf, .val (.long ya), .second, .val (.long yb), .second, iv yc, .val (.long yd), .second, .val (.long ye), .second, iv yf, rv b32, .unset, .unset]) rfl ?_
    show Steps p.tables e below (T34.setTop (mkF m 179 #[.val (.long u0), .second, .val (.long u1), .second, iv u2, iv u3, iv u4, iv u5, iv ix, iv iy, iv kd, .val (.long xa), .second, .val (.long xb), .second, iv xc, .val (.long xd), .second, .val (.long xe), .second, iv xf, .val (.long ya), .second, .val (.long yb), .second, iv yc, .val (.long yd), .second, .val (.long ye), .second, iv yf, rv b32, .unset, .unset] [])) _
    refine XS.aload X34.here hx rfl (hb hby at_179) rfl rfl ?_
    show Steps p.tables e below (T34.setTop (mkF m 181 #[.val (.long u0), .second, .val (.long u1), .second, iv u2, iv u3, iv u4, iv u5, iv ix, iv iy, iv kd, .val (.long xa), .second, .val (.long xb), .second, iv xc, .val (.long xd), .second, .val (.long xe), .second, iv xf, .val (.long ya), .second, .val (.long yb), .second, iv yc, .val (.long yd), .second, .val (.long ye), .second, iv yf, rv b32, .unset, .unset] [(.ref b32)])) _
    refine XS.iload X34.here hx rfl (hb hby at_181) rfl ?_
    show Steps p.tables e below (T34.setTop (mkF m 183 #[.val (.long u0), .second, .val (.long u1), .second, iv u2, iv u3, iv u4, iv u5, iv ix, iv iy, iv kd, .val (.long xa), .second, .val (.long xb), .second, iv xc, .val (.long xd), .second, .val (.long xe), .second, iv xf, .val (.long ya), .second, .val (.long yb), .second, iv yc, .val (.long yd), .second, .val (.long ye), .second, iv yf, rv b32, .unset, .unset] [(.int ix), (.ref b32)])) _
    refine XS.lload X34.here hx rfl (hb hby at_183) rfl ?_
    show Steps p.tables e below (T34.setTop (mkF m 185 #[.val (.long u0), .second, .val (.long u1), .second, iv u2, iv u3, iv u4, iv u5, iv ix, iv iy, iv kd, .val (.long xa), .second, .val (.long xb), .second, iv xc, .val (.long xd), .second, .val (.long xe), .second, iv xf, .val (.long ya), .second, .val (.long yb), .second, iv yc, .val (.long yd), .second, .val (.long ye), .second, iv yf, rv b32, .unset, .unset] [(.long xa), (.int ix), (.ref b32)])) _
    refine XS.lload X34.here hx rfl (hb hby at_185) rfl ?_
    show Steps p.tables e below (T34.setTop (mkF m 187 #[.val (.long u0), .second, .val (.long u1), .second, iv u2, iv u3, iv u4, iv u5, iv ix, iv iy, iv kd, .val (.long xa), .second, .val (.long xb), .second, iv xc, .val (.long xd), .second, .val (.long xe), .second, iv xf, .val (.long ya), .second, .val (.long yb), .second, iv yc, .val (.long yd), .second, .val (.long ye), .second, iv yf, rv b32, .unset, .unset] [(.long xb), (.long xa), (.int ix), (.ref b32)])) _
    refine XS.iload X34.here hx rfl (hb hby at_187) rfl ?_
    show Steps p.tables e below (T34.setTop (mkF m 189 #[.val (.long u0), .second, .val (.long u1), .second, iv u2, iv u3, iv u4, iv u5, iv ix, iv iy, iv kd, .val (.long xa), .second, .val (.long xb), .second, iv xc, .val (.long xd), .second, .val (.long xe), .second, iv xf, .val (.long ya), .second, .val (.long yb), .second, iv yc, .val (.long yd), .second, .val (.long ye), .second, iv yf, rv b32, .unset, .unset] [(.int xc), (.long xb), (.long xa), (.int ix), (.ref b32)])) _
    refine XS.lload X34.here hx rfl (hb hby at_189) rfl ?_
    show Steps p.tables e below (T34.setTop (mkF m 191 #[.val (.long u0), .second, .val (.long u1), .second, iv u2, iv u3, iv u4, iv u5, iv ix, iv iy, iv kd, .val (.long xa), .second, .val (.long xb), .second, iv xc, .val (.long xd), .second, .val (.long xe), .second, iv xf, .val (.long ya), .second, .val (.long yb), .second, iv yc, .val (.long yd), .second, .val (.long ye), .second, iv yf, rv b32, .unset, .unset] [(.long xd), (.int xc), (.long xb), (.long xa), (.int ix), (.ref b32)])) _
    refine XS.lload X34.here hx rfl (hb hby at_191) rfl ?_
    show Steps p.tables e below (T34.setTop (mkF m 193 #[.val (.long u0), .second, .val (.long u1), .second, iv u2, iv u3, iv u4, iv u5, iv ix, iv iy, iv kd, .val (.long xa), .second, .val (.long xb), .second, iv xc, .val (.long xd), .second, .val (.long xe), .second, iv xf, .val (.long ya), .second, .val (.long yb), .second, iv yc, .val (.long yd), .second, .val (.long ye), .second, iv yf, rv b32, .unset, .unset] [(.long xe), (.long xd), (.int xc), (.long xb), (.long xa), (.int ix), (.ref b32)])) _
    refine XS.iload X34.here hx rfl (hb hby at_193) rfl ?_
    show Steps p.tables e below (T34.setTop (mkF m 195 #[.val (.long u0), .second, .val (.long u1), .second, iv u2, iv u3, iv u4, iv u5, iv ix, iv iy, iv kd, .val (.long xa), .second, .val (.long xb), .second, iv xc, .val (.long xd), .second, .val (.long xe), .second, iv xf, .val (.long ya), .second, .val (.long yb), .second, iv yc, .val (.long yd), .second, .val (.long ye), .second, iv yf, rv b32, .unset, .unset] [(.int xf), (.long xe), (.long xd), (.int xc), (.long xb), (.long xa), (.int ix), (.ref b32)])) _
    refine st36.trans ?_
    show Steps p.tables e below (T36.setTop (mkF m 198 #[.val (.long u0), .second, .val (.long u1), .second, iv u2, iv u3, iv u4, iv u5, iv ix, iv iy, iv kd, .val (.long xa), .second, .val (.long xb), .second, iv xc, .val (.long xd), .second, .val (.long xe), .second, iv xf, .val (.long ya), .second, .val (.long yb), .second, iv yc, .val (.long yd), .second, .val (.long ye), .second, iv yf, rv b32, .unset, .unset] [])) _
    refine st40 _ ?_
    show Steps p.tables e below (T40.setTop (mkF m 201 #[.val (.long u0), .second, .val (.long u1), .second, iv u2, iv u3, iv u4, iv u5, iv ix, iv iy, iv kd, .val (.long xa), .second, .val (.long xb), .second, iv xc, .val (.long xd), .second, .val (.long xe), .second, iv xf, .val (.long ya), .second, .val (.long yb), .second, iv yc, .val (.long yd), .second, .val (.long ye), .second, iv yf, rv b32, .unset, .unset] [(.ref b40)])) _
    refine XS.dup X40.here hx rfl (hb hby at_201) rfl rfl ?_
    show Steps p.tables e below (T40.setTop (mkF m 202 #[.val (.long u0), .second, .val (.long u1), .second, iv u2, iv u3, iv u4, iv u5, iv ix, iv iy, iv kd, .val (.long xa), .second, .val (.long xb), .second, iv xc, .val (.long xd), .second, .val (.long xe), .second, iv xf, .val (.long ya), .second, .val (.long yb), .second, iv yc, .val (.long yd), .second, .val (.long ye), .second, iv yf, rv b32, .unset, .unset] [(.ref b40), (.ref b40)])) _
    refine st44.trans ?_
    show Steps p.tables e below (T44.setTop (mkF m 205 #[.val (.long u0), .second, .val (.long u1), .second, iv u2, iv u3, iv u4, iv u5, iv ix, iv iy, iv kd, .val (.long xa), .second, .val (.long xb), .second, iv xc, .val (.long xd), .second, .val (.long xe), .second, iv xf, .val (.long ya), .second, .val (.long yb), .second, iv yc, .val (.long yd), .second, .val (.long ye), .second, iv yf, rv b32, .unset, .unset] [(.ref b40)])) _
    refine XS.astore X44.here hx rfl (hb hby at_205) rfl rfl (l' := #[.val (.long u0), .second, .val (.long u1), .second, iv u2, iv u3, iv u4, iv u5, iv ix, iv iy, iv kd, .val (.long xa), .second, .val (.long xb), .second, iv xc, .val (.long xd), .second, .val (.long xe), .second, iv xf, .val (.long ya), .second, .val (.long yb), .second, iv yc, .val (.long yd), .second, .val (.long ye), .second, iv yf, rv b32, rv b40, .unset]) rfl ?_
    show Steps p.tables e below (T44.setTop (mkF m 207 #[.val (.long u0), .second, .val (.long u1), .second, iv u2, iv u3, iv u4, iv u5, iv ix, iv iy, iv kd, .val (.long xa), .second, .val (.long xb), .second, iv xc, .val (.long xd), .second, .val (.long xe), .second, iv xf, .val (.long ya), .second, .val (.long yb), .second, iv yc, .val (.long yd), .second, .val (.long ye), .second, iv yf, rv b32, rv b40, .unset] [])) _
    refine XS.aload X44.here hx rfl (hb hby at_207) rfl rfl ?_
    show Steps p.tables e below (T44.setTop (mkF m 209 #[.val (.long u0), .second, .val (.long u1), .second, iv u2, iv u3, iv u4, iv u5, iv ix, iv iy, iv kd, .val (.long xa), .second, .val (.long xb), .second, iv xc, .val (.long xd), .second, .val (.long xe), .second, iv xf, .val (.long ya), .second, .val (.long yb), .second, iv yc, .val (.long yd), .second, .val (.long ye), .second, iv yf, rv b32, rv b40, .unset] [(.ref b40)])) _
    refine XS.iload X44.here hx rfl (hb hby at_209) rfl ?_
    show Steps p.tables e below (T44.setTop (mkF m 211 #[.val (.long u0), .second, .val (.long u1), .second, iv u2, iv u3, iv u4, iv u5, iv ix, iv iy, iv kd, .val (.long xa), .second, .val (.long xb), .second, iv xc, .val (.long xd), .second, .val (.long xe), .second, iv xf, .val (.long ya), .second, .val (.long yb), .second, iv yc, .val (.long yd), .second, .val (.long ye), .second, iv yf, rv b32, rv b40, .unset] [(.int iy), (.ref b40)])) _
    refine XS.lload X44.here hx rfl (hb hby at_211) rfl ?_
    show Steps p.tables e below (T44.setTop (mkF m 213 #[.val (.long u0), .second, .val (.long u1), .second, iv u2, iv u3, iv u4, iv u5, iv ix, iv iy, iv kd, .val (.long xa), .second, .val (.long xb), .second, iv xc, .val (.long xd), .second, .val (.long xe), .second, iv xf, .val (.long ya), .second, .val (.long yb), .second, iv yc, .val (.long yd), .second, .val (.long ye), .second, iv yf, rv b32, rv b40, .unset] [(.long ya), (.int iy), (.ref b40)])) _
    refine XS.lload X44.here hx rfl (hb hby at_213) rfl ?_
    show Steps p.tables e below (T44.setTop (mkF m 215 #[.val (.long u0), .second, .val (.long u1), .second, iv u2, iv u3, iv u4, iv u5, iv ix, iv iy, iv kd, .val (.long xa), .second, .val (.long xb), .second, iv xc, .val (.long xd), .second, .val (.long xe), .second, iv xf, .val (.long ya), .second, .val (.long yb), .second, iv yc, .val (.long yd), .second, .val (.long ye), .second, iv yf, rv b32, rv b40, .unset] [(.long yb), (.long ya), (.int iy), (.ref b40)])) _
    refine XS.iload X44.here hx rfl (hb hby at_215) rfl ?_
    show Steps p.tables e below (T44.setTop (mkF m 217 #[.val (.long u0), .second, .val (.long u1), .second, iv u2, iv u3, iv u4, iv u5, iv ix, iv iy, iv kd, .val (.long xa), .second, .val (.long xb), .second, iv xc, .val (.long xd), .second, .val (.long xe), .second, iv xf, .val (.long ya), .second, .val (.long yb), .second, iv yc, .val (.long yd), .second, .val (.long ye), .second, iv yf, rv b32, rv b40, .unset] [(.int yc), (.long yb), (.long ya), (.int iy), (.ref b40)])) _
    refine XS.lload X44.here hx rfl (hb hby at_217) rfl ?_
    show Steps p.tables e below (T44.setTop (mkF m 219 #[.val (.long u0), .second, .val (.long u1), .second, iv u2, iv u3, iv u4, iv u5, iv ix, iv iy, iv kd, .val (.long xa), .second, .val (.long xb), .second, iv xc, .val (.long xd), .second, .val (.long xe), .second, iv xf, .val (.long ya), .second, .val (.long yb), .second, iv yc, .val (.long yd), .second, .val (.long ye), .second, iv yf, rv b32, rv b40, .unset] [(.long yd), (.int yc), (.long yb), (.long ya), (.int iy), (.ref b40)])) _
    refine XS.lload X44.here hx rfl (hb hby at_219) rfl ?_
    show Steps p.tables e below (T44.setTop (mkF m 221 #[.val (.long u0), .second, .val (.long u1), .second, iv u2, iv u3, iv u4, iv u5, iv ix, iv iy, iv kd, .val (.long xa), .second, .val (.long xb), .second, iv xc, .val (.long xd), .second, .val (.long xe), .second, iv xf, .val (.long ya), .second, .val (.long yb), .second, iv yc, .val (.long yd), .second, .val (.long ye), .second, iv yf, rv b32, rv b40, .unset] [(.long ye), (.long yd), (.int yc), (.long yb), (.long ya), (.int iy), (.ref b40)])) _
    refine XS.iload X44.here hx rfl (hb hby at_221) rfl ?_
    show Steps p.tables e below (T44.setTop (mkF m 223 #[.val (.long u0), .second, .val (.long u1), .second, iv u2, iv u3, iv u4, iv u5, iv ix, iv iy, iv kd, .val (.long xa), .second, .val (.long xb), .second, iv xc, .val (.long xd), .second, .val (.long xe), .second, iv xf, .val (.long ya), .second, .val (.long yb), .second, iv yc, .val (.long yd), .second, .val (.long ye), .second, iv yf, rv b32, rv b40, .unset] [(.int yf), (.long ye), (.long yd), (.int yc), (.long yb), (.long ya), (.int iy), (.ref b40)])) _
    refine st46.trans ?_
    show Steps p.tables e below (T46.setTop (mkF m 226 #[.val (.long u0), .second, .val (.long u1), .second, iv u2, iv u3, iv u4, iv u5, iv ix, iv iy, iv kd, .val (.long xa), .second, .val (.long xb), .second, iv xc, .val (.long xd), .second, .val (.long xe), .second, iv xf, .val (.long ya), .second, .val (.long yb), .second, iv yc, .val (.long yd), .second, .val (.long ye), .second, iv yf, rv b32, rv b40, .unset] [])) _
    refine XS.iload X46.here hx rfl (hb hby at_226) rfl ?_
    show Steps p.tables e below (T46.setTop (mkF m 228 #[.val (.long u0), .second, .val (.long u1), .second, iv u2, iv u3, iv u4, iv u5, iv ix, iv iy, iv kd, .val (.long xa), .second, .val (.long xb), .second, iv xc, .val (.long xd), .second, .val (.long xe), .second, iv xf, .val (.long ya), .second, .val (.long yb), .second, iv yc, .val (.long yd), .second, .val (.long ye), .second, iv yf, rv b32, rv b40, .unset] [(.int kd)])) _
    refine XS.iconst X46.here hx rfl (hb hby at_228) ?_
    exact k
  by_cases hc53 : kd = (1 : Int32)
  · skip
    obtain ⟨cq54, kq54, q54a, q54b, q54c⟩ := isOf hZ rfl f48
    obtain ⟨_, _, ⟨T54, L54, k54, n54⟩, -, X54, ⟨Lc54, hQ54, l54, y54, z54⟩, st54⟩ := X46.virtualBack hx (y := (⟨"com/example/tracewell/tracewell/capture/Flow", "equals", "(Ljava/lang/Object;)Z"⟩ : MethodName)) (z := (⟨"com/example/tracewell/tracewell/capture/Flow", "equals", "(Ljava/lang/Object;)Z"⟩ : MethodName)) hown (mvT hZ (hw _ (List.mem_of_getElem? (i := 35) rfl))) (mvT hZ (hw _ (List.mem_of_getElem? (i := 36) rfl))) (notFace_of_selects (args := #[]) (mvT hZ (hw _ (List.mem_of_getElem? (i := 38) rfl)))) (mvT hZ (hw _ (List.mem_of_getElem? (i := 38) rfl))) (mvT hZ (hw _ (List.mem_of_getElem? (i := 37) rfl))) (by decide) (backOf (W := 0) (rmEqN l Z a0 hw [] b32 T46.heap n0 Z46) hZ (hw _ (List.mem_of_getElem? (i := 39) rfl)) (hw _ (List.mem_of_getElem? (i := 9) rfl)) (by decide) (by decide)) q54a q54c (g := (mkF m 235 #[.val (.long u0), .second, .val (.long u1), .second, iv u2, iv u3, iv u4, iv u5, iv ix, iv iy, iv kd, .val (.long xa), .second, .val (.long xb), .second, iv xc, .val (.long xd), .second, .val (.long xe), .second, iv xf, .val (.long ya), .second, .val (.long yb), .second, iv yc, .val (.long yd), .second, .val (.long ye), .second, iv yf, rv b32, rv b40, .unset] [.null, (.ref b32)])) rfl (by rw [hml]; rfl) (Steps.refl _) (argsL := [.null]) (rest := []) (lenOf pd_5 rfl) rfl (by show 2 * 0 + _ ≤ _; exact Nat.le_of_eq rfl) (hb hby at_235) (fun _ _ => ⟨rfl, rfl, (by decide : 2 + 0 ≤ _), (by decide : 14 + 0 ≤ _)⟩)
    dsimp only [Pt.U, Pt.locs, Pt.cells, Pt.slots] at X54 l54 y54 z54 st54 hQ54
    subst l54 y54 z54
    obtain ⟨rfl, Nq54, eq54⟩ := hQ54
    have N54 := Fr.app N46 Nq54
    obtain ⟨fs, hr, hrun, hended, hW, hsame⟩ := X54.leave (v := some (.int (1 : Int32))) (fun h => by rw [Bd.returns] at h; cases h)
    refine ⟨_, _, S52 _ ?_, hrun, hended, _, _, rfl, ?_, ⟨_, rfl⟩, hW, hsame.mono (by decide) (by decide)⟩
    · skip
      show Steps p.tables e below (T46.setTop (mkF m 229 #[.val (.long u0), .second, .val (.long u1), .second, iv u2, iv u3, iv u4, iv u5, iv ix, iv iy, iv kd, .val (.long xa), .second, .val (.long xb), .second, iv xc, .val (.long xd), .second, .val (.long xe), .second, iv xf, .val (.long ya), .second, .val (.long yb), .second, iv yc, .val (.long yd), .second, .val (.long ye), .second, iv yf, rv b32, rv b40, .unset] [(.int (1 : Int32)), (.int kd)])) _
      refine XS.icmpNo X46.here hx rfl (hb hby at_229) rfl (teq hc53).2 ?_
      show Steps p.tables e below (T46.setTop (mkF m 232 #[.val (.long u0), .second, .val (.long u1), .second, iv u2, iv u3, iv u4, iv u5, iv ix, iv iy, iv kd, .val (.long xa), .second, .val (.long xb), .second, iv xc, .val (.long xd), .second, .val (.long xe), .second, iv xf, .val (.long ya), .second, .val (.long yb), .second, iv yc, .val (.long yd), .second, .val (.long ye), .second, iv yf, rv b32, rv b40, .unset] [])) _
      refine XS.aload X46.here hx rfl (hb hby at_232) rfl rfl ?_
      show Steps p.tables e below (T46.setTop (mkF m 234 #[.val (.long u0), .second, .val (.long u1), .second, iv u2, iv u3, iv u4, iv u5, iv ix, iv iy, iv kd, .val (.long xa), .second, .val (.long xb), .second, iv xc, .val (.long xd), .second, .val (.long xe), .second, iv xf, .val (.long ya), .second, .val (.long yb), .second, iv yc, .val (.long yd), .second, .val (.long ye), .second, iv yf, rv b32, rv b40, .unset] [(.ref b32)])) _
      refine XS.aconstNull X46.here hx rfl (hb hby at_234) ?_
      show Steps p.tables e below (T46.setTop (mkF m 235 #[.val (.long u0), .second, .val (.long u1), .second, iv u2, iv u3, iv u4, iv u5, iv ix, iv iy, iv kd, .val (.long xa), .second, .val (.long xb), .second, iv xc, .val (.long xd), .second, .val (.long xe), .second, iv xf, .val (.long ya), .second, .val (.long yb), .second, iv yc, .val (.long yd), .second, .val (.long ye), .second, iv yf, rv b32, rv b40, .unset] [.null, (.ref b32)])) _
      refine st54.trans ?_
      show Steps p.tables e below (T54.setTop (mkF m 238 #[.val (.long u0), .second, .val (.long u1), .second, iv u2, iv u3, iv u4, iv u5, iv ix, iv iy, iv kd, .val (.long xa), .second, .val (.long xb), .second, iv xc, .val (.long xd), .second, .val (.long xe), .second, iv xf, .val (.long ya), .second, .val (.long yb), .second, iv yc, .val (.long yd), .second, .val (.long ye), .second, iv yf, rv b32, rv b40, .unset] [(.int (0 : Int32))])) _
      refine XS.ifNo X54.here hx rfl (hb hby at_238) rfl ((if0 _ _).trans (teq (by decide : (0 : Int32) = (0 : Int32))).2) ?_
      show Steps p.tables e below (T54.setTop (mkF m 241 #[.val (.long u0), .second, .val (.long u1), .second, iv u2, iv u3, iv u4, iv u5, iv ix, iv iy, iv kd, .val (.long xa), .second, .val (.long xb), .second, iv xc, .val (.long xd), .second, .val (.long xe), .second, iv xf, .val (.long ya), .second, .val (.long yb), .second, iv yc, .val (.long yd), .second, .val (.long ye), .second, iv yf, rv b32, rv b40, .unset] [])) _
      refine XS.iconst X54.here hx rfl (hb hby at_241) ?_
      show Steps p.tables e below (T54.setTop (mkF m 242 #[.val (.long u0), .second, .val (.long u1), .second, iv u2, iv u3, iv u4, iv u5, iv ix, iv iy, iv kd, .val (.long xa), .second, .val (.long xb), .second, iv xc, .val (.long xd), .second, .val (.long xe), .second, iv xf, .val (.long ya), .second, .val (.long yb), .second, iv yc, .val (.long yd), .second, .val (.long ye), .second, iv yf, rv b32, rv b40, .unset] [(.int (1 : Int32))])) _
      refine XS.goto X54.here hx rfl (pc0 := 242) (pc' := 246) rfl (hb hby at_242) (by decide) (by decide) ?_
      show Steps p.tables e below (T54.setTop (mkF m 246 #[.val (.long u0), .second, .val (.long u1), .second, iv u2, iv u3, iv u4, iv u5, iv ix, iv iy, iv kd, .val (.long xa), .second, .val (.long xb), .second, iv xc, .val (.long xd), .second, .val (.long xe), .second, iv xf, .val (.long ya), .second, .val (.long yb), .second, iv yc, .val (.long yd), .second, .val (.long ye), .second, iv yf, rv b32, rv b40, .unset] [(.int (1 : Int32))])) _
      exact retN X54 hx (t := .boolean) Bd.returns (by simp) (hb hby at_246) hr
    · show Q0 Z u0 u1 u2 u3 u4 u5 ca cc h0 n0 _ T54.heap _
      rw [eq54]
      exact ⟨rfl, N54⟩
  · skip
    have S55 : ∀ t, Steps p.tables e below (T46.setTop (mkF m 250 #[.val (.long u0), .second, .val (.long u1), .second, iv u2, iv u3, iv u4, iv u5, iv ix, iv iy, iv kd, .val (.long xa), .second, .val (.long xb), .second, iv xc, .val (.long xd), .second, .val (.long xe), .second, iv xf, .val (.long ya), .second, .val (.long yb), .second, iv yc, .val (.long yd), .second, .val (.long ye), .second, iv yf, rv b32, rv b40, .unset] [(.int (2 : Int32)), (.int kd)])) t → Steps p.tables e below (s₁.setTop (entryFrame m #[(.long u0), (.long u1), (.int u2), (.int u3), (.int u4), (.int u5)] maxLocals)) t := by
      intro t k
      refine S52 t ?_
      show Steps p.tables e below (T46.setTop (mkF m 229 #[.val (.long u0), .second, .val (.long u1), .second, iv u2, iv u3, iv u4, iv u5, iv ix, iv iy, iv kd, .val (.long xa), .second, .val (.long xb), .second, iv xc, .val (.long xd), .second, .val (.long xe), .second, iv xf, .val (.long ya), .second, .val (.long yb), .second, iv yc, .val (.long yd), .second, .val (.long ye), .second, iv yf, rv b32, rv b40, .unset] [(.int (1 : Int32)), (.int kd)])) _
      refine XS.icmpYes X46.here hx rfl (pc0 := 229) (pc' := 247) rfl (hb hby at_229) rfl (feq hc53).2 (by decide) (by decide) ?_
      show Steps p.tables e below (T46.setTop (mkF m 247 #[.val (.long u0), .second, .val (.long u1), .second, iv u2, iv u3, iv u4, iv u5, iv ix, iv iy, iv kd, .val (.long xa), .second, .val (.long xb), .second, iv xc, .val (.long xd), .second, .val (.long xe), .second, iv xf, .val (.long ya), .second, .val (.long yb), .second, iv yc, .val (.long yd), .second, .val (.long ye), .second, iv yf, rv b32, rv b40, .unset] [])) _
      refine XS.iload X46.here hx rfl (hb hby at_247) rfl ?_
      show Steps p.tables e below (T46.setTop (mkF m 249 #[.val (.long u0), .second, .val (.long u1), .second, iv u2, iv u3, iv u4, iv u5, iv ix, iv iy, iv kd, .val (.long xa), .second, .val (.long xb), .second, iv xc, .val (.long xd), .second, .val (.long xe), .second, iv xf, .val (.long ya), .second, .val (.long yb), .second, iv yc, .val (.long yd), .second, .val (.long ye), .second, iv yf, rv b32, rv b40, .unset] [(.int kd)])) _
      refine XS.iconst X46.here hx rfl (hb hby at_249) ?_
      exact k
    by_cases hc56 : kd = (2 : Int32)
    · skip
      obtain ⟨_, _, ⟨T57, L57, k57, n57⟩, -, X57, ⟨Lc57, hQ57, l57, y57, z57⟩, st57⟩ := Jvm.LawKit.callS X46 hx (y := (⟨"java/lang/Long", "valueOf", "(J)Ljava/lang/Long;"⟩ : MethodName)) hown (mvT hZ (hw _ (List.mem_of_getElem? (i := 42) rfl))) (mvT hZ (hw _ (List.mem_of_getElem? (i := 43) rfl))) (mvT hZ (hw _ (List.mem_of_getElem? (i := 44) rfl))) (mvT hZ (hw _ (List.mem_of_getElem? (i := 45) rfl))) (by decide) (backOf (W := 0) (rmLV l Z a0 hw [] u0 ca cc T46.heap n0 Z46 Od47 hS hB) hZ (hw _ (List.mem_of_getElem? (i := 45) rfl)) (hw _ (List.mem_of_getElem? (i := 44) rfl)) (by decide) (by decide)) (g := (mkF m 254 #[.val (.long u0), .second, .val (.long u1), .second, iv u2, iv u3, iv u4, iv u5, iv ix, iv iy, iv kd, .val (.long xa), .second, .val (.long xb), .second, iv xc, .val (.long xd), .second, .val (.long xe), .second, iv xf, .val (.long ya), .second, .val (.long yb), .second, iv yc, .val (.long yd), .second, .val (.long ye), .second, iv yf, rv b32, rv b40, .unset] [(.long u0)])) rfl (by rw [hml]; rfl) (argsL := [(.long u0)]) (rest := []) (lenOf pd_6 rfl) rfl (by show 2 * 0 + _ ≤ _; exact Nat.le_of_eq rfl) (hb hby at_254) (fun _ _ => ⟨rfl, rfl, (by decide : 2 + 1 ≤ _), (by decide : 14 + 1 ≤ _)⟩)
      dsimp only [Pt.U, Pt.locs, Pt.cells, Pt.slots] at X57 l57 y57 z57 st57 hQ57
      subst l57 y57 z57
      obtain ⟨lb57, rfl, Nq57, Kq57, Eq57⟩ := hQ57
      have N57 := Fr.app N46 Nq57
      have Z57 : n0 ≤ T57.heap.size := Nat.le_trans Z46 Kq57.1
      have Od58 := Od47.keep Kq57 all0
      have f59 := f48.keep Kq57
      have f60 := f49.keep Kq57 nin0
      have f61 := f50.keep Kq57
      have f62 := Bq46.keep Kq57 nin0
      obtain ⟨cq63, kq63, q63a, q63b, q63c⟩ := isOf hZ rfl f59
      obtain ⟨_, _, ⟨T63, L63, k63, n63⟩, -, X63, ⟨Lc63, hQ63, l63, y63, z63⟩, st63⟩ := X57.virtualBack hx (y := (⟨"com/example/tracewell/tracewell/capture/Flow", "equals", "(Ljava/lang/Object;)Z"⟩ : MethodName)) (z := (⟨"com/example/tracewell/tracewell/capture/Flow", "equals", "(Ljava/lang/Object;)Z"⟩ : MethodName)) hown (mvT hZ (hw _ (List.mem_of_getElem? (i := 35) rfl))) (mvT hZ (hw _ (List.mem_of_getElem? (i := 36) rfl))) (notFace_of_selects (args := #[]) (mvT hZ (hw _ (List.mem_of_getElem? (i := 38) rfl)))) (mvT hZ (hw _ (List.mem_of_getElem? (i := 38) rfl))) (mvT hZ (hw _ (List.mem_of_getElem? (i := 37) rfl))) (by decide) (backOf (W := 0) (rmEqL l Z a0 hw [] b32 lb57 T57.heap n0 Z57 Eq57) hZ (hw _ (List.mem_of_getElem? (i := 39) rfl)) (hw _ (List.mem_of_getElem? (i := 9) rfl)) (by decide) (by decide)) q63a q63c (g := (mkF m 263 #[.val (.long u0), .second, .val (.long u1), .second, iv u2, iv u3, iv u4, iv u5, iv ix, iv iy, iv kd, .val (.long xa), .second, .val (.long xb), .second, iv xc, .val (.long xd), .second, .val (.long xe), .second, iv xf, .val (.long ya), .second, .val (.long yb), .second, iv yc, .val (.long yd), .second, .val (.long ye), .second, iv yf, rv b32, rv b40, rv lb57] [(.ref lb57), (.ref b32)])) rfl (by rw [hml]; rfl) (Steps.refl _) (argsL := [(.ref lb57)]) (rest := []) (lenOf pd_5 rfl) rfl (by show 2 * 0 + _ ≤ _; exact Nat.le_of_eq rfl) (hb hby at_263) (fun _ _ => ⟨rfl, rfl, (by decide : 3 + 0 ≤ _), (by decide : 15 + 0 ≤ _)⟩)
      dsimp only [Pt.U, Pt.locs, Pt.cells, Pt.slots] at X63 l63 y63 z63 st63 hQ63
      subst l63 y63 z63
      obtain ⟨rfl, Nq63, eq63⟩ := hQ63
      have N63 := Fr.app N57 Nq63
      obtain ⟨fs, hr, hrun, hended, hW, hsame⟩ := X63.leave (v := some (.int (1 : Int32))) (fun h => by rw [Bd.returns] at h; cases h)
      refine ⟨_, _, S55 _ ?_, hrun, hended, _, _, rfl, ?_, ⟨_, rfl⟩, hW, hsame.mono (by decide) (by decide)⟩
      · skip
        show Steps p.tables e below (T46.setTop (mkF m 250 #[.val (.long u0), .second, .val (.long u1), .second, iv u2, iv u3, iv u4, iv u5, iv ix, iv iy, iv kd, .val (.long xa), .second, .val (.long xb), .second, iv xc, .val (.long xd), .second, .val (.long xe), .second, iv xf, .val (.long ya), .second, .val (.long yb), .second, iv yc, .val (.long yd), .second, .val (.long ye), .second, iv yf, rv b32, rv b40, .unset] [(.int (2 : Int32)), (.int kd)])) _
        refine XS.icmpNo X46.here hx rfl (hb hby at_250) rfl (teq hc56).2 ?_
        show Steps p.tables e below (T46.setTop (mkF m 253 #[.val (.long u0), .second, .val (.long u1), .second, iv u2, iv u3, iv u4, iv u5, iv ix, iv iy, iv kd, .val (.long xa), .second, .val (.long xb), .second, iv xc, .val (.long xd), .second, .val (.long xe), .second, iv xf, .val (.long ya), .second, .val (.long yb), .second, iv yc, .val (.long yd), .second, .val (.long ye), .second, iv yf, rv b32, rv b40, .unset] [])) _
        refine XS.lloadN X46.here hx rfl (hb hby at_253) rfl ?_
        show Steps p.tables e below (T46.setTop (mkF m 254 #[.val (.long u0), .second, .val (.long u1), .second, iv u2, iv u3, iv u4, iv u5, iv ix, iv iy, iv kd, .val (.long xa), .second, .val (.long xb), .second, iv xc, .val (.long xd), .second, .val (.long xe), .second, iv xf, .val (.long ya), .second, .val (.long yb), .second, iv yc, .val (.long yd), .second, .val (.long ye), .second, iv yf, rv b32, rv b40, .unset] [(.long u0)])) _
        refine st57 _ ?_
        show Steps p.tables e below (T57.setTop (mkF m 257 #[.val (.long u0), .second, .val (.long u1), .second, iv u2, iv u3, iv u4, iv u5, iv ix, iv iy, iv kd, .val (.long xa), .second, .val (.long xb), .second, iv xc, .val (.long xd), .second, .val (.long xe), .second, iv xf, .val (.long ya), .second, .val (.long yb), .second, iv yc, .val (.long yd), .second, .val (.long ye), .second, iv yf, rv b32, rv b40, .unset] [(.ref lb57)])) _
        refine XS.astore X57.here hx rfl (hb hby at_257) rfl rfl (l' := #[.val (.long u0), .second, .val (.long u1), .second, iv u2, iv u3, iv u4, iv u5, iv ix, iv iy, iv kd, .val (.long xa), .second, .val (.long xb), .second, iv xc, .val (.long xd), .second, .val (.long xe), .second, iv xf, .val (.long ya), .second, .val (.long yb), .second, iv yc, .val (.long yd), .second, .val (.long ye), .second, iv yf, rv b32, rv b40, rv lb57]) rfl ?_
        show Steps p.tables e below (T57.setTop (mkF m 259 #[.val (.long u0), .second, .val (.long u1), .second, iv u2, iv u3, iv u4, iv u5, iv ix, iv iy, iv kd, .val (.long xa), .second, .val (.long xb), .second, iv xc, .val (.long xd), .second, .val (.long xe), .second, iv xf, .val (.long ya), .second, .val (.long yb), .second, iv yc, .val (.long yd), .second, .val (.long ye), .second, iv yf, rv b32, rv b40, rv lb57] [])) _
        refine XS.aload X57.here hx rfl (hb hby at_259) rfl rfl ?_
        show Steps p.tables e below (T57.setTop (mkF m 261 #[.val (.long u0), .second, .val (.long u1), .second, iv u2, iv u3, iv u4, iv u5, iv ix, iv iy, iv kd, .val (.long xa), .second, .val (.long xb), .second, iv xc, .val (.long xd), .second, .val (.long xe), .second, iv xf, .val (.long ya), .second, .val (.long yb), .second, iv yc, .val (.long yd), .second, .val (.long ye), .second, iv yf, rv b32, rv b40, rv lb57] [(.ref b32)])) _
        refine XS.aload X57.here hx rfl (hb hby at_261) rfl rfl ?_
        show Steps p.tables e below (T57.setTop (mkF m 263 #[.val (.long u0), .second, .val (.long u1), .second, iv u2, iv u3, iv u4, iv u5, iv ix, iv iy, iv kd, .val (.long xa), .second, .val (.long xb), .second, iv xc, .val (.long xd), .second, .val (.long xe), .second, iv xf, .val (.long ya), .second, .val (.long yb), .second, iv yc, .val (.long yd), .second, .val (.long ye), .second, iv yf, rv b32, rv b40, rv lb57] [(.ref lb57), (.ref b32)])) _
        refine st63.trans ?_
        show Steps p.tables e below (T63.setTop (mkF m 266 #[.val (.long u0), .second, .val (.long u1), .second, iv u2, iv u3, iv u4, iv u5, iv ix, iv iy, iv kd, .val (.long xa), .second, .val (.long xb), .second, iv xc, .val (.long xd), .second, .val (.long xe), .second, iv xf, .val (.long ya), .second, .val (.long yb), .second, iv yc, .val (.long yd), .second, .val (.long ye), .second, iv yf, rv b32, rv b40, rv lb57] [(.int (0 : Int32))])) _
        refine XS.ifNo X63.here hx rfl (hb hby at_266) rfl ((if0 _ _).trans (teq (by decide : (0 : Int32) = (0 : Int32))).2) ?_
        show Steps p.tables e below (T63.setTop (mkF m 269 #[.val (.long u0), .second, .val (.long u1), .second, iv u2, iv u3, iv u4, iv u5, iv ix, iv iy, iv kd, .val (.long xa), .second, .val (.long xb), .second, iv xc, .val (.long xd), .second, .val (.long xe), .second, iv xf, .val (.long ya), .second, .val (.long yb), .second, iv yc, .val (.long yd), .second, .val (.long ye), .second, iv yf, rv b32, rv b40, rv lb57] [])) _
        refine XS.iconst X63.here hx rfl (hb hby at_269) ?_
        show Steps p.tables e below (T63.setTop (mkF m 270 #[.val (.long u0), .second, .val (.long u1), .second, iv u2, iv u3, iv u4, iv u5, iv ix, iv iy, iv kd, .val (.long xa), .second, .val (.long xb), .second, iv xc, .val (.long xd), .second, .val (.long xe), .second, iv xf, .val (.long ya), .second, .val (.long yb), .second, iv yc, .val (.long yd), .second, .val (.long ye), .second, iv yf, rv b32, rv b40, rv lb57] [(.int (1 : Int32))])) _
        refine XS.goto X63.here hx rfl (pc0 := 270) (pc' := 274) rfl (hb hby at_270) (by decide) (by decide) ?_
        show Steps p.tables e below (T63.setTop (mkF m 274 #[.val (.long u0), .second, .val (.long u1), .second, iv u2, iv u3, iv u4, iv u5, iv ix, iv iy, iv kd, .val (.long xa), .second, .val (.long xb), .second, iv xc, .val (.long xd), .second, .val (.long xe), .second, iv xf, .val (.long ya), .second, .val (.long yb), .second, iv yc, .val (.long yd), .second, .val (.long ye), .second, iv yf, rv b32, rv b40, rv lb57] [(.int (1 : Int32))])) _
        exact retN X63 hx (t := .boolean) Bd.returns (by simp) (hb hby at_274) hr
      · show Q0 Z u0 u1 u2 u3 u4 u5 ca cc h0 n0 _ T63.heap _
        rw [eq63]
        exact ⟨rfl, N63⟩
    · skip
      have S64 : ∀ t, Steps p.tables e below (T46.setTop (mkF m 278 #[.val (.long u0), .second, .val (.long u1), .second, iv u2, iv u3, iv u4, iv u5, iv ix, iv iy, iv kd, .val (.long xa), .second, .val (.long xb), .second, iv xc, .val (.long xd), .second, .val (.long xe), .second, iv xf, .val (.long ya), .second, .val (.long yb), .second, iv yc, .val (.long yd), .second, .val (.long ye), .second, iv yf, rv b32, rv b40, .unset] [(.int (3 : Int32)), (.int kd)])) t → Steps p.tables e below (s₁.setTop (entryFrame m #[(.long u0), (.long u1), (.int u2), (.int u3), (.int u4), (.int u5)] maxLocals)) t := by
        intro t k
        refine S55 t ?_
        show Steps p.tables e below (T46.setTop (mkF m 250 #[.val (.long u0), .second, .val (.long u1), .second, iv u2, iv u3, iv u4, iv u5, iv ix, iv iy, iv kd, .val (.long xa), .second, .val (.long xb), .second, iv xc, .val (.long xd), .second, .val (.long xe), .second, iv xf, .val (.long ya), .second, .val (.long yb), .second, iv yc, .val (.long yd), .second, .val (.long ye), .second, iv yf, rv b32, rv b40, .unset] [(.int (2 : Int32)), (.int kd)])) _
        refine XS.icmpYes X46.here hx rfl (pc0 := 250) (pc' := 275) rfl (hb hby at_250) rfl (feq hc56).2 (by decide) (by decide) ?_
        show Steps p.tables e below (T46.setTop (mkF m 275 #[.val (.long u0), .second, .val (.long u1), .second, iv u2, iv u3, iv u4, iv u5, iv ix, iv iy, iv kd, .val (.long xa), .second, .val (.long xb), .second, iv xc, .val (.long xd), .second, .val (.long xe), .second, iv xf, .val (.long ya), .second, .val (.long yb), .second, iv yc, .val (.long yd), .second, .val (.long ye), .second, iv yf, rv b32, rv b40, .unset] [])) _
        refine XS.iload X46.here hx rfl (hb hby at_275) rfl ?_
        show Steps p.tables e below (T46.setTop (mkF m 277 #[.val (.long u0), .second, .val (.long u1), .second, iv u2, iv u3, iv u4, iv u5, iv ix, iv iy, iv kd, .val (.long xa), .second, .val (.long xb), .second, iv xc, .val (.long xd), .second, .val (.long xe), .second, iv xf, .val (.long ya), .second, .val (.long yb), .second, iv yc, .val (.long yd), .second, .val (.long ye), .second, iv yf, rv b32, rv b40, .unset] [(.int kd)])) _
        refine XS.iconst X46.here hx rfl (hb hby at_277) ?_
        exact k
      by_cases hc65 : kd = (3 : Int32)
      · skip
        obtain ⟨cq66, kq66, q66a, q66b, q66c⟩ := isOf hZ rfl f48
        obtain ⟨_, _, ⟨T66, L66, k66, n66⟩, -, X66, ⟨Lc66, hQ66, l66, y66, z66⟩, st66⟩ := X46.virtualBack hx (y := (⟨"com/example/tracewell/tracewell/capture/Flow", "equals", "(Ljava/lang/Object;)Z"⟩ : MethodName)) (z := (⟨"com/example/tracewell/tracewell/capture/Flow", "equals", "(Ljava/lang/Object;)Z"⟩ : MethodName)) hown (mvT hZ (hw _ (List.mem_of_getElem? (i := 35) rfl))) (mvT hZ (hw _ (List.mem_of_getElem? (i := 36) rfl))) (notFace_of_selects (args := #[]) (mvT hZ (hw _ (List.mem_of_getElem? (i := 38) rfl)))) (mvT hZ (hw _ (List.mem_of_getElem? (i := 38) rfl))) (mvT hZ (hw _ (List.mem_of_getElem? (i := 37) rfl))) (by decide) (backOf (W := 0) (rmEq l Z a0 hw [] b32 b32 (nar .boolean ix) xa xb xc xd xe xf (nar .boolean ix) xa xb xc xd xe xf T46.heap n0 Z46 f49 f49) hZ (hw _ (List.mem_of_getElem? (i := 39) rfl)) (hw _ (List.mem_of_getElem? (i := 9) rfl)) (by decide) (by decide)) q66a q66c (g := (mkF m 285 #[.val (.long u0), .second, .val (.long u1), .second, iv u2, iv u3, iv u4, iv u5, iv ix, iv iy, iv kd, .val (.long xa), .second, .val (.long xb), .second, iv xc, .val (.long xd), .second, .val (.long xe), .second, iv xf, .val (.long ya), .second, .val (.long yb), .second, iv yc, .val (.long yd), .second, .val (.long ye), .second, iv yf, rv b32, rv b40, .unset] [(.ref b32), (.ref b32)])) rfl (by rw [hml]; rfl) (Steps.refl _) (argsL := [(.ref b32)]) (rest := []) (lenOf pd_5 rfl) rfl (by show 2 * 0 + _ ≤ _; exact Nat.le_of_eq rfl) (hb hby at_285) (fun _ _ => ⟨rfl, rfl, (by decide : 2 + 0 ≤ _), (by decide : 14 + 0 ≤ _)⟩)
        dsimp only [Pt.U, Pt.locs, Pt.cells, Pt.slots] at X66 l66 y66 z66 st66 hQ66
        subst l66 y66 z66
        obtain ⟨rfl, Nq66, eq66⟩ := hQ66
        have N66 := Fr.app N46 Nq66
        have S67 : ∀ t, Steps p.tables e below (T66.setTop (mkF m 288 #[.val (.long u0), .second, .val (.long u1), .second, iv u2, iv u3, iv u4, iv u5, iv ix, iv iy, iv kd, .val (.long xa), .second, .val (.long xb), .second, iv xc, .val (.long xd), .second, .val (.long xe), .second, iv xf, .val (.long ya), .second, .val (.long yb), .second, iv yc, .val (.long yd), .second, .val (.long ye), .second, iv yf, rv b32, rv b40, .unset] [(.int (own_eqf (nar .boolean ix) xa xb xc xd xe xf (nar .boolean ix) xa xb xc xd xe xf))])) t → Steps p.tables e below (s₁.setTop (entryFrame m #[(.long u0), (.long u1), (.int u2), (.int u3), (.int u4), (.int u5)] maxLocals)) t := by
          intro t k
          refine S64 t ?_
          show Steps p.tables e below (T46.setTop (mkF m 278 #[.val (.long u0), .second, .val (.long u1), .second, iv u2, iv u3, iv u4, iv u5, iv ix, iv iy, iv kd, .val (.long xa), .second, .val (.long xb), .second, iv xc, .val (.long xd), .second, .val (.long xe), .second, iv xf, .val (.long ya), .second, .val (.long yb), .second, iv yc, .val (.long yd), .second, .val (.long ye), .second, iv yf, rv b32, rv b40, .unset] [(.int (3 : Int32)), (.int kd)])) _
          refine XS.icmpNo X46.here hx rfl (hb hby at_278) rfl (teq hc65).2 ?_
          show Steps p.tables e below (T46.setTop (mkF m 281 #[.val (.long u0), .second, .val (.long u1), .second, iv u2, iv u3, iv u4, iv u5, iv ix, iv iy, iv kd, .val (.long xa), .second, .val (.long xb), .second, iv xc, .val (.long xd), .second, .val (.long xe), .second, iv xf, .val (.long ya), .second, .val (.long yb), .second, iv yc, .val (.long yd), .second, .val (.long ye), .second, iv yf, rv b32, rv b40, .unset] [])) _
          refine XS.aload X46.here hx rfl (hb hby at_281) rfl rfl ?_
          show Steps p.tables e below (T46.setTop (mkF m 283 #[.val (.long u0), .second, .val (.long u1), .second, iv u2, iv u3, iv u4, iv u5, iv ix, iv iy, iv kd, .val (.long xa), .second, .val (.long xb), .second, iv xc, .val (.long xd), .second, .val (.long xe), .second, iv xf, .val (.long ya), .second, .val (.long yb), .second, iv yc, .val (.long yd), .second, .val (.long ye), .second, iv yf, rv b32, rv b40, .unset] [(.ref b32)])) _
          refine XS.aload X46.here hx rfl (hb hby at_283) rfl rfl ?_
          show Steps p.tables e below (T46.setTop (mkF m 285 #[.val (.long u0), .second, .val (.long u1), .second, iv u2, iv u3, iv u4, iv u5, iv ix, iv iy, iv kd, .val (.long xa), .second, .val (.long xb), .second, iv xc, .val (.long xd), .second, .val (.long xe), .second, iv xf, .val (.long ya), .second, .val (.long yb), .second, iv yc, .val (.long yd), .second, .val (.long ye), .second, iv yf, rv b32, rv b40, .unset] [(.ref b32), (.ref b32)])) _
          refine st66.trans ?_
          exact k
        rw [own_eqf_one rfl rfl rfl rfl rfl rfl rfl] at S67
        obtain ⟨fs, hr, hrun, hended, hW, hsame⟩ := X66.leave (v := some (.int (1 : Int32))) (fun h => by rw [Bd.returns] at h; cases h)
        refine ⟨_, _, S67 _ ?_, hrun, hended, _, _, rfl, ?_, ⟨_, rfl⟩, hW, hsame.mono (by decide) (by decide)⟩
        · skip
          show Steps p.tables e below (T66.setTop (mkF m 288 #[.val (.long u0), .second, .val (.long u1), .second, iv u2, iv u3, iv u4, iv u5, iv ix, iv iy, iv kd, .val (.long xa), .second, .val (.long xb), .second, iv xc, .val (.long xd), .second, .val (.long xe), .second, iv xf, .val (.long ya), .second, .val (.long yb), .second, iv yc, .val (.long yd), .second, .val (.long ye), .second, iv yf, rv b32, rv b40, .unset] [(.int (1 : Int32))])) _
          exact retN X66 hx (t := .boolean) Bd.returns (by simp) (hb hby at_288) hr
        · show Q0 Z u0 u1 u2 u3 u4 u5 ca cc h0 n0 _ T66.heap _
          rw [eq66]
          exact ⟨rfl, N66⟩
      · skip
        have S68 : ∀ t, Steps p.tables e below (T46.setTop (mkF m 293 #[.val (.long u0), .second, .val (.long u1), .second, iv u2, iv u3, iv u4, iv u5, iv ix, iv iy, iv kd, .val (.long xa), .second, .val (.long xb), .second, iv xc, .val (.long xd), .second, .val (.long xe), .second, iv xf, .val (.long ya), .second, .val (.long yb), .second, iv yc, .val (.long yd), .second, .val (.long ye), .second, iv yf, rv b32, rv b40, .unset] [(.int iy), (.int ix)])) t → Steps p.tables e below (s₁.setTop (entryFrame m #[(.long u0), (.long u1), (.int u2), (.int u3), (.int u4), (.int u5)] maxLocals)) t := by
          intro t k
          refine S64 t ?_
          show Steps p.tables e below (T46.setTop (mkF m 278 #[.val (.long u0), .second, .val (.long u1), .second, iv u2, iv u3, iv u4, iv u5, iv ix, iv iy, iv kd, .val (.long xa), .second, .val (.long xb), .second, iv xc, .val (.long xd), .second, .val (.long xe), .second, iv xf, .val (.long ya), .second, .val (.long yb), .second, iv yc, .val (.long yd), .second, .val (.long ye), .second, iv yf, rv b32, rv b40, .unset] [(.int (3 : Int32)), (.int kd)])) _
          refine XS.icmpYes X46.here hx rfl (pc0 := 278) (pc' := 289) rfl (hb hby at_278) rfl (feq hc65).2 (by decide) (by decide) ?_
          show Steps p.tables e below (T46.setTop (mkF m 289 #[.val (.long u0), .second, .val (.long u1), .second, iv u2, iv u3, iv u4, iv u5, iv ix, iv iy, iv kd, .val (.long xa), .second, .val (.long xb), .second, iv xc, .val (.long xd), .second, .val (.long xe), .second, iv xf, .val (.long ya), .second, .val (.long yb), .second, iv yc, .val (.long yd), .second, .val (.long ye), .second, iv yf, rv b32, rv b40, .unset] [])) _
          refine XS.iload X46.here hx rfl (hb hby at_289) rfl ?_
          show Steps p.tables e below (T46.setTop (mkF m 291 #[.val (.long u0), .second, .val (.long u1), .second, iv u2, iv u3, iv u4, iv u5, iv ix, iv iy, iv kd, .val (.long xa), .second, .val (.long xb), .second, iv xc, .val (.long xd), .second, .val (.long xe), .second, iv xf, .val (.long ya), .second, .val (.long yb), .second, iv yc, .val (.long yd), .second, .val (.long ye), .second, iv yf, rv b32, rv b40, .unset] [(.int ix)])) _
          refine XS.iload X46.here hx rfl (hb hby at_291) rfl ?_
          exact k
        obtain ⟨xp, e_xp⟩ : ∃ z : Int32, z = (if ix = iy then (if xa = ya then (if xb = yb then (if xc = yc then (if xd = yd then (if xe = ye then (if xf = yf then (1 : Int32) else (0 : Int32)) else (0 : Int32)) else (0 : Int32)) else (0 : Int32)) else (0 : Int32)) else (0 : Int32)) else (0 : Int32)) := ⟨_, rfl⟩
        have S76 : ∀ t, Steps p.tables e below (T46.setTop (mkF m 347 #[.val (.long u0), .second, .val (.long u1), .second, iv u2, iv u3, iv u4, iv u5, iv ix, iv iy, iv kd, .val (.long xa), .second, .val (.long xb), .second, iv xc, .val (.long xd), .second, .val (.long xe), .second, iv xf, .val (.long ya), .second, .val (.long yb), .second, iv yc, .val (.long yd), .second, .val (.long ye), .second, iv yf, rv b32, rv b40, .unset] [(.int xp)])) t → Steps p.tables e below (s₁.setTop (entryFrame m #[(.long u0), (.long u1), (.int u2), (.int u3), (.int u4), (.int u5)] maxLocals)) t := by
          intro t k
          refine S68 t ?_
          by_cases hd69 : ix = iy
          · skip
            by_cases hd70 : xa = ya
            · skip
              by_cases hd71 : xb = yb
              · skip
                by_cases hd72 : xc = yc
                · skip
                  by_cases hd73 : xd = yd
                  · skip
                    by_cases hd74 : xe = ye
                    · skip
                      by_cases hd75 : xf = yf
                      · skip
                        rw [show xp = (1 : Int32) from by rw [e_xp, if_pos hd69, if_pos hd70, if_pos hd71, if_pos hd72, if_pos hd73, if_pos hd74, if_pos hd75]] at k
                        show Steps p.tables e below (T46.setTop (mkF m 293 #[.val (.long u0), .second, .val (.long u1), .second, iv u2, iv u3, iv u4, iv u5, iv ix, iv iy, iv kd, .val (.long xa), .second, .val (.long xb), .second, iv xc, .val (.long xd), .second, .val (.long xe), .second, iv xf, .val (.long ya), .second, .val (.long yb), .second, iv yc, .val (.long yd), .second, .val (.long ye), .second, iv yf, rv b32, rv b40, .unset] [(.int iy), (.int ix)])) _
                        refine XS.icmpNo X46.here hx rfl (hb hby at_293) rfl (teq hd69).2 ?_
                        show Steps p.tables e below (T46.setTop (mkF m 296 #[.val (.long u0), .second, .val (.long u1), .second, iv u2, iv u3, iv u4, iv u5, iv ix, iv iy, iv kd, .val (.long xa), .second, .val (.long xb), .second, iv xc, .val (.long xd), .second, .val (.long xe), .second, iv xf, .val (.long ya), .second, .val (.long yb), .second, iv yc, .val (.long yd), .second, .val (.long ye), .second, iv yf, rv b32, rv b40, .unset] [])) _
                        refine XS.lload X46.here hx rfl (hb hby at_296) rfl ?_
                        show Steps p.tables e below (T46.setTop (mkF m 298 #[.val (.long u0), .second, .val (.long u1), .second, iv u2, iv u3, iv u4, iv u5, iv ix, iv iy, iv kd, .val (.long xa), .second, .val (.long xb), .second, iv xc, .val (.long xd), .second, .val (.long xe), .second, iv xf, .val (.long ya), .second, .val (.long yb), .second, iv yc, .val (.long yd), .second, .val (.long ye), .second, iv yf, rv b32, rv b40, .unset] [(.long xa)])) _
                        refine XS.lload X46.here hx rfl (hb hby at_298) rfl ?_
                        show Steps p.tables e below (T46.setTop (mkF m 300 #[.val (.long u0), .second, .val (.long u1), .second, iv u2, iv u3, iv u4, iv u5, iv ix, iv iy, iv kd, .val (.long xa), .second, .val (.long xb), .second, iv xc, .val (.long xd), .second, .val (.long xe), .second, iv xf, .val (.long ya), .second, .val (.long yb), .second, iv yc, .val (.long yd), .second, .val (.long ye), .second, iv yf, rv b32, rv b40, .unset] [(.long ya), (.long xa)])) _
                        refine XS.lcmp X46.here hx rfl (hb hby at_300) rfl ?_
                        show Steps p.tables e below (T46.setTop (mkF m 301 #[.val (.long u0), .second, .val (.long u1), .second, iv u2, iv u3, iv u4, iv u5, iv ix, iv iy, iv kd, .val (.long xa), .second, .val (.long xb), .second, iv xc, .val (.long xd), .second, .val (.long xe), .second, iv xf, .val (.long ya), .second, .val (.long yb), .second, iv yc, .val (.long yd), .second, .val (.long ye), .second, iv yf, rv b32, rv b40, .unset] [(.int (lcmpW xa ya))])) _
                        refine XS.ifNo X46.here hx rfl (hb hby at_301) rfl ((if0 _ _).trans (teq ((lw_eq _ _).mpr hd70)).2) ?_
                        show Steps p.tables e below (T46.setTop (mkF m 304 #[.val (.long u0), .second, .val (.long u1), .second, iv u2, iv u3, iv u4, iv u5, iv ix, iv iy, iv kd, .val (.long xa), .second, .val (.long xb), .second, iv xc, .val (.long xd), .second, .val (.long xe), .second, iv xf, .val (.long ya), .second, .val (.long yb), .second, iv yc, .val (.long yd), .second, .val (.long ye), .second, iv yf, rv b32, rv b40, .unset] [])) _
                        refine XS.lload X46.here hx rfl (hb hby at_304) rfl ?_
                        show Steps p.tables e below (T46.setTop (mkF m 306 #[.val (.long u0), .second, .val (.long u1), .second, iv u2, iv u3, iv u4, iv u5, iv ix, iv iy, iv kd, .val (.long xa), .second, .val (.long xb), .second, iv xc, .val (.long xd), .second, .val (.long xe), .second, iv xf, .val (.long ya), .second, .val (.long yb), .second, iv yc, .val (.long yd), .second, .val (.long ye), .second, iv yf, rv b32, rv b40, .unset] [(.long xb)])) _
                        refine XS.lload X46.here hx rfl (hb hby at_306) rfl ?_
                        show Steps p.tables e below (T46.setTop (mkF m 308 #[.val (.long u0), .second, .val (.long u1), .second, iv u2, iv u3, iv u4, iv u5, iv ix, iv iy, iv kd, .val (.long xa), .second, .val (.long xb), .second, iv xc, .val (.long xd), .second, .val (.long xe), .second, iv xf, .val (.long ya), .second, .val (.long yb), .second, iv yc, .val (.long yd), .second, .val (.long ye), .second, iv yf, rv b32, rv b40, .unset] [(.long yb), (.long xb)])) _
                        refine XS.lcmp X46.here hx rfl (hb hby at_308) rfl ?_
                        show Steps p.tables e below (T46.setTop (mkF m 309 #[.val (.long u0), .second, .val (.long u1), .second, iv u2, iv u3, iv u4, iv u5, iv ix, iv iy, iv kd, .val (.long xa), .second, .val (.long xb), .second, iv xc, .val (.long xd), .second, .val (.long xe), .second, iv xf, .val (.long ya), .second, .val (.long yb), .second, iv yc, .val (.long yd), .second, .val (.long ye), .second, iv yf, rv b32, rv b40, .unset] [(.int (lcmpW xb yb))])) _
                        refine XS.ifNo X46.here hx rfl (hb hby at_309) rfl ((if0 _ _).trans (teq ((lw_eq _ _).mpr hd71)).2) ?_
                        show Steps p.tables e below (T46.setTop (mkF m 312 #[.val (.long u0), .second, .val (.long u1), .second, iv u2, iv u3, iv u4, iv u5, iv ix, iv iy, iv kd, .val (.long xa), .second, .val (.long xb), .second, iv xc, .val (.long xd), .second, .val (.long xe), .second, iv xf, .val (.long ya), .second, .val (.long yb), .second, iv yc, .val (.long yd), .second, .val (.long ye), .second, iv yf, rv b32, rv b40, .unset] [])) _
                        refine XS.iload X46.here hx rfl (hb hby at_312) rfl ?_
                        show Steps p.tables e below (T46.setTop (mkF m 314 #[.val (.long u0), .second, .val (.long u1), .second, iv u2, iv u3, iv u4, iv u5, iv ix, iv iy, iv kd, .val (.long xa), .second, .val (.long xb), .second, iv xc, .val (.long xd), .second, .val (.long xe), .second, iv xf, .val (.long ya), .second, .val (.long yb), .second, iv yc, .val (.long yd), .second, .val (.long ye), .second, iv yf, rv b32, rv b40, .unset] [(.int xc)])) _
                        refine XS.iload X46.here hx rfl (hb hby at_314) rfl ?_
                        show Steps p.tables e below (T46.setTop (mkF m 316 #[.val (.long u0), .second, .val (.long u1), .second, iv u2, iv u3, iv u4, iv u5, iv ix, iv iy, iv kd, .val (.long xa), .second, .val (.long xb), .second, iv xc, .val (.long xd), .second, .val (.long xe), .second, iv xf, .val (.long ya), .second, .val (.long yb), .second, iv yc, .val (.long yd), .second, .val (.long ye), .second, iv yf, rv b32, rv b40, .unset] [(.int yc), (.int xc)])) _
                        refine XS.icmpNo X46.here hx rfl (hb hby at_316) rfl (teq hd72).2 ?_
                        show Steps p.tables e below (T46.setTop (mkF m 319 #[.val (.long u0), .second, .val (.long u1), .second, iv u2, iv u3, iv u4, iv u5, iv ix, iv iy, iv kd, .val (.long xa), .second, .val (.long xb), .second, iv xc, .val (.long xd), .second, .val (.long xe), .second, iv xf, .val (.long ya), .second, .val (.long yb), .second, iv yc, .val (.long yd), .second, .val (.long ye), .second, iv yf, rv b32, rv b40, .unset] [])) _
                        refine XS.lload X46.here hx rfl (hb hby at_319) rfl ?_
                        show Steps p.tables e below (T46.setTop (mkF m 321 #[.val (.long u0), .second, .val (.long u1), .second, iv u2, iv u3, iv u4, iv u5, iv ix, iv iy, iv kd, .val (.long xa), .second, .val (.long xb), .second, iv xc, .val (.long xd), .second, .val (.long xe), .second, iv xf, .val (.long ya), .second, .val (.long yb), .second, iv yc, .val (.long yd), .second, .val (.long ye), .second, iv yf, rv b32, rv b40, .unset] [(.long xd)])) _
                        refine XS.lload X46.here hx rfl (hb hby at_321) rfl ?_
                        show Steps p.tables e below (T46.setTop (mkF m 323 #[.val (.long u0), .second, .val (.long u1), .second, iv u2, iv u3, iv u4, iv u5, iv ix, iv iy, iv kd, .val (.long xa), .second, .val (.long xb), .second, iv xc, .val (.long xd), .second, .val (.long xe), .second, iv xf, .val (.long ya), .second, .val (.long yb), .second, iv yc, .val (.long yd), .second, .val (.long ye), .second, iv yf, rv b32, rv b40, .unset] [(.long yd), (.long xd)])) _
                        refine XS.lcmp X46.here hx rfl (hb hby at_323) rfl ?_
                        show Steps p.tables e below (T46.setTop (mkF m 324 #[.val (.long u0), .second, .val (.long u1), .second, iv u2, iv u3, iv u4, iv u5, iv ix, iv iy, iv kd, .val (.long xa), .second, .val (.long xb), .second, iv xc, .val (.long xd), .second, .val (.long xe), .second, iv xf, .val (.long ya), .second, .val (.long yb), .second, iv yc, .val (.long yd), .second, .val (.long ye), .second, iv yf, rv b32, rv b40, .unset] [(.int (lcmpW xd yd))])) _
                        refine XS.ifNo X46.here hx rfl (hb hby at_324) rfl ((if0 _ _).trans (teq ((lw_eq _ _).mpr hd73)).2) ?_
                        show Steps p.tables e below (T46.setTop (mkF m 327 #[.val (.long u0), .second, .val (.long u1), .second, iv u2, iv u3, iv u4, iv u5, iv ix, iv iy, iv kd, .val (.long xa), .second, .val (.long xb), .second, iv xc, .val (.long xd), .second, .val (.long xe), .second, iv xf, .val (.long ya), .second, .val (.long yb), .second, iv yc, .val (.long yd), .second, .val (.long ye), .second, iv yf, rv b32, rv b40, .unset] [])) _
                        refine XS.lload X46.here hx rfl (hb hby at_327) rfl ?_
                        show Steps p.tables e below (T46.setTop (mkF m 329 #[.val (.long u0), .second, .val (.long u1), .second, iv u2, iv u3, iv u4, iv u5, iv ix, iv iy, iv kd, .val (.long xa), .second, .val (.long xb), .second, iv xc, .val (.long xd), .second, .val (.long xe), .second, iv xf, .val (.long ya), .second, .val (.long yb), .second, iv yc, .val (.long yd), .second, .val (.long ye), .second, iv yf, rv b32, rv b40, .unset] [(.long xe)])) _
                        refine XS.lload X46.here hx rfl (hb hby at_329) rfl ?_
                        show Steps p.tables e below (T46.setTop (mkF m 331 #[.val (.long u0), .second, .val (.long u1), .second, iv u2, iv u3, iv u4, iv u5, iv ix, iv iy, iv kd, .val (.long xa), .second, .val (.long xb), .second, iv xc, .val (.long xd), .second, .val (.long xe), .second, iv xf, .val (.long ya), .second, .val (.long yb), .second, iv yc, .val (.long yd), .second, .val (.long ye), .second, iv yf, rv b32, rv b40, .unset] [(.long ye), (.long xe)])) _
                        refine XS.lcmp X46.here hx rfl (hb hby at_331) rfl ?_
                        show Steps p.tables e below (T46.setTop (mkF m 332 #[.val (.long u0), .second, .val (.long u1), .second, iv u2, iv u3, iv u4, iv u5, iv ix, iv iy, iv kd, .val (.long xa), .second, .val (.long xb), .second, iv xc, .val (.long xd), .second, .val (.long xe), .second, iv xf, .val (.long ya), .second, .val (.long yb), .second, iv yc, .val (.long yd), .second, .val (.long ye), .second, iv yf, rv b32, rv b40, .unset] [(.int (lcmpW xe ye))])) _
                        refine XS.ifNo X46.here hx rfl (hb hby at_332) rfl ((if0 _ _).trans (teq ((lw_eq _ _).mpr hd74)).2) ?_
                        show Steps p.tables e below (T46.setTop (mkF m 335 #[.val (.long u0), .second, .val (.long u1), .second, iv u2, iv u3, iv u4, iv u5, iv ix, iv iy, iv kd, .val (.long xa), .second, .val (.long xb), .second, iv xc, .val (.long xd), .second, .val (.long xe), .second, iv xf, .val (.long ya), .second, .val (.long yb), .second, iv yc, .val (.long yd), .second, .val (.long ye), .second, iv yf, rv b32, rv b40, .unset] [])) _
                        refine XS.iload X46.here hx rfl (hb hby at_335) rfl ?_
                        show Steps p.tables e below (T46.setTop (mkF m 337 #[.val (.long u0), .second, .val (.long u1), .second, iv u2, iv u3, iv u4, iv u5, iv ix, iv iy, iv kd, .val (.long xa), .second, .val (.long xb), .second, iv xc, .val (.long xd), .second, .val (.long xe), .second, iv xf, .val (.long ya), .second, .val (.long yb), .second, iv yc, .val (.long yd), .second, .val (.long ye), .second, iv yf, rv b32, rv b40, .unset] [(.int xf)])) _
                        refine XS.iload X46.here hx rfl (hb hby at_337) rfl ?_
                        show Steps p.tables e below (T46.setTop (mkF m 339 #[.val (.long u0), .second, .val (.long u1), .second, iv u2, iv u3, iv u4, iv u5, iv ix, iv iy, iv kd, .val (.long xa), .second, .val (.long xb), .second, iv xc, .val (.long xd), .second, .val (.long xe), .second, iv xf, .val (.long ya), .second, .val (.long yb), .second, iv yc, .val (.long yd), .second, .val (.long ye), .second, iv yf, rv b32, rv b40, .unset] [(.int yf), (.int xf)])) _
                        refine XS.icmpNo X46.here hx rfl (hb hby at_339) rfl (teq hd75).2 ?_
                        show Steps p.tables e below (T46.setTop (mkF m 342 #[.val (.long u0), .second, .val (.long u1), .second, iv u2, iv u3, iv u4, iv u5, iv ix, iv iy, iv kd, .val (.long xa), .second, .val (.long xb), .second, iv xc, .val (.long xd), .second, .val (.long xe), .second, iv xf, .val (.long ya), .second, .val (.long yb), .second, iv yc, .val (.long yd), .second, .val (.long ye), .second, iv yf, rv b32, rv b40, .unset] [])) _
                        refine XS.iconst X46.here hx rfl (hb hby at_342) ?_
                        show Steps p.tables e below (T46.setTop (mkF m 343 #[.val (.long u0), .second, .val (.long u1), .second, iv u2, iv u3, iv u4, iv u5, iv ix, iv iy, iv kd, .val (.long xa), .second, .val (.long xb), .second, iv xc, .val (.long xd), .second, .val (.long xe), .second, iv xf, .val (.long ya), .second, .val (.long yb), .second, iv yc, .val (.long yd), .second, .val (.long ye), .second, iv yf, rv b32, rv b40, .unset] [(.int (1 : Int32))])) _
                        refine XS.goto X46.here hx rfl (pc0 := 343) (pc' := 347) rfl (hb hby at_343) (by decide) (by decide) ?_
                        exact k
                      · skip
                        rw [show xp = (0 : Int32) from by rw [e_xp, if_pos hd69, if_pos hd70, if_pos hd71, if_pos hd72, if_pos hd73, if_pos hd74, if_neg hd75]] at k
                        show Steps p.tables e below (T46.setTop (mkF m 293 #[.val (.long u0), .second, .val (.long u1), .second, iv u2, iv u3, iv u4, iv u5, iv ix, iv iy, iv kd, .val (.long xa), .second, .val (.long xb), .second, iv xc, .val (.long xd), .second, .val (.long xe), .second, iv xf, .val (.long ya), .second, .val (.long yb), .second, iv yc, .val (.long yd), .second, .val (.long ye), .second, iv yf, rv b32, rv b40, .unset] [(.int iy), (.int ix)])) _
                        refine XS.icmpNo X46.here hx rfl (hb hby at_293) rfl (teq hd69).2 ?_
                        show Steps p.tables e below (T46.setTop (mkF m 296 #[.val (.long u0), .second, .val (.long u1), .second, iv u2, iv u3, iv u4, iv u5, iv ix, iv iy, iv kd, .val (.long xa), .second, .val (.long xb), .second, iv xc, .val (.long xd), .second, .val (.long xe), .second, iv xf, .val (.long ya), .second, .val (.long yb), .second, iv yc, .val (.long yd), .second, .val (.long ye), .second, iv yf, rv b32, rv b40, .unset] [])) _
                        refine XS.lload X46.here hx rfl (hb hby at_296) rfl ?_
                        show Steps p.tables e below (T46.setTop (mkF m 298 #[.val (.long u0), .second, .val (.long u1), .second, iv u2, iv u3, iv u4, iv u5, iv ix, iv iy, iv kd, .val (.long xa), .second, .val (.long xb), .second, iv xc, .val (.long xd), .second, .val (.long xe), .second, iv xf, .val (.long ya), .second, .val (.long yb), .second, iv yc, .val (.long yd), .second, .val (.long ye), .second, iv yf, rv b32, rv b40, .unset] [(.long xa)])) _
                        refine XS.lload X46.here hx rfl (hb hby at_298) rfl ?_
                        show Steps p.tables e below (T46.setTop (mkF m 300 #[.val (.long u0), .second, .val (.long u1), .second, iv u2, iv u3, iv u4, iv u5, iv ix, iv iy, iv kd, .val (.long xa), .second, .val (.long xb), .second, iv xc, .val (.long xd), .second, .val (.long xe), .second, iv xf, .val (.long ya), .second, .val (.long yb), .second, iv yc, .val (.long yd), .second, .val (.long ye), .second, iv yf, rv b32, rv b40, .unset] [(.long ya), (.long xa)])) _
                        refine XS.lcmp X46.here hx rfl (hb hby at_300) rfl ?_
                        show Steps p.tables e below (T46.setTop (mkF m 301 #[.val (.long u0), .second, .val (.long u1), .second, iv u2, iv u3, iv u4, iv u5, iv ix, iv iy, iv kd, .val (.long xa), .second, .val (.long xb), .second, iv xc, .val (.long xd), .second, .val (.long xe), .second, iv xf, .val (.long ya), .second, .val (.long yb), .second, iv yc, .val (.long yd), .second, .val (.long ye), .second, iv yf, rv b32, rv b40, .unset] [(.int (lcmpW xa ya))])) _
                        refine XS.ifNo X46.here hx rfl (hb hby at_301) rfl ((if0 _ _).trans (teq ((lw_eq _ _).mpr hd70)).2) ?_
                        show Steps p.tables e below (T46.setTop (mkF m 304 #[.val (.long u0), .second, .val (.long u1), .second, iv u2, iv u3, iv u4, iv u5, iv ix, iv iy, iv kd, .val (.long xa), .second, .val (.long xb), .second, iv xc, .val (.long xd), .second, .val (.long xe), .second, iv xf, .val (.long ya), .second, .val (.long yb), .second, iv yc, .val (.long yd), .second, .val (.long ye), .second, iv yf, rv b32, rv b40, .unset] [])) _
                        refine XS.lload X46.here hx rfl (hb hby at_304) rfl ?_
                        show Steps p.tables e below (T46.setTop (mkF m 306 #[.val (.long u0), .second, .val (.long u1), .second, iv u2, iv u3, iv u4, iv u5, iv ix, iv iy, iv kd, .val (.long xa), .second, .val (.long xb), .second, iv xc, .val (.long xd), .second, .val (.long xe), .second, iv xf, .val (.long ya), .second, .val (.long yb), .second, iv yc, .val (.long yd), .second, .val (.long ye), .second, iv yf, rv b32, rv b40, .unset] [(.long xb)])) _
                        refine XS.lload X46.here hx rfl (hb hby at_306) rfl ?_
                        show Steps p.tables e below (T46.setTop (mkF m 308 #[.val (.long u0), .second, .val (.long u1), .second, iv u2, iv u3, iv u4, iv u5, iv ix, iv iy, iv kd, .val (.long xa), .second, .val (.long xb), .second, iv xc, .val (.long xd), .second, .val (.long xe), .second, iv xf, .val (.long ya), .second, .val (.long yb), .second, iv yc, .val (.long yd), .second, .val (.long ye), .second, iv yf, rv b32, rv b40, .unset] [(.long yb), (.long xb)])) _
                        refine XS.lcmp X46.here hx rfl (hb hby at_308) rfl ?_
                        show Steps p.tables e below (T46.setTop (mkF m 309 #[.val (.long u0), .second, .val (.long u1), .second, iv u2, iv u3, iv u4, iv u5, iv ix, iv iy, iv kd, .val (.long xa), .second, .val (.long xb), .second, iv xc, .val (.long xd), .second, .val (.long xe), .second, iv xf, .val (.long ya), .second, .val (.long yb), .second, iv yc, .val (.long yd), .second, .val (.long ye), .second, iv yf, rv b32, rv b40, .unset] [(.int (lcmpW xb yb))])) _
                        refine XS.ifNo X46.here hx rfl (hb hby at_309) rfl ((if0 _ _).trans (teq ((lw_eq _ _).mpr hd71)).2) ?_
                        show Steps p.tables e below (T46.setTop (mkF m 312 #[.val (.long u0), .second, .val (.long u1), .second, iv u2, iv u3, iv u4, iv u5, iv ix, iv iy, iv kd, .val (.long xa), .second, .val (.long xb), .second, iv xc, .val (.long xd), .second, .val (.long xe), .second, iv xf, .val (.long ya), .second, .val (.long yb), .second, iv yc, .val (.long yd), .second, .val (.long ye), .second, iv yf, rv b32, rv b40, .unset] [])) _
                        refine XS.iload X46.here hx rfl (hb hby at_312) rfl ?_
                        show Steps p.tables e below (T46.setTop (mkF m 314 #[.val (.long u0), .second, .val (.long u1), .second, iv u2, iv u3, iv u4, iv u5, iv ix, iv iy, iv kd, .val (.long xa), .second, .val (.long xb), .second, iv xc, .val (.long xd), .second, .val (.long xe), .second, iv xf, .val (.long ya), .second, .val (.long yb), .second, iv yc, .val (.long yd), .second, .val (.long ye), .second, iv yf, rv b32, rv b40, .unset] [(.int xc)])) _
                        refine XS.iload X46.here hx rfl (hb hby at_314) rfl ?_
                        show Steps p.tables e below (T46.setTop (mkF m 316 #[.val (.long u0), .second, .val (.long u1), .second, iv u2, iv u3, iv u4, iv u5, iv ix, iv iy, iv kd, .val (.long xa), .second, .val (.long xb), .second, iv xc, .val (.long xd), .second, .val (.long xe), .second, iv xf, .val (.long ya), .second, .val (.long yb), .second, iv yc, .val (.long yd), .second, .val (.long ye), .second, iv yf, rv b32, rv b40, .unset] [(.int yc), (.int xc)])) _
                        refine XS.icmpNo X46.here hx rfl (hb hby at_316) rfl (teq hd72).2 ?_
                        show Steps p.tables e below (T46.setTop (mkF m 319 #[.val (.long u0), .second, .val (.long u1), .second, iv u2, iv u3, iv u4, iv u5, iv ix, iv iy, iv kd, .val (.long xa), .second, .val (.long xb), .second, iv xc, .val (.long xd), .second, .val (.long xe), .second, iv xf, .val (.long ya), .second, .val (.long yb), .second, iv yc, .val (.long yd), .second, .val (.long ye), .second, iv yf, rv b32, rv b40, .unset] [])) _
                        refine XS.lload X46.here hx rfl (hb hby at_319) rfl ?_
                        show Steps p.tables e below (T46.setTop (mkF m 321 #[.val (.long u0), .second, .val (.long u1), .second, iv u2, iv u3, iv u4, iv u5, iv ix, iv iy, iv kd, .val (.long xa), .second, .val (.long xb), .second, iv xc, .val (.long xd), .second, .val (.long xe), .second, iv xf, .val (.long ya), .second, .val (.long yb), .second, iv yc, .val (.long yd), .second, .val (.long ye), .second, iv yf, rv b32, rv b40, .unset] [(.long xd)])) _
                        refine XS.lload X46.here hx rfl (hb hby at_321) rfl ?_
                        show Steps p.tables e below (T46.setTop (mkF m 323 #[.val (.long u0), .second, .val (.long u1), .second, iv u2, iv u3, iv u4, iv u5, iv ix, iv iy, iv kd, .val (.long xa), .second, .val (.long xb), .second, iv xc, .val (.long xd), .second, .val (.long xe), .second, iv xf, .val (.long ya), .second, .val (.long yb), .second, iv yc, .val (.long yd), .second, .val (.long ye), .second, iv yf, rv b32, rv b40, .unset] [(.long yd), (.long xd)])) _
                        refine XS.lcmp X46.here hx rfl (hb hby at_323) rfl ?_
                        show Steps p.tables e below (T46.setTop (mkF m 324 #[.val (.long u0), .second, .val (.long u1), .second, iv u2, iv u3, iv u4, iv u5, iv ix, iv iy, iv kd, .val (.long xa), .second, .val (.long xb), .second, iv xc, .val (.long xd), .second, .val (.long xe), .second, iv xf, .val (.long ya), .second, .val (.long yb), .second, iv yc, .val (.long yd), .second, .val (.long ye), .second, iv yf, rv b32, rv b40, .unset] [(.int (lcmpW xd yd))])) _
                        refine XS.ifNo X46.here hx rfl (hb hby at_324) rfl ((if0 _ _).trans (teq ((lw_eq _ _).mpr hd73)).2) ?_
                        show Steps p.tables e below (T46.setTop (mkF m 327 #[.val (.long u0), .second, .val (.long u1), .second, iv u2, iv u3, iv u4, iv u5, iv ix, iv iy, iv kd, .val (.long xa), .second, .val (.long xb), .second, iv xc, .val (.long xd), .second, .val (.long xe), .second, iv xf, .val (.long ya), .second, .val (.long yb), .second, iv yc, .val (.long yd), .second, .val (.long ye), .second, iv yf, rv b32, rv b40, .unset] [])) _
                        refine XS.lload X46.here hx rfl (hb hby at_327) rfl ?_
                        show Steps p.tables e below (T46.setTop (mkF m 329 #[.val (.long u0), .second, .val (.long u1), .second, iv u2, iv u3, iv u4, iv u5, iv ix, iv iy, iv kd, .val (.long xa), .second, .val (.long xb), .second, iv xc, .val (.long xd), .second, .val (.long xe), .second, iv xf, .val (.long ya), .second, .val (.long yb), .second, iv yc, .val (.long yd), .second, .val (.long ye), .second, iv yf, rv b32, rv b40, .unset] [(.long xe)])) _
                        refine XS.lload X46.here hx rfl (hb hby at_329) rfl ?_
                        show Steps p.tables e below (T46.setTop (mkF m 331 #[.val (.long u0), .second, .val (.long u1), .second, iv u2, iv u3, iv u4, iv u5, iv ix, iv iy, iv kd, .val (.long xa), .second, .val (.long xb), .second, iv xc, .val (.long xd), .second, .val (.long xe), .second, iv xf, .val (.long ya), .second, .val (.long yb), .second, iv yc, .val (.long yd), .second, .val (.long ye), .second, iv yf, rv b32, rv b40, .unset] [(.long ye), (.long xe)])) _
                        refine XS.lcmp X46.here hx rfl (hb hby at_331) rfl ?_
                        show Steps p.tables e below (T46.setTop (mkF m 332 #[.val (.long u0), .second, .val (.long u1), .second, iv u2, iv u3, iv u4, iv u5, iv ix, iv iy, iv kd, .val (.long xa), .second, .val (.long xb), .second, iv xc, .val (.long xd), .second, .val (.long xe), .second, iv xf, .val (.long ya), .second, .val (.long yb), .second, iv yc, .val (.long yd), .second, .val (.long ye), .second, iv yf, rv b32, rv b40, .unset] [(.int (lcmpW xe ye))])) _
                        refine XS.ifNo X46.here hx rfl (hb hby at_332) rfl ((if0 _ _).trans (teq ((lw_eq _ _).mpr hd74)).2) ?_
                        show Steps p.tables e below (T46.setTop (mkF m 335 #[.val (.long u0), .second, .val (.long u1), .second, iv u2, iv u3, iv u4, iv u5, iv ix, iv iy, iv kd, .val (.long xa), .second, .val (.long xb), .second, iv xc, .val (.long xd), .second, .val (.long xe), .second, iv xf, .val (.long ya), .second, .val (.long yb), .second, iv yc, .val (.long yd), .second, .val (.long ye), .second, iv yf, rv b32, rv b40, .unset] [])) _
                        refine XS.iload X46.here hx rfl (hb hby at_335) rfl ?_
                        show Steps p.tables e below (T46.setTop (mkF m 337 #[.val (.long u0), .second, .val (.long u1), .second, iv u2, iv u3, iv u4, iv u5, iv ix, iv iy, iv kd, .val (.long xa), .second, .val (.long xb), .second, iv xc, .val (.long xd), .second, .val (.long xe), .second, iv xf, .val (.long ya), .second, .val (.long yb), .second, iv yc, .val (.long yd), .second, .val (.long ye), .second, iv yf, rv b32, rv b40, .unset] [(.int xf)])) _
                        refine XS.iload X46.here hx rfl (hb hby at_337) rfl ?_
                        show Steps p.tables e below (T46.setTop (mkF m 339 #[.val (.long u0), .second, .val (.long u1), .second, iv u2, iv u3, iv u4, iv u5, iv ix, iv iy, iv kd, .val (.long xa), .second, .val (.long xb), .second, iv xc, .val (.long xd), .second, .val (.long xe), .second, iv xf, .val (.long ya), .second, .val (.long yb), .second, iv yc, .val (.long yd), .second, .val (.long ye), .second, iv yf, rv b32, rv b40, .unset] [(.int yf), (.int xf)])) _
                        refine XS.icmpYes X46.here hx rfl (pc0 := 339) (pc' := 346) rfl (hb hby at_339) rfl (feq hd75).2 (by decide) (by decide) ?_
                        show Steps p.tables e below (T46.setTop (mkF m 346 #[.val (.long u0), .second, .val (.long u1), .second, iv u2, iv u3, iv u4, iv u5, iv ix, iv iy, iv kd, .val (.long xa), .second, .val (.long xb), .second, iv xc, .val (.long xd), .second, .val (.long xe), .second, iv xf, .val (.long ya), .second, .val (.long yb), .second, iv yc, .val (.long yd), .second, .val (.long ye), .second, iv yf, rv b32, rv b40, .unset] [])) _
                        refine XS.iconst X46.here hx rfl (hb hby at_346) ?_
                        exact k
                    · skip
                      rw [show xp = (0 : Int32) from by rw [e_xp, if_pos hd69, if_pos hd70, if_pos hd71, if_pos hd72, if_pos hd73, if_neg hd74]] at k
                      show Steps p.tables e below (T46.setTop (mkF m 293 #[.val (.long u0), .second, .val (.long u1), .second, iv u2, iv u3, iv u4, iv u5, iv ix, iv iy, iv kd, .val (.long xa), .second, .val (.long xb), .second, iv xc, .val (.long xd), .second, .val (.long xe), .second, iv xf, .val (.long ya), .second, .val (.long yb), .second, iv yc, .val (.long yd), .second, .val (.long ye), .second, iv yf, rv b32, rv b40, .unset] [(.int iy), (.int ix)])) _
                      refine XS.icmpNo X46.here hx rfl (hb hby at_293) rfl (teq hd69).2 ?_
                      show Steps p.tables e below (T46.setTop (mkF m 296 #[.val (.long u0), .second, .val (.long u1), .second, iv u2, iv u3, iv u4, iv u5, iv ix, iv iy, iv kd, .val (.long xa), .second, .val (.long xb), .second, iv xc, .val (.long xd), .second, .val (.long xe), .second, iv xf, .val (.long ya), .second, .val (.long yb), .second, iv yc, .val (.long yd), .second, .val (.long ye), .second, iv yf, rv b32, rv b40, .unset] [])) _
                      refine XS.lload X46.here hx rfl (hb hby at_296) rfl ?_
                      show Steps p.tables e below (T46.setTop (mkF m 298 #[.val (.long u0), .second, .val (.long u1), .second, iv u2, iv u3, iv u4, iv u5, iv ix, iv iy, iv kd, .val (.long xa), .second, .val (.long xb), .second, iv xc, .val (.long xd), .second, .val (.long xe), .second, iv xf, .val (.long ya), .second, .val (.long yb), .second, iv yc, .val (.long yd), .second, .val (.long ye), .second, iv yf, rv b32, rv b40, .unset] [(.long xa)])) _
                      refine XS.lload X46.here hx rfl (hb hby at_298) rfl ?_
                      show Steps p.tables e below (T46.setTop (mkF m 300 #[.val (.long u0), .second, .val (.long u1), .second, iv u2, iv u3, iv u4, iv u5, iv ix, iv iy, iv kd, .val (.long xa), .second, .val (.long xb), .second, iv xc, .val (.long xd), .second, .val (.long xe), .second, iv xf, .val (.long ya), .second, .val (.long yb), .second, iv yc, .val (.long yd), .second, .val (.long ye), .second, iv yf, rv b32, rv b40, .unset] [(.long ya), (.long xa)])) _
                      refine XS.lcmp X46.here hx rfl (hb hby at_300) rfl ?_
                      show Steps p.tables e below (T46.setTop (mkF m 301 #[.val (.long u0), .second, .val (.long u1), .second, iv u2, iv u3, iv u4, iv u5, iv ix, iv iy, iv kd, .val (.long xa), .second, .val (.long xb), .second, iv xc, .val (.long xd), .second, .val (.long xe), .second, iv xf, .val (.long ya), .second, .val (.long yb), .second, iv yc, .val (.long yd), .second, .val (.long ye), .second, iv yf, rv b32, rv b40, .unset] [(.int (lcmpW xa ya))])) _
                      refine XS.ifNo X46.here hx rfl (hb hby at_301) rfl ((if0 _ _).trans (teq ((lw_eq _ _).mpr hd70)).2) ?_
                      show Steps p.tables e below (T46.setTop (mkF m 304 #[.val (.long u0), .second, .val (.long u1), .second, iv u2, iv u3, iv u4, iv u5, iv ix, iv iy, iv kd, .val (.long xa), .second, .val (.long xb), .second, iv xc, .val (.long xd), .second, .val (.long xe), .second, iv xf, .val (.long ya), .second, .val (.long yb), .second, iv yc, .val (.long yd), .second, .val (.long ye), .second, iv yf, rv b32, rv b40, .unset] [])) _
                      refine XS.lload X46.here hx rfl (hb hby at_304) rfl ?_
                      show Steps p.tables e below (T46.setTop (mkF m 306 #[.val (.long u0), .second, .val (.long u1), .second, iv u2, iv u3, iv u4, iv u5, iv ix, iv iy, iv kd, .val (.long xa), .second, .val (.long xb), .second, iv xc, .val (.long xd), .second, .val (.long xe), .second, iv xf, .val (.long ya), .second, .val (.long yb), .second, iv yc, .val (.long yd), .second, .val (.long ye), .second, iv yf, rv b32, rv b40, .unset] [(.long xb)])) _
                      refine XS.lload X46.here hx rfl (hb hby at_306) rfl ?_
                      show Steps p.tables e below (T46.setTop (mkF m 308 #[.val (.long u0), .second, .val (.long u1), .second, iv u2, iv u3, iv u4, iv u5, iv ix, iv iy, iv kd, .val (.long xa), .second, .val (.long xb), .second, iv xc, .val (.long xd), .second, .val (.long xe), .second, iv xf, .val (.long ya), .second, .val (.long yb), .second, iv yc, .val (.long yd), .second, .val (.long ye), .second, iv yf, rv b32, rv b40, .unset] [(.long yb), (.long xb)])) _
                      refine XS.lcmp X46.here hx rfl (hb hby at_308) rfl ?_
                      show Steps p.tables e below (T46.setTop (mkF m 309 #[.val (.long u0), .second, .val (.long u1), .second, iv u2, iv u3, iv u4, iv u5, iv ix, iv iy, iv kd, .val (.long xa), .second, .val (.long xb), .second, iv xc, .val (.long xd), .second, .val (.long xe), .second, iv xf, .val (.long ya), .second, .val (.long yb), .second, iv yc, .val (.long yd), .second, .val (.long ye), .second, iv yf, rv b32, rv b40, .unset] [(.int (lcmpW xb yb))])) _
                      refine XS.ifNo X46.here hx rfl (hb hby at_309) rfl ((if0 _ _).trans (teq ((lw_eq _ _).mpr hd71)).2) ?_
                      show Steps p.tables e below (T46.setTop (mkF m 312 #[.val (.long u0), .second, .val (.long u1), .second, iv u2, iv u3, iv u4, iv u5, iv ix, iv iy, iv kd, .val (.long xa), .second, .val (.long xb), .second, iv xc, .val (.long xd), .second, .val (.long xe), .second, iv xf, .val (.long ya), .second, .val (.long yb), .second, iv yc, .val (.long yd), .second, .val (.long ye), .second, iv yf, rv b32, rv b40, .unset] [])) _
                      refine XS.iload X46.here hx rfl (hb hby at_312) rfl ?_
                      show Steps p.tables e below (T46.setTop (mkF m 314 #[.val (.long u0), .second, .val (.long u1), .second, iv u2, iv u3, iv u4, iv u5, iv ix, iv iy, iv kd, .val (.long xa), .second, .val (.long xb), .second, iv xc, .val (.long xd), .second, .val (.long xe), .second, iv xf, .val (.long ya), .second, .val (.long yb), .second, iv yc, .val (.long yd), .second, .val (.long ye), .second, iv yf, rv b32, rv b40, .unset] [(.int xc)])) _
                      refine XS.iload X46.here hx rfl (hb hby at_314) rfl ?_
                      show Steps p.tables e below (T46.setTop (mkF m 316 #[.val (.long u0), .second, .val (.long u1), .second, iv u2, iv u3, iv u4, iv u5, iv ix, iv iy, iv kd, .val (.long xa), .second, .val (.long xb), .second, iv xc, .val (.long xd), .second, .val (.long xe), .second, iv xf, .val (.long ya), .second, .val (.long yb), .second, iv yc, .val (.long yd), .second, .val (.long ye), .second, iv yf, rv b32, rv b40, .unset] [(.int yc), (.int xc)])) _
                      refine XS.icmpNo X46.here hx rfl (hb hby at_316) rfl (teq hd72).2 ?_
                      show Steps p.tables e below (T46.setTop (mkF m 319 #[.val (.long u0), .second, .val (.long u1), .second, iv u2, iv u3, iv u4, iv u5, iv ix, iv iy, iv kd, .val (.long xa), .second, .val (.long xb), .second, iv xc, .val (.long xd), .second, .val (.long xe), .second, iv xf, .val (.long ya), .second, .val (.long yb), .second, iv yc, .val (.long yd), .second, .val (.long ye), .second, iv yf, rv b32, rv b40, .unset] [])) _
                      refine XS.lload X46.here hx rfl (hb hby at_319) rfl ?_
                      show Steps p.tables e below (T46.setTop (mkF m 321 #[.val (.long u0), .second, .val (.long u1), .second, iv u2, iv u3, iv u4, iv u5, iv ix, iv iy, iv kd, .val (.long xa), .second, .val (.long xb), .second, iv xc, .val (.long xd), .second, .val (.long xe), .second, iv xf, .val (.long ya), .second, .val (.long yb), .second, iv yc, .val (.long yd), .second, .val (.long ye), .second, iv yf, rv b32, rv b40, .unset] [(.long xd)])) _
                      refine XS.lload X46.here hx rfl (hb hby at_321) rfl ?_
                      show Steps p.tables e below (T46.setTop (mkF m 323 #[.val (.long u0), .second, .val (.long u1), .second, iv u2, iv u3, iv u4, iv u5, iv ix, iv iy, iv kd, .val (.long xa), .second, .val (.long xb), .second, iv xc, .val (.long xd), .second, .val (.long xe), .second, iv xf, .val (.long ya), .second, .val (.long yb), .second, iv yc, .val (.long yd), .second, .val (.long ye), .second, iv yf, rv b32, rv b40, .unset] [(.long yd), (.long xd)])) _
                      refine XS.lcmp X46.here hx rfl (hb hby at_323) rfl ?_
                      show Steps p.tables e below (T46.setTop (mkF m 324 #[.val (.long u0), .second, .val (.long u1), .second, iv u2, iv u3, iv u4, iv u5, iv ix, iv iy, iv kd, .val (.long xa), .second, .val (.long xb), .second, iv xc, .val (.long xd), .second, .val (.long xe), .second, iv xf, .val (.long ya), .second, .val (.long yb), .second, iv yc, .val (.long yd), .second, .val (.long ye), .second, iv yf, rv b32, rv b40, .unset] [(.int (lcmpW xd yd))])) _
                      refine XS.ifNo X46.here hx rfl (hb hby at_324) rfl ((if0 _ _).trans (teq ((lw_eq _ _).mpr hd73)).2) ?_
                      show Steps p.tables e below (T46.setTop (mkF m 327 #[.val (.long u0), .second, .val (.long u1), .second, iv u2, iv u3, iv u4, iv u5, iv ix, iv iy, iv kd, .val (.long xa), .second, .val (.long xb), .second, iv xc, .val (.long xd), .second, .val (.long xe), .second, iv xf, .val (.long ya), .second, .val (.long yb), .second, iv yc, .val (.long yd), .second, .val (.long ye), .second, iv yf, rv b32, rv b40, .unset] [])) _
                      refine XS.lload X46.here hx rfl (hb hby at_327) rfl ?_
                      show Steps p.tables e below (T46.setTop (mkF m 329 #[.val (.long u0), .second, .val (.long u1), .second, iv u2, iv u3, iv u4, iv u5, iv ix, iv iy, iv kd, .val (.long xa), .second, .val (.long xb), .second, iv xc, .val (.long xd), .second, .val (.long xe), .second, iv xf, .val (.long ya), .second, .val (.long yb), .second, iv yc, .val (.long yd), .second, .val (.long ye), .second, iv yf, rv b32, rv b40, .unset] [(.long xe)])) _
                      refine XS.lload X46.here hx rfl (hb hby at_329) rfl ?_
                      show Steps p.tables e below (T46.setTop (mkF m 331 #[.val (.long u0), .second, .val (.long u1), .second, iv u2, iv u3, iv u4, iv u5, iv ix, iv iy, iv kd, .val (.long xa), .second, .val (.long xb), .second, iv xc, .val (.long xd), .second, .val (.long xe), .second, iv xf, .val (.long ya), .second, .val (.long yb), .second, iv yc, .val (.long yd), .second, .val (.long ye), .second, iv yf, rv b32, rv b40, .unset] [(.long ye), (.long xe)])) _
                      refine XS.lcmp X46.here hx rfl (hb hby at_331) rfl ?_
                      show Steps p.tables e below (T46.setTop (mkF m 332 #[.val (.long u0), .second, .val (.long u1), .second, iv u2, iv u3, iv u4, iv u5, iv ix, iv iy, iv kd, .val (.long xa), .second, .val (.long xb), .second, iv xc, .val (.long xd), .second, .val (.long xe), .second, iv xf, .val (.long ya), .second, .val (.long yb), .second, iv yc, .val (.long yd), .second, .val (.long ye), .second, iv yf, rv b32, rv b40, .unset] [(.int (lcmpW xe ye))])) _
                      refine XS.ifYes X46.here hx rfl (pc0 := 332) (pc' := 346) rfl (hb hby at_332) rfl ((if0 _ _).trans (feq (fun z => hd74 ((lw_eq _ _).mp z))).2) (by decide) (by decide) ?_
                      show Steps p.tables e below (T46.setTop (mkF m 346 #[.val (.long u0), .second, .val (.long u1), .second, iv u2, iv u3, iv u4, iv u5, iv ix, iv iy, iv kd, .val (.long xa), .second, .val (.long xb), .second, iv xc, .val (.long xd), .second, .val (.long xe), .second, iv xf, .val (.long ya), .second, .val (.long yb), .second, iv yc, .val (.long yd), .second, .val (.long ye), .second, iv yf, rv b32, rv b40, .unset] [])) _
                      refine XS.iconst X46.here hx rfl (hb hby at_346) ?_
                      exact k
                  · skip
                    rw [show xp = (0 : Int32) from by rw [e_xp, if_pos hd69, if_pos hd70, if_pos hd71, if_pos hd72, if_neg hd73]] at k
                    show Steps p.tables e below (T46.setTop (mkF m 293 #[.val (.long u0), .second, .val (.long u1), .second, iv u2, iv u3, iv u4, iv u5, iv ix, iv iy, iv kd, .val (.long xa), .second, .val (.long xb), .second, iv xc, .val (.long xd), .second, .val (.long xe), .second, iv xf, .val (.long ya), .second, .val (.long yb), .second, iv yc, .val (.long yd), .second, .val (.long ye), .second, iv yf, rv b32, rv b40, .unset] [(.int iy), (.int ix)])) _
                    refine XS.icmpNo X46.here hx rfl (hb hby at_293) rfl (teq hd69).2 ?_
                    show Steps p.tables e below (T46.setTop (mkF m 296 #[.val (.long u0), .second, .val (.long u1), .second, iv u2, iv u3, iv u4, iv u5, iv ix, iv iy, iv kd, .val (.long xa), .second, .val (.long xb), .second, iv xc, .val (.long xd), .second, .val (.long xe), .second, iv xf, .val (.long ya), .second, .val (.long yb), .second, iv yc, .val (.long yd), .second, .val (.long ye), .second, iv yf, rv b32, rv b40, .unset] [])) _
                    refine XS.lload X46.here hx rfl (hb hby at_296) rfl ?_
                    show Steps p.tables e below (T46.setTop (mkF m 298 #[.val (.long u0), .second, .val (.long u1), .second, iv u2, iv u3, iv u4, iv u5, iv ix, iv iy, iv kd, .val (.long xa), .second, .val (.long xb), .second, iv xc, .val (.long xd), .second, .val (.long xe), .second, iv xf, .val (.long ya), .second, .val (.long yb), .second, iv yc, .val (.long yd), .second, .val (.long ye), .second, iv yf, rv b32, rv b40, .unset] [(.long xa)])) _
                    refine XS.lload X46.here hx rfl (hb hby at_298) rfl ?_
                    show Steps p.tables e below (T46.setTop (mkF m 300 #[.val (.long u0), .second, .val (.long u1), .second, iv u2, iv u3, iv u4, iv u5, iv ix, iv iy, iv kd, .val (.long xa), .second, .val (.long xb), .second, iv xc, .val (.long xd), .second, .val (.long xe), .second, iv xf, .val (.long ya), .second, .val (.long yb), .second, iv yc, .val (.long yd), .second, .val (.long ye), .second, iv yf, rv b32, rv b40, .unset] [(.long ya), (.long xa)])) _
                    refine XS.lcmp X46.here hx rfl (hb hby at_300) rfl ?_
                    show Steps p.tables e below (T46.setTop (mkF m 301 #[.val (.long u0), .second, .val (.long u1), .second, iv u2, iv u3, iv u4, iv u5, iv ix, iv iy, iv kd, .val (.long xa), .second, .val (.long xb), .second, iv xc, .val (.long xd), .second, .val (.long xe), .second, iv xf, .val (.long ya), .second, .val (.long yb), .second, iv yc, .val (.long yd), .second, .val (.long ye), .second, iv yf, rv b32, rv b40, .unset] [(.int (lcmpW xa ya))])) _
                    refine XS.ifNo X46.here hx rfl (hb hby at_301) rfl ((if0 _ _).trans (teq ((lw_eq _ _).mpr hd70)).2) ?_
                    show Steps p.tables e below (T46.setTop (mkF m 304 #[.val (.long u0), .second, .val (.long u1), .second, iv u2, iv u3, iv u4, iv u5, iv ix, iv iy, iv kd, .val (.long xa), .second, .val (.long xb), .second, iv xc, .val (.long xd), .second, .val (.long xe), .second, iv xf, .val (.long ya), .second, .val (.long yb), .second, iv yc, .val (.long yd), .second, .val (.long ye), .second, iv yf, rv b32, rv b40, .unset] [])) _
                    refine XS.lload X46.here hx rfl (hb hby at_304) rfl ?_
                    show Steps p.tables e below (T46.setTop (mkF m 306 #[.val (.long u0), .second, .val (.long u1), .second, iv u2, iv u3, iv u4, iv u5, iv ix, iv iy, iv kd, .val (.long xa), .second, .val (.long xb), .second, iv xc, .val (.long xd), .second, .val (.long xe), .second, iv xf, .val (.long ya), .second, .val (.long yb), .second, iv yc, .val (.long yd), .second, .val (.long ye), .second, iv yf, rv b32, rv b40, .unset] [(.long xb)])) _
                    refine XS.lload X46.here hx rfl (hb hby at_306) rfl ?_
                    show Steps p.tables e below (T46.setTop (mkF m 308 #[.val (.long u0), .second, .val (.long u1), .second, iv u2, iv u3, iv u4, iv u5, iv ix, iv iy, iv kd, .val (.long xa), .second, .val (.long xb), .second, iv xc, .val (.long xd), .second, .val (.long xe), .second, iv xf, .val (.long ya), .second, .val (.long yb), .second, iv yc, .val (.long yd), .second, .val (.long ye), .second, iv yf, rv b32, rv b40, .unset] [(.long yb), (.long xb)])) _
                    refine XS.lcmp X46.here hx rfl (hb hby at_308) rfl ?_
                    show Steps p.tables e below (T46.setTop (mkF m 309 #[.val (.long u0), .second, .val (.long u1), .second, iv u2, iv u3, iv u4, iv u5, iv ix, iv iy, iv kd, .val (.long xa), .second, .val (.long xb), .second, iv xc, .val (.long xd), .second, .val (.long xe), .second, iv xf, .val (.long ya), .second, .val (.long yb), .second, iv yc, .val (.long yd), .second, .val (.long ye), .second, iv yf, rv b32, rv b40, .unset] [(.int (lcmpW xb yb))])) _
                    refine XS.ifNo X46.here hx rfl (hb hby at_309) rfl ((if0 _ _).trans (teq ((lw_eq _ _).mpr hd71)).2) ?_
                    show Steps p.tables e below (T46.setTop (mkF m 312 #[.val (.long u0), .second, .val (.long u1), .second, iv u2, iv u3, iv u4, iv u5, iv ix, iv iy, iv kd, .val (.long xa), .second, .val (.long xb), .second, iv xc, .val (.long xd), .second, .val (.long xe), .second, iv xf, .val (.long ya), .second, .val (.long yb), .second, iv yc, .val (.long yd), .second, .val (.long ye), .second, iv yf, rv b32, rv b40, .unset] [])) _
                    refine XS.iload X46.here hx rfl (hb hby at_312) rfl ?_
                    show Steps p.tables e below (T46.setTop (mkF m 314 #[.val (.long u0), .second, .val (.long u1), .second, iv u2, iv u3, iv u4, iv u5, iv ix, iv iy, iv kd, .val (.long xa), .second, .val (.long xb), .second, iv xc, .val (.long xd), .second, .val (.long xe), .second, iv xf, .val (.long ya), .second, .val (.long yb), .second, iv yc, .val (.long yd), .second, .val (.long ye), .second, iv yf, rv b32, rv b40, .unset] [(.int xc)])) _
                    refine XS.iload X46.here hx rfl (hb hby at_314) rfl ?_
                    show Steps p.tables e below (T46.setTop (mkF m 316 #[.val (.long u0), .second, .val (.long u1), .second, iv u2, iv u3, iv u4, iv u5, iv ix, iv iy, iv kd, .val (.long xa), .second, .val (.long xb), .second, iv xc, .val (.long xd), .second, .val (.long xe), .second, iv xf, .val (.long ya), .second, .val (.long yb), .second, iv yc, .val (.long yd), .second, .val (.long ye), .second, iv yf, rv b32, rv b40, .unset] [(.int yc), (.int xc)])) _
                    refine XS.icmpNo X46.here hx rfl (hb hby at_316) rfl (teq hd72).2 ?_
                    show Steps p.tables e below (T46.setTop (mkF m 319 #[.val (.long u0), .second, .val (.long u1), .second, iv u2, iv u3, iv u4, iv u5, iv ix, iv iy, iv kd, .val (.long xa), .second, .val (.long xb), .second, iv xc, .val (.long xd), .second, .val (.long xe), .second, iv xf, .val (.long ya), .second, .val (.long yb), .second, iv yc, .val (.long yd), .second, .val (.long ye), .second, iv yf, rv b32, rv b40, .unset] [])) _
                    refine XS.lload X46.here hx rfl (hb hby at_319) rfl ?_
                    show Steps p.tables e below (T46.setTop (mkF m 321 #[.val (.long u0), .second, .val (.long u1), .second, iv u2, iv u3, iv u4, iv u5, iv ix, iv iy, iv kd, .val (.long xa), .second, .val (.long xb), .second, iv xc, .val (.long xd), .second, .val (.long xe), .second, iv xf, .val (.long ya), .second, .val (.long yb), .second, iv yc, .val (.long yd), .second, .val (.long ye), .second, iv yf, rv b32, rv b40, .unset] [(.long xd)])) _
                    refine XS.lload X46.here hx rfl (hb hby at_321) rfl ?_
                    show Steps p.tables e below (T46.setTop (mkF m 323 #[.val (.long u0), .second, .val (.long u1), .second, iv u2, iv u3, iv u4, iv u5, iv ix, iv iy, iv kd, .val (.long xa), .second, .val (.long xb), .second, iv xc, .val (.long xd), .second, .val (.long xe), .second, iv xf, .val (.long ya), .second, .val (.long yb), .second, iv yc, .val (.long yd), .second, .val (.long ye), .second, iv yf, rv b32, rv b40, .unset] [(.long yd), (.long xd)])) _
                    refine XS.lcmp X46.here hx rfl (hb hby at_323) rfl ?_
                    show Steps p.tables e below (T46.setTop (mkF m 324 #[.val (.long u0), .second, .val (.long u1), .second, iv u2, iv u3, iv u4, iv u5, iv ix, iv iy, iv kd, .val (.long xa), .second, .val (.long xb), .second, iv xc, .val (.long xd), .second, .val (.long xe), .second, iv xf, .val (.long ya), .second, .val (.long yb), .second, iv yc, .val (.long yd), .second, .val (.long ye), .second, iv yf, rv b32, rv b40, .unset] [(.int (lcmpW xd yd))])) _
                    refine XS.ifYes X46.here hx rfl (pc0 := 324) (pc' := 346) rfl (hb hby at_324) rfl ((if0 _ _).trans (feq (fun z => hd73 ((lw_eq _ _).mp z))).2) (by decide) (by decide) ?_
                    show Steps p.tables e below (T46.setTop (mkF m 346 #[.val (.long u0), .second, .val (.long u1), .second, iv u2, iv u3, iv u4, iv u5, iv ix, iv iy, iv kd, .val (.long xa), .second, .val (.long xb), .second, iv xc, .val (.long xd), .second, .val (.long xe), .second, iv xf, .val (.long ya), .second, .val (.long yb), .second, iv yc, .val (.long yd), .second, .val (.long ye), .second, iv yf, rv b32, rv b40, .unset] [])) _
                    refine XS.iconst X46.here hx rfl (hb hby at_346) ?_
                    exact k
                · skip
                  rw [show xp = (0 : Int32) from by rw [e_xp, if_pos hd69, if_pos hd70, if_pos hd71, if_neg hd72]] at k
                  show Steps p.tables e below (T46.setTop (mkF m 293 #[.val (.long u0), .second, .val (.long u1), .second, iv u2, iv u3, iv u4, iv u5, iv ix, iv iy, iv kd, .val (.long xa), .second, .val (.long xb), .second, iv xc, .val (.long xd), .second, .val (.long xe), .second, iv xf, .val (.long ya), .second, .val (.long yb), .second, iv yc, .val (.long yd), .second, .val (.long ye), .second, iv yf, rv b32, rv b40, .unset] [(.int iy), (.int ix)])) _
                  refine XS.icmpNo X46.here hx rfl (hb hby at_293) rfl (teq hd69).2 ?_
                  show Steps p.tables e below (T46.setTop (mkF m 296 #[.val (.long u0), .second, .val (.long u1), .second, iv u2, iv u3, iv u4, iv u5, iv ix, iv iy, iv kd, .val (.long xa), .second, .val (.long xb), .second, iv xc, .val (.long xd), .second, .val (.long xe), .second, iv xf, .val (.long ya), .second, .val (.long yb), .second, iv yc, .val (.long yd), .second, .val (.long ye), .second, iv yf, rv b32, rv b40, .unset] [])) _
                  refine XS.lload X46.here hx rfl (hb hby at_296) rfl ?_
                  show Steps p.tables e below (T46.setTop (mkF m 298 #[.val (.long u0), .second, .val (.long u1), .second, iv u2, iv u3, iv u4, iv u5, iv ix, iv iy, iv kd, .val (.long xa), .second, .val (.long xb), .second, iv xc, .val (.long xd), .second, .val (.long xe), .second, iv xf, .val (.long ya), .second, .val (.long yb), .second, iv yc, .val (.long yd), .second, .val (.long ye), .second, iv yf, rv b32, rv b40, .unset] [(.long xa)])) _
                  refine XS.lload X46.here hx rfl (hb hby at_298) rfl ?_
                  show Steps p.tables e below (T46.setTop (mkF m 300 #[.val (.long u0), .second, .val (.long u1), .second, iv u2, iv u3, iv u4, iv u5, iv ix, iv iy, iv kd, .val (.long xa), .second, .val (.long xb), .second, iv xc, .val (.long xd), .second, .val (.long xe), .second, iv xf, .val (.long ya), .second, .val (.long yb), .second, iv yc, .val (.long yd), .second, .val (.long ye), .second, iv yf, rv b32, rv b40, .unset] [(.long ya), (.long xa)])) _
                  refine XS.lcmp X46.here hx rfl (hb hby at_300) rfl ?_
                  show Steps p.tables e below (T46.setTop (mkF m 301 #[.val (.long u0), .second, .val (.long u1), .second, iv u2, iv u3, iv u4, iv u5, iv ix, iv iy, iv kd, .val (.long xa), .second, .val (.long xb), .second, iv xc, .val (.long xd), .second, .val (.long xe), .second, iv xf, .val (.long ya), .second, .val (.long yb), .second, iv yc, .val (.long yd), .second, .val (.long ye), .second, iv yf, rv b32, rv b40, .unset] [(.int (lcmpW xa ya))])) _
                  refine XS.ifNo X46.here hx rfl (hb hby at_301) rfl ((if0 _ _).trans (teq ((lw_eq _ _).mpr hd70)).2) ?_
                  show Steps p.tables e below (T46.setTop (mkF m 304 #[.val (.long u0), .second, .val (.long u1), .second, iv u2, iv u3, iv u4, iv u5, iv ix, iv iy, iv kd, .val (.long xa), .second, .val (.long xb), .second, iv xc, .val (.long xd), .second, .val (.long xe), .second, iv xf, .val (.long ya), .second, .val (.long yb), .second, iv yc, .val (.long yd), .second, .val (.long ye), .second, iv yf, rv b32, rv b40, .unset] [])) _
                  refine XS.lload X46.here hx rfl (hb hby at_304) rfl ?_
                  show Steps p.tables e below (T46.setTop (mkF m 306 #[.val (.long u0), .second, .val (.long u1), .second, iv u2, iv u3, iv u4, iv u5, iv ix, iv iy, iv kd, .val (.long xa), .second, .val (.long xb), .second, iv xc, .val (.long xd), .second, .val (.long xe), .second, iv xf, .val (.long ya), .second, .val (.long yb), .second, iv yc, .val (.long yd), .second, .val (.long ye), .second, iv yf, rv b32, rv b40, .unset] [(.long xb)])) _
                  refine XS.lload X46.here hx rfl (hb hby at_306) rfl ?_
                  show Steps p.tables e below (T46.setTop (mkF m 308 #[.val (.long u0), .second, .val (.long u1), .second, iv u2, iv u3, iv u4, iv u5, iv ix, iv iy, iv kd, .val (.long xa), .second, .val (.long xb), .second, iv xc, .val (.long xd), .second, .val (.long xe), .second, iv xf, .val (.long ya), .second, .val (.long yb), .second, iv yc, .val (.long yd), .second, .val (.long ye), .second, iv yf, rv b32, rv b40, .unset] [(.long yb), (.long xb)])) _
                  refine XS.lcmp X46.here hx rfl (hb hby at_308) rfl ?_
                  show Steps p.tables e below (T46.setTop (mkF m 309 #[.val (.long u0), .second, .val (.long u1), .second, iv u2, iv u3, iv u4, iv u5, iv ix, iv iy, iv kd, .val (.long xa), .second, .val (.long xb), .second, iv xc, .val (.long xd), .second, .val (.long xe), .second, iv xf, .val (.long ya), .second, .val (.long yb), .second, iv yc, .val (.long yd), .second, .val (.long ye), .second, iv yf, rv b32, rv b40, .unset] [(.int (lcmpW xb yb))])) _
                  refine XS.ifNo X46.here hx rfl (hb hby at_309) rfl ((if0 _ _).trans (teq ((lw_eq _ _).mpr hd71)).2) ?_
                  show Steps p.tables e below (T46.setTop (mkF m 312 #[.val (.long u0), .second, .val (.long u1), .second, iv u2, iv u3, iv u4, iv u5, iv ix, iv iy, iv kd, .val (.long xa), .second, .val (.long xb), .second, iv xc, .val (.long xd), .second, .val (.long xe), .second, iv xf, .val (.long ya), .second, .val (.long yb), .second, iv yc, .val (.long yd), .second, .val (.long ye), .second, iv yf, rv b32, rv b40, .unset] [])) _
                  refine XS.iload X46.here hx rfl (hb hby at_312) rfl ?_
                  show Steps p.tables e below (T46.setTop (mkF m 314 #[.val (.long u0), .second, .val (.long u1), .second, iv u2, iv u3, iv u4, iv u5, iv ix, iv iy, iv kd, .val (.long xa), .second, .val (.long xb), .second, iv xc, .val (.long xd), .second, .val (.long xe), .second, iv xf, .val (.long ya), .second, .val (.long yb), .second, iv yc, .val (.long yd), .second, .val (.long ye), .second, iv yf, rv b32, rv b40, .unset] [(.int xc)])) _
                  refine XS.iload X46.here hx rfl (hb hby at_314) rfl ?_
                  show Steps p.tables e below (T46.setTop (mkF m 316 #[.val (.long u0), .second, .val (.long u1), .second, iv u2, iv u3, iv u4, iv u5, iv ix, iv iy, iv kd, .val (.long xa), .second, .val (.long xb), .second, iv xc, .val (.long xd), .second, .val (.long xe), .second, iv xf, .val (.long ya), .second, .val (.long yb), .second, iv yc, .val (.long yd), .second, .val (.long ye), .second, iv yf, rv b32, rv b40, .unset] [(.int yc), (.int xc)])) _
                  refine XS.icmpYes X46.here hx rfl (pc0 := 316) (pc' := 346) rfl (hb hby at_316) rfl (feq hd72).2 (by decide) (by decide) ?_
                  show Steps p.tables e below (T46.setTop (mkF m 346 #[.val (.long u0), .second, .val (.long u1), .second, iv u2, iv u3, iv u4, iv u5, iv ix, iv iy, iv kd, .val (.long xa), .second, .val (.long xb), .second, iv xc, .val (.long xd), .second, .val (.long xe), .second, iv xf, .val (.long ya), .second, .val (.long yb), .second, iv yc, .val (.long yd), .second, .val (.long ye), .second, iv yf, rv b32, rv b40, .unset] [])) _
                  refine XS.iconst X46.here hx rfl (hb hby at_346) ?_
                  exact k
              · skip
                rw [show xp = (0 : Int32) from by rw [e_xp, if_pos hd69, if_pos hd70, if_neg hd71]] at k
                show Steps p.tables e below (T46.setTop (mkF m 293 #[.val (.long u0), .second, .val (.long u1), .second, iv u2, iv u3, iv u4, iv u5, iv ix, iv iy, iv kd, .val (.long xa), .second, .val (.long xb), .second, iv xc, .val (.long xd), .second, .val (.long xe), .second, iv xf, .val (.long ya), .second, .val (.long yb), .second, iv yc, .val (.long yd), .second, .val (.long ye), .second, iv yf, rv b32, rv b40, .unset] [(.int iy), (.int ix)])) _
                refine XS.icmpNo X46.here hx rfl (hb hby at_293) rfl (teq hd69).2 ?_
                show Steps p.tables e below (T46.setTop (mkF m 296 #[.val (.long u0), .second, .val (.long u1), .second, iv u2, iv u3, iv u4, iv u5, iv ix, iv iy, iv kd, .val (.long xa), .second, .val (.long xb), .second, iv xc, .val (.long xd), .second, .val (.long xe), .second, iv xf, .val (.long ya), .second, .val (.long yb), .second, iv yc, .val (.long yd), .second, .val (.long ye), .second, iv yf, rv b32, rv b40, .unset] [])) _
                refine XS.lload X46.here hx rfl (hb hby at_296) rfl ?_
                show Steps p.tables e below (T46.setTop (mkF m 298 #[.val (.long u0), .second, .val (.long u1), .second, iv u2, iv u3, iv u4, iv u5, iv ix, iv iy, iv kd, .val (.long xa), .second, .val (.long xb), .second, iv xc, .val (.long xd), .second, .val (.long xe), .second, iv xf, .val (.long ya), .second, .val (.long yb), .second, iv yc, .val (.long yd), .second, .val (.long ye), .second, iv yf, rv b32, rv b40, .unset] [(.long xa)])) _
                refine XS.lload X46.here hx rfl (hb hby at_298) rfl ?_
                show Steps p.tables e below (T46.setTop (mkF m 300 #[.val (.long u0), .second, .val (.long u1), .second, iv u2, iv u3, iv u4, iv u5, iv ix, iv iy, iv kd, .val (.long xa), .second, .val (.long xb), .second, iv xc, .val (.long xd), .second, .val (.long xe), .second, iv xf, .val (.long ya), .second, .val (.long yb), .second, iv yc, .val (.long yd), .second, .val (.long ye), .second, iv yf, rv b32, rv b40, .unset] [(.long ya), (.long xa)])) _
                refine XS.lcmp X46.here hx rfl (hb hby at_300) rfl ?_
                show Steps p.tables e below (T46.setTop (mkF m 301 #[.val (.long u0), .second, .val (.long u1), .second, iv u2, iv u3, iv u4, iv u5, iv ix, iv iy, iv kd, .val (.long xa), .second, .val (.long xb), .second, iv xc, .val (.long xd), .second, .val (.long xe), .second, iv xf, .val (.long ya), .second, .val (.long yb), .second, iv yc, .val (.long yd), .second, .val (.long ye), .second, iv yf, rv b32, rv b40, .unset] [(.int (lcmpW xa ya))])) _
                refine XS.ifNo X46.here hx rfl (hb hby at_301) rfl ((if0 _ _).trans (teq ((lw_eq _ _).mpr hd70)).2) ?_
                show Steps p.tables e below (T46.setTop (mkF m 304 #[.val (.long u0), .second, .val (.long u1), .second, iv u2, iv u3, iv u4, iv u5, iv ix, iv iy, iv kd, .val (.long xa), .second, .val (.long xb), .second, iv xc, .val (.long xd), .second, .val (.long xe), .second, iv xf, .val (.long ya), .second, .val (.long yb), .second, iv yc, .val (.long yd), .second, .val (.long ye), .second, iv yf, rv b32, rv b40, .unset] [])) _
                refine XS.lload X46.here hx rfl (hb hby at_304) rfl ?_
                show Steps p.tables e below (T46.setTop (mkF m 306 #[.val (.long u0), .second, .val (.long u1), .second, iv u2, iv u3, iv u4, iv u5, iv ix, iv iy, iv kd, .val (.long xa), .second, .val (.long xb), .second, iv xc, .val (.long xd), .second, .val (.long xe), .second, iv xf, .val (.long ya), .second, .val (.long yb), .second, iv yc, .val (.long yd), .second, .val (.long ye), .second, iv yf, rv b32, rv b40, .unset] [(.long xb)])) _
                refine XS.lload X46.here hx rfl (hb hby at_306) rfl ?_
                show Steps p.tables e below (T46.setTop (mkF m 308 #[.val (.long u0), .second, .val (.long u1), .second, iv u2, iv u3, iv u4, iv u5, iv ix, iv iy, iv kd, .val (.long xa), .second, .val (.long xb), .second, iv xc, .val (.long xd), .second, .val (.long xe), .second, iv xf, .val (.long ya), .second, .val (.long yb), .second, iv yc, .val (.long yd), .second, .val (.long ye), .second, iv yf, rv b32, rv b40, .unset] [(.long yb), (.long xb)])) _
                refine XS.lcmp X46.here hx rfl (hb hby at_308) rfl ?_
                show Steps p.tables e below (T46.setTop (mkF m 309 #[.val (.long u0), .second, .val (.long u1), .second, iv u2, iv u3, iv u4, iv u5, iv ix, iv iy, iv kd, .val (.long xa), .second, .val (.long xb), .second, iv xc, .val (.long xd), .second, .val (.long xe), .second, iv xf, .val (.long ya), .second, .val (.long yb), .second, iv yc, .val (.long yd), .second, .val (.long ye), .second, iv yf, rv b32, rv b40, .unset] [(.int (lcmpW xb yb))])) _
                refine XS.ifYes X46.here hx rfl (pc0 := 309) (pc' := 346) rfl (hb hby at_309) rfl ((if0 _ _).trans (feq (fun z => hd71 ((lw_eq _ _).mp z))).2) (by decide) (by decide) ?_
                show Steps p.tables e below (T46.setTop (mkF m 346 #[.val (.long u0), .second, .val (.long u1), .second, iv u2, iv u3, iv u4, iv u5, iv ix, iv iy, iv kd, .val (.long xa), .second, .val (.long xb), .second, iv xc, .val (.long xd), .second, .val (.long xe), .second, iv xf, .val (.long ya), .second, .val (.long yb), .second, iv yc, .val (.long yd), .second, .val (.long ye), .second, iv yf, rv b32, rv b40, .unset] [])) _
                refine XS.iconst X46.here hx rfl (hb hby at_346) ?_
                exact k
            · skip
              rw [show xp = (0 : Int32) from by rw [e_xp, if_pos hd69, if_neg hd70]] at k
              show Steps p.tables e below (T46.setTop (mkF m 293 #[.val (.long u0), .second, .val (.long u1), .second, iv u2, iv u3, iv u4, iv u5, iv ix, iv iy, iv kd, .val (.long xa), .second, .val (.long xb), .second, iv xc, .val (.long xd), .second, .val (.long xe), .second, iv xf, .val (.long ya), .second, .val (.long yb), .second, iv yc, .val (.long yd), .second, .val (.long ye), .second, iv yf, rv b32, rv b40, .unset] [(.int iy), (.int ix)])) _
              refine XS.icmpNo X46.here hx rfl (hb hby at_293) rfl (teq hd69).2 ?_
              show Steps p.tables e below (T46.setTop (mkF m 296 #[.val (.long u0), .second, .val (.long u1), .second, iv u2, iv u3, iv u4, iv u5, iv ix, iv iy, iv kd, .val (.long xa), .second, .val (.long xb), .second, iv xc, .val (.long xd), .second, .val (.long xe), .second, iv xf, .val (.long ya), .second, .val (.long yb), .second, iv yc, .val (.long yd), .second, .val (.long ye), .second, iv yf, rv b32, rv b40, .unset] [])) _
              refine XS.lload X46.here hx rfl (hb hby at_296) rfl ?_
              show Steps p.tables e below (T46.setTop (mkF m 298 #[.val (.long u0), .second, .val (.long u1), .second, iv u2, iv u3, iv u4, iv u5, iv ix, iv iy, iv kd, .val (.long xa), .second, .val (.long xb), .second, iv xc, .val (.long xd), .second, .val (.long xe), .second, iv xf, .val (.long ya), .second, .val (.long yb), .second, iv yc, .val (.long yd), .second, .val (.long ye), .second, iv yf, rv b32, rv b40, .unset] [(.long xa)])) _
              refine XS.lload X46.here hx rfl (hb hby at_298) rfl ?_
              show Steps p.tables e below (T46.setTop (mkF m 300 #[.val (.long u0), .second, .val (.long u1), .second, iv u2, iv u3, iv u4, iv u5, iv ix, iv iy, iv kd, .val (.long xa), .second, .val (.long xb), .second, iv xc, .val (.long xd), .second, .val (.long xe), .second, iv xf, .val (.long ya), .second, .val (.long yb), .second, iv yc, .val (.long yd), .second, .val (.long ye), .second, iv yf, rv b32, rv b40, .unset] [(.long ya), (.long xa)])) _
              refine XS.lcmp X46.here hx rfl (hb hby at_300) rfl ?_
              show Steps p.tables e below (T46.setTop (mkF m 301 #[.val (.long u0), .second, .val (.long u1), .second, iv u2, iv u3, iv u4, iv u5, iv ix, iv iy, iv kd, .val (.long xa), .second, .val (.long xb), .second, iv xc, .val (.long xd), .second, .val (.long xe), .second, iv xf, .val (.long ya), .second, .val (.long yb), .second, iv yc, .val (.long yd), .second, .val (.long ye), .second, iv yf, rv b32, rv b40, .unset] [(.int (lcmpW xa ya))])) _
              refine XS.ifYes X46.here hx rfl (pc0 := 301) (pc' := 346) rfl (hb hby at_301) rfl ((if0 _ _).trans (feq (fun z => hd70 ((lw_eq _ _).mp z))).2) (by decide) (by decide) ?_
              show Steps p.tables e below (T46.setTop (mkF m 346 #[.val (.long u0), .second, .val (.long u1), .second, iv u2, iv u3, iv u4, iv u5, iv ix, iv iy, iv kd, .val (.long xa), .second, .val (.long xb), .second, iv xc, .val (.long xd), .second, .val (.long xe), .second, iv xf, .val (.long ya), .second, .val (.long yb), .second, iv yc, .val (.long yd), .second, .val (.long ye), .second, iv yf, rv b32, rv b40, .unset] [])) _
              refine XS.iconst X46.here hx rfl (hb hby at_346) ?_
              exact k
          · skip
            rw [show xp = (0 : Int32) from by rw [e_xp, if_neg hd69]] at k
            show Steps p.tables e below (T46.setTop (mkF m 293 #[.val (.long u0), .second, .val (.long u1), .second, iv u2, iv u3, iv u4, iv u5, iv ix, iv iy, iv kd, .val (.long xa), .second, .val (.long xb), .second, iv xc, .val (.long xd), .second, .val (.long xe), .second, iv xf, .val (.long ya), .second, .val (.long yb), .second, iv yc, .val (.long yd), .second, .val (.long ye), .second, iv yf, rv b32, rv b40, .unset] [(.int iy), (.int ix)])) _
            refine XS.icmpYes X46.here hx rfl (pc0 := 293) (pc' := 346) rfl (hb hby at_293) rfl (feq hd69).2 (by decide) (by decide) ?_
            show Steps p.tables e below (T46.setTop (mkF m 346 #[.val (.long u0), .second, .val (.long u1), .second, iv u2, iv u3, iv u4, iv u5, iv ix, iv iy, iv kd, .val (.long xa), .second, .val (.long xb), .second, iv xc, .val (.long xd), .second, .val (.long xe), .second, iv xf, .val (.long ya), .second, .val (.long yb), .second, iv yc, .val (.long yd), .second, .val (.long ye), .second, iv yf, rv b32, rv b40, .unset] [])) _
            refine XS.iconst X46.here hx rfl (hb hby at_346) ?_
            exact k
        obtain ⟨cq77, kq77, q77a, q77b, q77c⟩ := isOf hZ rfl f48
        obtain ⟨_, _, ⟨T77, L77, k77, n77⟩, -, X77, ⟨Lc77, hQ77, l77, y77, z77⟩, st77⟩ := X46.virtualBack hx (y := (⟨"com/example/tracewell/tracewell/capture/Flow", "equals", "(Ljava/lang/Object;)Z"⟩ : MethodName)) (z := (⟨"com/example/tracewell/tracewell/capture/Flow", "equals", "(Ljava/lang/Object;)Z"⟩ : MethodName)) hown (mvT hZ (hw _ (List.mem_of_getElem? (i := 35) rfl))) (mvT hZ (hw _ (List.mem_of_getElem? (i := 36) rfl))) (notFace_of_selects (args := #[]) (mvT hZ (hw _ (List.mem_of_getElem? (i := 38) rfl)))) (mvT hZ (hw _ (List.mem_of_getElem? (i := 38) rfl))) (mvT hZ (hw _ (List.mem_of_getElem? (i := 37) rfl))) (by decide) (backOf (W := 0) (rmEq l Z a0 hw [] b32 b40 (nar .boolean ix) xa xb xc xd xe xf (nar .boolean iy) ya yb yc yd ye yf T46.heap n0 Z46 f49 Bq46) hZ (hw _ (List.mem_of_getElem? (i := 39) rfl)) (hw _ (List.mem_of_getElem? (i := 9) rfl)) (by decide) (by decide)) q77a q77c (g := (mkF m 353 #[.val (.long u0), .second, .val (.long u1), .second, iv u2, iv u3, iv u4, iv u5, iv ix, iv iy, iv kd, .val (.long xa), .second, .val (.long xb), .second, iv xc, .val (.long xd), .second, .val (.long xe), .second, iv xf, .val (.long ya), .second, .val (.long yb), .second, iv yc, .val (.long yd), .second, .val (.long ye), .second, iv yf, rv b32, rv b40, iv xp] [(.ref b40), (.ref b32)])) rfl (by rw [hml]; rfl) (Steps.refl _) (argsL := [(.ref b40)]) (rest := []) (lenOf pd_5 rfl) rfl (by show 2 * 0 + _ ≤ _; exact Nat.le_of_eq rfl) (hb hby at_353) (fun _ _ => ⟨rfl, rfl, (by decide : 2 + 0 ≤ _), (by decide : 14 + 0 ≤ _)⟩)
        dsimp only [Pt.U, Pt.locs, Pt.cells, Pt.slots] at X77 l77 y77 z77 st77 hQ77
        subst l77 y77 z77
        obtain ⟨rfl, Nq77, eq77⟩ := hQ77
        have N77 := Fr.app N46 Nq77
        obtain ⟨cq78, kq78, q78a, q78b, q78c⟩ := isOf hZ eq77 f50
        obtain ⟨_, _, ⟨T78, L78, k78, n78⟩, -, X78, ⟨Lc78, hQ78, l78, y78, z78⟩, st78⟩ := X77.virtualBack hx (y := (⟨"com/example/tracewell/tracewell/capture/Flow", "equals", "(Ljava/lang/Object;)Z"⟩ : MethodName)) (z := (⟨"com/example/tracewell/tracewell/capture/Flow", "equals", "(Ljava/lang/Object;)Z"⟩ : MethodName)) hown (mvT hZ (hw _ (List.mem_of_getElem? (i := 35) rfl))) (mvT hZ (hw _ (List.mem_of_getElem? (i := 36) rfl))) (notFace_of_selects (args := #[]) (mvT hZ (hw _ (List.mem_of_getElem? (i := 38) rfl)))) (mvT hZ (hw _ (List.mem_of_getElem? (i := 38) rfl))) (mvT hZ (hw _ (List.mem_of_getElem? (i := 37) rfl))) (by decide) (backOf (W := 0) (rmEq l Z a0 hw [] b40 b32 (nar .boolean iy) ya yb yc yd ye yf (nar .boolean ix) xa xb xc xd xe xf T46.heap n0 Z46 Bq46 f49) hZ (hw _ (List.mem_of_getElem? (i := 39) rfl)) (hw _ (List.mem_of_getElem? (i := 9) rfl)) (by decide) (by decide)) q78a q78c (g := (mkF m 365 #[.val (.long u0), .second, .val (.long u1), .second, iv u2, iv u3, iv u4, iv u5, iv ix, iv iy, iv kd, .val (.long xa), .second, .val (.long xb), .second, iv xc, .val (.long xd), .second, .val (.long xe), .second, iv xf, .val (.long ya), .second, .val (.long yb), .second, iv yc, .val (.long yd), .second, .val (.long ye), .second, iv yf, rv b32, rv b40, iv xp] [(.ref b32), (.ref b40)])) rfl (by rw [hml]; rfl) (Steps.refl _) (argsL := [(.ref b32)]) (rest := []) (lenOf pd_5 rfl) rfl (by show 2 * 0 + _ ≤ _; exact Nat.le_of_eq rfl) (hb hby at_365) (fun _ _ => ⟨rfl, eq77, (by decide : 2 + 0 ≤ _), (by decide : 14 + 0 ≤ _)⟩)
        dsimp only [Pt.U, Pt.locs, Pt.cells, Pt.slots] at X78 l78 y78 z78 st78 hQ78
        subst l78 y78 z78
        obtain ⟨rfl, Nq78, eq78⟩ := hQ78
        have N78 := Fr.app N77 Nq78
        obtain ⟨fs, hr, hrun, hended, hW, hsame⟩ := X78.leave (v := some (.int (1 : Int32))) (fun h => by rw [Bd.returns] at h; cases h)
        refine ⟨_, _, S76 _ ?_, hrun, hended, _, _, rfl, ?_, ⟨_, rfl⟩, hW, hsame.mono (by decide) (by decide)⟩
        · skip
          show Steps p.tables e below (T46.setTop (mkF m 347 #[.val (.long u0), .second, .val (.long u1), .second, iv u2, iv u3, iv u4, iv u5, iv ix, iv iy, iv kd, .val (.long xa), .second, .val (.long xb), .second, iv xc, .val (.long xd), .second, .val (.long xe), .second, iv xf, .val (.long ya), .second, .val (.long yb), .second, iv yc, .val (.long yd), .second, .val (.long ye), .second, iv yf, rv b32, rv b40, .unset] [(.int xp)])) _
          refine XS.istore X46.here hx rfl (hb hby at_347) rfl (l' := #[.val (.long u0), .second, .val (.long u1), .second, iv u2, iv u3, iv u4, iv u5, iv ix, iv iy, iv kd, .val (.long xa), .second, .val (.long xb), .second, iv xc, .val (.long xd), .second, .val (.long xe), .second, iv xf, .val (.long ya), .second, .val (.long yb), .second, iv yc, .val (.long yd), .second, .val (.long ye), .second, iv yf, rv b32, rv b40, iv xp]) rfl ?_
          show Steps p.tables e below (T46.setTop (mkF m 349 #[.val (.long u0), .second, .val (.long u1), .second, iv u2, iv u3, iv u4, iv u5, iv ix, iv iy, iv kd, .val (.long xa), .second, .val (.long xb), .second, iv xc, .val (.long xd), .second, .val (.long xe), .second, iv xf, .val (.long ya), .second, .val (.long yb), .second, iv yc, .val (.long yd), .second, .val (.long ye), .second, iv yf, rv b32, rv b40, iv xp] [])) _
          refine XS.aload X46.here hx rfl (hb hby at_349) rfl rfl ?_
          show Steps p.tables e below (T46.setTop (mkF m 351 #[.val (.long u0), .second, .val (.long u1), .second, iv u2, iv u3, iv u4, iv u5, iv ix, iv iy, iv kd, .val (.long xa), .second, .val (.long xb), .second, iv xc, .val (.long xd), .second, .val (.long xe), .second, iv xf, .val (.long ya), .second, .val (.long yb), .second, iv yc, .val (.long yd), .second, .val (.long ye), .second, iv yf, rv b32, rv b40, iv xp] [(.ref b32)])) _
          refine XS.aload X46.here hx rfl (hb hby at_351) rfl rfl ?_
          show Steps p.tables e below (T46.setTop (mkF m 353 #[.val (.long u0), .second, .val (.long u1), .second, iv u2, iv u3, iv u4, iv u5, iv ix, iv iy, iv kd, .val (.long xa), .second, .val (.long xb), .second, iv xc, .val (.long xd), .second, .val (.long xe), .second, iv xf, .val (.long ya), .second, .val (.long yb), .second, iv yc, .val (.long yd), .second, .val (.long ye), .second, iv yf, rv b32, rv b40, iv xp] [(.ref b40), (.ref b32)])) _
          refine st77.trans ?_
          show Steps p.tables e below (T77.setTop (mkF m 356 #[.val (.long u0), .second, .val (.long u1), .second, iv u2, iv u3, iv u4, iv u5, iv ix, iv iy, iv kd, .val (.long xa), .second, .val (.long xb), .second, iv xc, .val (.long xd), .second, .val (.long xe), .second, iv xf, .val (.long ya), .second, .val (.long yb), .second, iv yc, .val (.long yd), .second, .val (.long ye), .second, iv yf, rv b32, rv b40, iv xp] [(.int (own_eqf (nar .boolean ix) xa xb xc xd xe xf (nar .boolean iy) ya yb yc yd ye yf))])) _
          refine XS.iload X77.here hx rfl (hb hby at_356) rfl ?_
          show Steps p.tables e below (T77.setTop (mkF m 358 #[.val (.long u0), .second, .val (.long u1), .second, iv u2, iv u3, iv u4, iv u5, iv ix, iv iy, iv kd, .val (.long xa), .second, .val (.long xb), .second, iv xc, .val (.long xd), .second, .val (.long xe), .second, iv xf, .val (.long ya), .second, .val (.long yb), .second, iv yc, .val (.long yd), .second, .val (.long ye), .second, iv yf, rv b32, rv b40, iv xp] [(.int xp), (.int (own_eqf (nar .boolean ix) xa xb xc xd xe xf (nar .boolean iy) ya yb yc yd ye yf))])) _
          refine XS.icmpNo X77.here hx rfl (hb hby at_358) rfl (teq (own_xp (own_01 e_ix) (own_01 e_iy) e_xp)).2 ?_
          show Steps p.tables e below (T77.setTop (mkF m 361 #[.val (.long u0), .second, .val (.long u1), .second, iv u2, iv u3, iv u4, iv u5, iv ix, iv iy, iv kd, .val (.long xa), .second, .val (.long xb), .second, iv xc, .val (.long xd), .second, .val (.long xe), .second, iv xf, .val (.long ya), .second, .val (.long yb), .second, iv yc, .val (.long yd), .second, .val (.long ye), .second, iv yf, rv b32, rv b40, iv xp] [])) _
          refine XS.aload X77.here hx rfl (hb hby at_361) rfl rfl ?_
          show Steps p.tables e below (T77.setTop (mkF m 363 #[.val (.long u0), .second, .val (.long u1), .second, iv u2, iv u3, iv u4, iv u5, iv ix, iv iy, iv kd, .val (.long xa), .second, .val (.long xb), .second, iv xc, .val (.long xd), .second, .val (.long xe), .second, iv xf, .val (.long ya), .second, .val (.long yb), .second, iv yc, .val (.long yd), .second, .val (.long ye), .second, iv yf, rv b32, rv b40, iv xp] [(.ref b40)])) _
          refine XS.aload X77.here hx rfl (hb hby at_363) rfl rfl ?_
          show Steps p.tables e below (T77.setTop (mkF m 365 #[.val (.long u0), .second, .val (.long u1), .second, iv u2, iv u3, iv u4, iv u5, iv ix, iv iy, iv kd, .val (.long xa), .second, .val (.long xb), .second, iv xc, .val (.long xd), .second, .val (.long xe), .second, iv xf, .val (.long ya), .second, .val (.long yb), .second, iv yc, .val (.long yd), .second, .val (.long ye), .second, iv yf, rv b32, rv b40, iv xp] [(.ref b32), (.ref b40)])) _
          refine st78.trans ?_
          show Steps p.tables e below (T78.setTop (mkF m 368 #[.val (.long u0), .second, .val (.long u1), .second, iv u2, iv u3, iv u4, iv u5, iv ix, iv iy, iv kd, .val (.long xa), .second, .val (.long xb), .second, iv xc, .val (.long xd), .second, .val (.long xe), .second, iv xf, .val (.long ya), .second, .val (.long yb), .second, iv yc, .val (.long yd), .second, .val (.long ye), .second, iv yf, rv b32, rv b40, iv xp] [(.int (own_eqf (nar .boolean iy) ya yb yc yd ye yf (nar .boolean ix) xa xb xc xd xe xf))])) _
          refine XS.iload X78.here hx rfl (hb hby at_368) rfl ?_
          show Steps p.tables e below (T78.setTop (mkF m 370 #[.val (.long u0), .second, .val (.long u1), .second, iv u2, iv u3, iv u4, iv u5, iv ix, iv iy, iv kd, .val (.long xa), .second, .val (.long xb), .second, iv xc, .val (.long xd), .second, .val (.long xe), .second, iv xf, .val (.long ya), .second, .val (.long yb), .second, iv yc, .val (.long yd), .second, .val (.long ye), .second, iv yf, rv b32, rv b40, iv xp] [(.int xp), (.int (own_eqf (nar .boolean iy) ya yb yc yd ye yf (nar .boolean ix) xa xb xc xd xe xf))])) _
          refine XS.icmpNo X78.here hx rfl (hb hby at_370) rfl (teq (own_yp (own_01 e_ix) (own_01 e_iy) e_xp)).2 ?_
          show Steps p.tables e below (T78.setTop (mkF m 373 #[.val (.long u0), .second, .val (.long u1), .second, iv u2, iv u3, iv u4, iv u5, iv ix, iv iy, iv kd, .val (.long xa), .second, .val (.long xb), .second, iv xc, .val (.long xd), .second, .val (.long xe), .second, iv xf, .val (.long ya), .second, .val (.long yb), .second, iv yc, .val (.long yd), .second, .val (.long ye), .second, iv yf, rv b32, rv b40, iv xp] [])) _
          refine XS.iconst X78.here hx rfl (hb hby at_373) ?_
          show Steps p.tables e below (T78.setTop (mkF m 374 #[.val (.long u0), .second, .val (.long u1), .second, iv u2, iv u3, iv u4, iv u5, iv ix, iv iy, iv kd, .val (.long xa), .second, .val (.long xb), .second, iv xc, .val (.long xd), .second, .val (.long xe), .second, iv xf, .val (.long ya), .second, .val (.long yb), .second, iv yc, .val (.long yd), .second, .val (.long ye), .second, iv yf, rv b32, rv b40, iv xp] [(.int (1 : Int32))])) _
          refine XS.goto X78.here hx rfl (pc0 := 374) (pc' := 378) rfl (hb hby at_374) (by decide) (by decide) ?_
          show Steps p.tables e below (T78.setTop (mkF m 378 #[.val (.long u0), .second, .val (.long u1), .second, iv u2, iv u3, iv u4, iv u5, iv ix, iv iy, iv kd, .val (.long xa), .second, .val (.long xb), .second, iv xc, .val (.long xd), .second, .val (.long xe), .second, iv xf, .val (.long ya), .second, .val (.long yb), .second, iv yc, .val (.long yd), .second, .val (.long ye), .second, iv yf, rv b32, rv b40, iv xp] [(.int (1 : Int32))])) _
          exact retN X78 hx (t := .boolean) Bd.returns (by simp) (hb hby at_378) hr
        · show Q0 Z u0 u1 u2 u3 u4 u5 ca cc h0 n0 _ T78.heap _
          rw [eq78]
          exact ⟨rfl, N78⟩
set_option maxRecDepth 65536 in
set_option maxHeartbeats 40000000 in
theorem comes_1 {Post : Tables → Env → Array Value → State → Outcome → State → Prop} (hpost : ∀ tb e args s v u, (limb_1_1.after args s (.returned v) u = true ∧ limb_1_2.after args s (.returned v) u = true ∧ True) → FrameEnd s (.returned v) u (Jvm.fieldLocs frame_1_writes args s ++ Jvm.arrayLocs frame_1_arrays args s ++ Jvm.staticLocs frame_1_statics s) 16 128 → Post tb e args s (.returned v) u) :
    ArmFor flags0 classFile x code maxLocals ret World_1 tables_1 room_1 Calls_1 rest_1 Pre_1 Post := by
  intro l hfl _ _ p e ha hc hk s m args below hf hA hF happ hP
  obtain ⟨hcalls, hrest, hpre⟩ := hP
  obtain ⟨-, -, -, hnamed, -, -, -, hat⟩ := (Spec.applies_iff hf).mp happ
  obtain ⟨hg, hn⟩ := and_e (Cond.before_iff.mp (show (Jvm.Cond.and given_1 narrow_1).before args s = true from hpre))
  obtain ⟨g1, g2⟩ := and_e hg
  obtain ⟨g3, g4⟩ := and_e g2
  obtain ⟨g5, g6⟩ := and_e g4
  obtain ⟨g7, g8⟩ := and_e g6
  obtain ⟨g9, g10⟩ := and_e g8
  obtain ⟨g11, g12⟩ := and_e g10
  obtain ⟨w0, w1, w2, w3, w4, w5, rfl⟩ : ∃ w0 w1 w2 w3 w4 w5 : Value, args = #[w0, w1, w2, w3, w4, w5] := by
    have hs : args.size = 6 := by simpa [Cond.value, given_1] using g1
    obtain ⟨L⟩ := args
    match L, hs with
    | [w0, w1, w2, w3, w4, w5], _ => exact ⟨w0, w1, w2, w3, w4, w5, rfl⟩
  have hw := fun d (hd : d ∈ tables_1) => atoms_spec (ws := Jvm.Cond.code x code maxLocals ret :: tables_1) hat d (List.mem_cons_of_mem _ hd)
  have hfit : Fit s := fun {y c} hc i hi => by
    obtain ⟨ha, rfl⟩ := Array.getElem?_eq_some_iff.mp hc
    have q := List.all_eq_true.mp ((Array.all_eq_true_iff_forall_mem.mp hF) _ (Array.getElem_mem ha)) i (List.mem_range.mpr hi)
    simpa [Array.getElem?_eq_getElem hi] using q
  obtain ⟨hsets, hown0⟩ := atoms_of _ (rest_1_c_eq ▸ (show rest_1_c.before _ s = true from hrest))
  have hr0 := Cond.before_iff.mp hown0
  obtain ⟨i0, ei0⟩ := isL_v g3
  obtain rfl : w0 = (.long i0) := Option.some.inj ei0
  obtain ⟨i1, ei1⟩ := isL_v g5
  obtain rfl : w1 = (.long i1) := Option.some.inj ei1
  obtain ⟨i2, ei2⟩ := is_v g7
  obtain rfl : w2 = (.int i2) := Option.some.inj ei2
  obtain ⟨i3, ei3⟩ := is_v g9
  obtain rfl : w3 = (.int i3) := Option.some.inj ei3
  obtain ⟨i4, ei4⟩ := is_v g11
  obtain rfl : w4 = (.int i4) := Option.some.inj ei4
  obtain ⟨i5, ei5⟩ := is_v g12
  obtain rfl : w5 = (.int i5) := Option.some.inj ei5
  obtain ⟨ca, eca⟩ := arr_v (Cond.before_iff.mp (hsets _ (List.mem_of_getElem? (i := 2) rfl)))
  obtain ⟨cc, hA⟩ := Arr.start eca (Cond.before_iff.mp (hsets _ (List.mem_of_getElem? (i := 2) rfl)))
  have hS := Sta.start eca (Or.inl (hsets _ (List.mem_of_getElem? (i := 1) rfl)))
  obtain ⟨hl1, hl2⟩ := own_len eca (hA.fin (Vm.Alike.refl _)) (Cond.before_iff.mp (hsets _ (List.mem_of_getElem? (i := 4) rfl)))
  have hB : Bxs s ca cc "java/lang/Long" "J" (256 : Int32) (fun j => .long ((j - (128 : Int32)).toInt64)) := Bxs.start (fun idx => eca) hA hl1 hl2 (by decide) (Cond.before_iff.mp (hsets _ (List.mem_of_getElem? (i := 5) rfl))) (fun X j hj h => eqv_l (i2l_at (own_sub128 hj)) h)
  obtain ⟨n, o, h1, h2, h3, _, L, rfl, ⟨rfl, N⟩, hq⟩ := rm0 l s _ hw tables_1 i0 i1 i2 i3 i4 i5 ca cc s.heap s.heap.size (Nat.le_refl _) (Old.start s) hS hB p e ha hc hk s m _ below hf ((Spec.applies_iff_loose hf).mp happ).1 ⟨rfl, State.Warmed39.refl s, rfl⟩ trivial
  refine ⟨n, _, h1, h2, h3, hpost _ _ _ _ _ _ ⟨Cond.after_iff.mpr rfl, Cond.after_iff.mpr (eq_i res_at (Term.int_eval (1)) rfl), trivial⟩ ⟨hq.1, hq.2.1, (hq.2.2.sift fun y hy => Or.inr (N y hy)).mono (by decide) (by decide)⟩⟩
theorem main_1_1 : Claimed_1_1 := comes_1 fun _ _ _ _ _ _ h hF => ⟨h.1, hF⟩
theorem main_1_2 : Claimed_1_2 := comes_1 fun _ _ _ _ _ _ h hF => ⟨h.2.1, hF⟩
end Jvm.Pilot.@@N@@
namespace Jvm.Pilot.@@N@@
open Jvm Jvm.ClassFile Sem Op Lib Jvm.Free Jvm.Stand Jvm.Pilot.@@N@@.Jvm.D
/-! MADE BY PROGRAM (witnessworld.py) out of the Statement's table words and the real class files: 16 classes; the members and pool entries that the words name. The judged class is class 1, her method 3. -/
namespace start1
open Jvm.ClassFile
def u (s : String) : CpInfo := .utf8 (stringToUtf16 s)
/-- a pool by its gaps: so many unusable entries, then the entry; so many at the end -/
def gap : Nat → List CpInfo → List CpInfo
  | 0, r => r
  | n + 1, r => .unusable :: gap n r
def poolList (es : List (Nat × CpInfo)) (last : Nat) : List CpInfo := es.foldr (fun e r => gap e.1 (e.2 :: r)) (gap last [])
def pool (es : List (Nat × CpInfo)) (last : Nat) : Array CpInfo := ⟨poolList es last⟩
def fileOf (pool : Array CpInfo) (this : Nat) (attrs : Array Attribute := #[]) (ms : Array MethodInfo := #[]) (fl : Nat := 33) (sup : Nat := 0) (ifs : Array Nat := #[]) (fds : Array FieldInfo := #[]) : ClassFile where
  minorVersion := 0
  majorVersion := 65
  constantPool := pool
  accessFlags := fl
  thisClass := this
  superClass := sup
  interfaces := ifs
  fields := fds
  methods := ms
  attributes := attrs
def plain (name : String) (sup : Option ClassId) : Class where
  name := name
  kind := .ordinary
  loader := none
  accessFlags := 33
  super := sup
  interfaces := #[]
  cf := none
  fields := #[]
  methods := #[]
  instanceTypes := #[]
  staticTypes := #[]
  resolved := #[]
  callSites := []
  init := .initialized
  statics := none
  mirror := none

def pool0 : Array CpInfo := pool [(5, u "<init>"), (0, u "()V"), (1, .class_ 10), (1, u "java/lang/Object")] 113

def k0c0 : Code := { maxStack := 0, maxLocals := 1, code := object_method_1_code, exceptionTable := #[], attributes := #[] }
def k0m0 : Method := { name := "<init>", desc := "()V", sig := { parameters := [], returnType := none }, accessFlags := 1, code := some k0c0 }
/-- java/lang/Object -/
def k0 : Class := { plain "java/lang/Object" none with
  accessFlags := 33
  interfaces := #[]
  cf := some (fileOf pool0 8 #[] #[{ accessFlags := 1, nameIndex := 5, descriptorIndex := 6, attributes := #[] }] 33 0 #[] #[])
  fields := #[]
  methods := #[k0m0]
  instanceTypes := #[]
  staticTypes := #[]
  resolved := Array.replicate 124 none
  statics := none }

def pool1 : Array CpInfo := pool [(2, .class_ 4), (0, .nameAndType 5 6), (0, u "java/lang/Object"), (0, u "<init>"), (0, u "()V"), (0, .methodref 8 9), (0, .class_ 10), (0, .nameAndType 11 12), (0, u "com/example/tracewell/tracewell/capture/FlowEqualsPinLaw"), (0, u "pickL"), (0, u "(IIJJ)J"), (0, .methodref 8 14), (0, .nameAndType 15 16), (0, u "pickI"), (0, u "(IIII)I"), (0, .class_ 18), (0, u "com/example/tracewell/tracewell/capture/Flow"), (0, .methodref 17 3), (0, .methodref 17 21), (0, .nameAndType 22 23), (0, u "set"), (0, u "(ZJJIJJI)V"), (0, .methodref 17 25), (0, .nameAndType 26 27), (0, u "equals"), (0, u "(Ljava/lang/Object;)Z"), (0, .methodref 29 30), (0, .class_ 31), (0, .nameAndType 32 33), (0, u "java/lang/Long"), (0, u "valueOf"), (0, u "(J)Ljava/lang/Long;"), (3, u "law"), (0, u "(JJIIII)Z")] 2

def k1m0 : Method := { name := "<init>", desc := "()V", sig := { parameters := [], returnType := none }, accessFlags := 1, code := none }
def k1c1 : Code := { maxStack := 2, maxLocals := 6, code := method_2_code, exceptionTable := #[], attributes := #[] }
def k1m1 : Method := { name := "pickL", desc := "(IIJJ)J", sig := { parameters := [.int, .int, .long, .long], returnType := some .long }, accessFlags := 10, code := some k1c1 }
def k1c2 : Code := { maxStack := 2, maxLocals := 4, code := method_3_code, exceptionTable := #[], attributes := #[] }
def k1m2 : Method := { name := "pickI", desc := "(IIII)I", sig := { parameters := [.int, .int, .int, .int], returnType := some .int }, accessFlags := 10, code := some k1c2 }
def k1c3 : Code := { maxStack := 12, maxLocals := 34, code := code, exceptionTable := #[], attributes := #[] }
def k1m3 : Method := { name := "law", desc := "(JJIIII)Z", sig := { parameters := [.long, .long, .int, .int, .int, .int], returnType := some .boolean }, accessFlags := 9, code := some k1c3 }
/-- com/example/tracewell/tracewell/capture/FlowEqualsPinLaw -/
def k1 : Class := { plain "com/example/tracewell/tracewell/capture/FlowEqualsPinLaw" (some 0) with
  accessFlags := 49
  interfaces := #[]
  cf := some (fileOf pool1 8 #[] #[{ accessFlags := 1, nameIndex := 5, descriptorIndex := 6, attributes := #[] }, { accessFlags := 10, nameIndex := 11, descriptorIndex := 12, attributes := #[] }, { accessFlags := 10, nameIndex := 15, descriptorIndex := 16, attributes := #[] }, { accessFlags := 9, nameIndex := 37, descriptorIndex := 38, attributes := #[] }] 49 2 #[] #[])
  fields := #[]
  methods := #[k1m0, k1m1, k1m2, k1m3]
  instanceTypes := #[]
  staticTypes := #[]
  resolved := Array.replicate 41 none
  statics := none }

def pool2 : Array CpInfo := pool [(1, .methodref 2 3), (0, .class_ 4), (0, .nameAndType 5 6), (0, u "java/lang/Object"), (0, u "<init>"), (0, u "()V"), (1, .class_ 10), (1, u "com/example/tracewell/tracewell/capture/Flow"), (0, u "set"), (0, u "(ZJJIJJI)V"), (0, .fieldref 8 14), (0, .nameAndType 15 16), (0, u "ipv6"), (0, u "Z"), (0, .fieldref 8 18), (0, .nameAndType 19 20), (0, u "sourceHigh"), (0, u "J"), (0, .fieldref 8 22), (0, .nameAndType 23 20), (0, u "sourceLow"), (0, .fieldref 8 25), (0, .nameAndType 26 27), (0, u "sourcePort"), (0, u "I"), (0, .fieldref 8 29), (0, .nameAndType 30 20), (0, u "destinationHigh"), (0, .fieldref 8 32), (0, .nameAndType 33 20), (0, u "destinationLow"), (0, .fieldref 8 35), (0, .nameAndType 36 27), (0, u "destinationPort"), (13, u "equals"), (0, u "(Ljava/lang/Object;)Z")] 4

def k2c0 : Code := { maxStack := 1, maxLocals := 1, code := prog_11_method_1_code, exceptionTable := #[], attributes := #[] }
def k2m0 : Method := { name := "<init>", desc := "()V", sig := { parameters := [], returnType := none }, accessFlags := 0, code := some k2c0 }
def k2c1 : Code := { maxStack := 3, maxLocals := 12, code := prog_11_method_3_code, exceptionTable := #[], attributes := #[] }
def k2m1 : Method := { name := "set", desc := "(ZJJIJJI)V", sig := { parameters := [.boolean, .long, .long, .int, .long, .long, .int], returnType := none }, accessFlags := 0, code := some k2c1 }
def k2c2 : Code := { maxStack := 4, maxLocals := 3, code := prog_11_method_6_code, exceptionTable := #[], attributes := #[] }
def k2m2 : Method := { name := "equals", desc := "(Ljava/lang/Object;)Z", sig := { parameters := [(.object "java/lang/Object")], returnType := some .boolean }, accessFlags := 1, code := some k2c2 }
/-- com/example/tracewell/tracewell/capture/Flow -/
def k2 : Class := { plain "com/example/tracewell/tracewell/capture/Flow" (some 0) with
  accessFlags := 48
  interfaces := #[]
  cf := some (fileOf pool2 8 #[] #[{ accessFlags := 0, nameIndex := 5, descriptorIndex := 6, attributes := #[] }, { accessFlags := 0, nameIndex := 11, descriptorIndex := 12, attributes := #[] }, { accessFlags := 1, nameIndex := 50, descriptorIndex := 51, attributes := #[] }] 48 2 #[] #[{ accessFlags := 2, nameIndex := 15, descriptorIndex := 16, attributes := #[] }, { accessFlags := 2, nameIndex := 19, descriptorIndex := 20, attributes := #[] }, { accessFlags := 2, nameIndex := 23, descriptorIndex := 20, attributes := #[] }, { accessFlags := 2, nameIndex := 26, descriptorIndex := 27, attributes := #[] }, { accessFlags := 2, nameIndex := 30, descriptorIndex := 20, attributes := #[] }, { accessFlags := 2, nameIndex := 33, descriptorIndex := 20, attributes := #[] }, { accessFlags := 2, nameIndex := 36, descriptorIndex := 27, attributes := #[] }])
  fields := #[{ name := "ipv6", type := .boolean, accessFlags := 2, slot := 0, constantValue := 0 }, { name := "sourceHigh", type := .long, accessFlags := 2, slot := 1, constantValue := 0 }, { name := "sourceLow", type := .long, accessFlags := 2, slot := 2, constantValue := 0 }, { name := "sourcePort", type := .int, accessFlags := 2, slot := 3, constantValue := 0 }, { name := "destinationHigh", type := .long, accessFlags := 2, slot := 4, constantValue := 0 }, { name := "destinationLow", type := .long, accessFlags := 2, slot := 5, constantValue := 0 }, { name := "destinationPort", type := .int, accessFlags := 2, slot := 6, constantValue := 0 }]
  methods := #[k2m0, k2m1, k2m2]
  instanceTypes := #[.boolean, .long, .long, .int, .long, .long, .int]
  staticTypes := #[]
  resolved := Array.replicate 56 none
  statics := none }

def pool3 : Array CpInfo := pool [(1, .class_ 2), (0, u "java/io/Serializable"), (0, .class_ 4), (0, u "java/lang/Object")] 2

/-- java/io/Serializable -/
def k3 : Class := { plain "java/io/Serializable" (some 0) with
  accessFlags := 1537
  interfaces := #[]
  cf := some (fileOf pool3 1 #[] #[] 1537 3 #[] #[])
  fields := #[]
  methods := #[]
  instanceTypes := #[]
  staticTypes := #[]
  resolved := Array.replicate 7 none
  statics := none }

def pool4 : Array CpInfo := pool [(1, .methodref 2 3), (0, .class_ 4), (0, .nameAndType 5 6), (0, u "java/lang/Object"), (0, u "<init>"), (0, u "()V"), (1, .class_ 10), (1, u "java/lang/Number"), (2, .class_ 14), (0, u "java/io/Serializable"), (0, u "serialVersionUID"), (0, u "J")] 20

def k4c0 : Code := { maxStack := 1, maxLocals := 1, code := jdk_18_method_1_code, exceptionTable := #[], attributes := #[] }
def k4m0 : Method := { name := "<init>", desc := "()V", sig := { parameters := [], returnType := none }, accessFlags := 1, code := some k4c0 }
/-- java/lang/Number -/
def k4 : Class := { plain "java/lang/Number" (some 0) with
  accessFlags := 1057
  interfaces := #[3]
  cf := some (fileOf pool4 8 #[] #[{ accessFlags := 1, nameIndex := 5, descriptorIndex := 6, attributes := #[] }] 1057 2 #[13] #[{ accessFlags := 26, nameIndex := 15, descriptorIndex := 16, attributes := #[] }])
  fields := #[{ name := "serialVersionUID", type := .long, accessFlags := 26, slot := 0, constantValue := 0 }]
  methods := #[k4m0]
  instanceTypes := #[]
  staticTypes := #[.long]
  resolved := Array.replicate 37 none
  statics := none }

def pool5 : Array CpInfo := pool [(1, .class_ 2), (0, u "java/lang/Comparable"), (0, .class_ 4), (0, u "java/lang/Object")] 7

/-- java/lang/Comparable -/
def k5 : Class := { plain "java/lang/Comparable" (some 0) with
  accessFlags := 1537
  interfaces := #[]
  cf := some (fileOf pool5 1 #[] #[] 1537 3 #[] #[])
  fields := #[]
  methods := #[]
  instanceTypes := #[]
  staticTypes := #[]
  resolved := Array.replicate 12 none
  statics := none }

def pool6 : Array CpInfo := pool [(1, .class_ 2), (0, u "java/lang/constant/Constable"), (0, .class_ 4), (0, u "java/lang/Object")] 6

/-- java/lang/constant/Constable -/
def k6 : Class := { plain "java/lang/constant/Constable" (some 0) with
  accessFlags := 1537
  interfaces := #[]
  cf := some (fileOf pool6 1 #[] #[] 1537 3 #[] #[])
  fields := #[]
  methods := #[]
  instanceTypes := #[]
  staticTypes := #[]
  resolved := Array.replicate 11 none
  statics := none }

def pool7 : Array CpInfo := pool [(1, .class_ 2), (0, u "java/lang/constant/ConstantDesc"), (0, .class_ 4), (0, u "java/lang/Object")] 32

/-- java/lang/constant/ConstantDesc -/
def k7 : Class := { plain "java/lang/constant/ConstantDesc" (some 0) with
  accessFlags := 1537
  interfaces := #[]
  cf := some (fileOf pool7 1 #[] #[] 1537 3 #[] #[])
  fields := #[]
  methods := #[]
  instanceTypes := #[]
  staticTypes := #[]
  resolved := Array.replicate 37 none
  statics := none }

def pool8 : Array CpInfo := pool [(1, .class_ 2), (0, u "java/lang/Long"), (55, .nameAndType 59 60), (0, u "<init>"), (0, u "()V"), (24, u "valueOf"), (143, u "(J)Ljava/lang/Long;"), (0, .long 18446744073709551488), (1, .long 127), (1, .fieldref 235 236), (0, .class_ 237), (0, .nameAndType 238 239), (0, u "java/lang/Long$LongCache"), (0, u "cache"), (0, u "[Ljava/lang/Long;"), (0, .methodref 1 241), (0, .nameAndType 59 242), (0, u "(J)V"), (27, .methodref 271 58), (0, .class_ 272), (0, u "java/lang/Number"), (0, .fieldref 1 274), (0, .nameAndType 275 276), (0, u "value"), (0, u "J"), (84, u "TYPE"), (0, u "Ljava/lang/Class;"), (0, .class_ 364), (0, u "java/lang/Comparable"), (0, .class_ 366), (0, u "java/lang/constant/Constable"), (0, .class_ 368), (0, u "java/lang/constant/ConstantDesc"), (0, u "MIN_VALUE"), (1, u "MAX_VALUE"), (4, u "SIZE"), (0, u "I"), (1, u "BYTES"), (1, u "serialVersionUID")] 142

def k8c0 : Code := { maxStack := 4, maxLocals := 3, code := jdk_35_method_24_code, exceptionTable := #[], attributes := #[] }
def k8m0 : Method := { name := "valueOf", desc := "(J)Ljava/lang/Long;", sig := { parameters := [.long], returnType := some (.object "java/lang/Long") }, accessFlags := 9, code := some k8c0 }
def k8c1 : Code := { maxStack := 3, maxLocals := 3, code := jdk_35_method_26_code, exceptionTable := #[], attributes := #[] }
def k8m1 : Method := { name := "<init>", desc := "(J)V", sig := { parameters := [.long], returnType := none }, accessFlags := 1, code := some k8c1 }
/-- java/lang/Long -/
def k8 : Class := { plain "java/lang/Long" (some 4) with
  accessFlags := 49
  interfaces := #[5, 6, 7]
  cf := some (fileOf pool8 1 #[.nestMembers #[235]] #[{ accessFlags := 9, nameIndex := 85, descriptorIndex := 229, attributes := #[] }, { accessFlags := 1, nameIndex := 59, descriptorIndex := 242, attributes := #[] }] 49 271 #[363, 365, 367] #[{ accessFlags := 25, nameIndex := 369, descriptorIndex := 276, attributes := #[] }, { accessFlags := 25, nameIndex := 371, descriptorIndex := 276, attributes := #[] }, { accessFlags := 25, nameIndex := 361, descriptorIndex := 362, attributes := #[] }, { accessFlags := 18, nameIndex := 275, descriptorIndex := 276, attributes := #[] }, { accessFlags := 25, nameIndex := 376, descriptorIndex := 377, attributes := #[] }, { accessFlags := 25, nameIndex := 379, descriptorIndex := 377, attributes := #[] }, { accessFlags := 26, nameIndex := 381, descriptorIndex := 276, attributes := #[] }])
  fields := #[{ name := "MIN_VALUE", type := .long, accessFlags := 25, slot := 0, constantValue := 0 }, { name := "MAX_VALUE", type := .long, accessFlags := 25, slot := 1, constantValue := 0 }, { name := "TYPE", type := (.object "java/lang/Class"), accessFlags := 25, slot := 2, constantValue := 0 }, { name := "value", type := .long, accessFlags := 18, slot := 0, constantValue := 0 }, { name := "SIZE", type := .int, accessFlags := 25, slot := 3, constantValue := 0 }, { name := "BYTES", type := .int, accessFlags := 25, slot := 4, constantValue := 0 }, { name := "serialVersionUID", type := .long, accessFlags := 26, slot := 5, constantValue := 0 }]
  methods := #[k8m0, k8m1]
  instanceTypes := #[.long]
  staticTypes := #[.long, .long, (.object "java/lang/Class"), .int, .int, .long]
  resolved := Array.replicate 524 none
  statics := none }

def pool9 : Array CpInfo := pool [(2, .class_ 4), (1, u "java/lang/Object"), (0, u "<init>"), (0, u "()V"), (0, .class_ 8), (0, u "java/lang/Long"), (7, .class_ 18), (1, u "java/lang/Long$LongCache"), (0, u "$assertionsDisabled"), (0, u "Z"), (8, u "archivedCache"), (0, u "[Ljava/lang/Long;"), (7, u "cache")] 24

def k9m0 : Method := { name := "<init>", desc := "()V", sig := { parameters := [], returnType := none }, accessFlags := 2, code := none }
/-- java/lang/Long$LongCache -/
def k9 : Class := { plain "java/lang/Long$LongCache" (some 0) with
  accessFlags := 48
  interfaces := #[]
  cf := some (fileOf pool9 16 #[.nestHost 7] #[{ accessFlags := 2, nameIndex := 5, descriptorIndex := 6, attributes := #[] }] 48 2 #[] #[{ accessFlags := 24, nameIndex := 38, descriptorIndex := 30, attributes := #[] }, { accessFlags := 8, nameIndex := 29, descriptorIndex := 30, attributes := #[] }, { accessFlags := 4120, nameIndex := 19, descriptorIndex := 20, attributes := #[] }])
  fields := #[{ name := "cache", type := (.array (.object "java/lang/Long")), accessFlags := 24, slot := 0, constantValue := 0 }, { name := "archivedCache", type := (.array (.object "java/lang/Long")), accessFlags := 8, slot := 1, constantValue := 0 }, { name := "$assertionsDisabled", type := .boolean, accessFlags := 4120, slot := 2, constantValue := 0 }]
  methods := #[k9m0]
  instanceTypes := #[]
  staticTypes := #[(.array (.object "java/lang/Long")), (.array (.object "java/lang/Long")), .boolean]
  resolved := Array.replicate 63 none
  statics := some 0 }

def pool10 : Array CpInfo := pool [(1, u "java/lang/Cloneable"), (0, .class_ 1), (0, u "java/lang/Object"), (0, .class_ 3)] 3

/-- java/lang/Cloneable -/
def k10 : Class := { plain "java/lang/Cloneable" (some 0) with
  accessFlags := 1537
  interfaces := #[]
  cf := some (fileOf pool10 2 #[] #[] 1537 4 #[] #[])
  fields := #[]
  methods := #[]
  instanceTypes := #[]
  staticTypes := #[]
  resolved := Array.replicate 8 none
  statics := none }

/-- the primitive byte -/
def k11 : Class := { plain "byte" none with kind := .primitive 'B', accessFlags := 0x411 }
/-- [B -/
def k12 : Class := { plain "[B" (some 0) with kind := .array 11 .byte, interfaces := #[10, 3], accessFlags := 1041 }

/-- the primitive int -/
def k13 : Class := { plain "int" none with kind := .primitive 'I', accessFlags := 0x411 }
/-- [I -/
def k14 : Class := { plain "[I" (some 0) with kind := .array 13 .int, interfaces := #[10, 3], accessFlags := 1041 }

/-- [Ljava/lang/Long; -/
def k15 : Class := { plain "[Ljava/lang/Long;" (some 0) with kind := .array 8 (.object "java/lang/Long"), interfaces := #[10, 3], accessFlags := 1041 }

def heap : Heap := #[{ cls := 9, slots := #[.ref 1, .null, .int 0], vm := .statics 9 },
  { cls := 15, slots := #[.ref 2, .ref 3, .ref 4, .ref 5, .ref 6, .ref 7, .ref 8, .ref 9, .ref 10, .ref 11, .ref 12, .ref 13, .ref 14, .ref 15, .ref 16, .ref 17, .ref 18, .ref 19, .ref 20, .ref 21, .ref 22, .ref 23, .ref 24, .ref 25, .ref 26, .ref 27, .ref 28, .ref 29, .ref 30, .ref 31, .ref 32, .ref 33, .ref 34, .ref 35, .ref 36, .ref 37, .ref 38, .ref 39, .ref 40, .ref 41, .ref 42, .ref 43, .ref 44, .ref 45, .ref 46, .ref 47, .ref 48, .ref 49, .ref 50, .ref 51, .ref 52, .ref 53, .ref 54, .ref 55, .ref 56, .ref 57, .ref 58, .ref 59, .ref 60, .ref 61, .ref 62, .ref 63, .ref 64, .ref 65, .ref 66, .ref 67, .ref 68, .ref 69, .ref 70, .ref 71, .ref 72, .ref 73, .ref 74, .ref 75, .ref 76, .ref 77, .ref 78, .ref 79, .ref 80, .ref 81, .ref 82, .ref 83, .ref 84, .ref 85, .ref 86, .ref 87, .ref 88, .ref 89, .ref 90, .ref 91, .ref 92, .ref 93, .ref 94, .ref 95, .ref 96, .ref 97, .ref 98, .ref 99, .ref 100, .ref 101, .ref 102, .ref 103, .ref 104, .ref 105, .ref 106, .ref 107, .ref 108, .ref 109, .ref 110, .ref 111, .ref 112, .ref 113, .ref 114, .ref 115, .ref 116, .ref 117, .ref 118, .ref 119, .ref 120, .ref 121, .ref 122, .ref 123, .ref 124, .ref 125, .ref 126, .ref 127, .ref 128, .ref 129, .ref 130, .ref 131, .ref 132, .ref 133, .ref 134, .ref 135, .ref 136, .ref 137, .ref 138, .ref 139, .ref 140, .ref 141, .ref 142, .ref 143, .ref 144, .ref 145, .ref 146, .ref 147, .ref 148, .ref 149, .ref 150, .ref 151, .ref 152, .ref 153, .ref 154, .ref 155, .ref 156, .ref 157, .ref 158, .ref 159, .ref 160, .ref 161, .ref 162, .ref 163, .ref 164, .ref 165, .ref 166, .ref 167, .ref 168, .ref 169, .ref 170, .ref 171, .ref 172, .ref 173, .ref 174, .ref 175, .ref 176, .ref 177, .ref 178, .ref 179, .ref 180, .ref 181, .ref 182, .ref 183, .ref 184, .ref 185, .ref 186, .ref 187, .ref 188, .ref 189, .ref 190, .ref 191, .ref 192, .ref 193, .ref 194, .ref 195, .ref 196, .ref 197, .ref 198, .ref 199, .ref 200, .ref 201, .ref 202, .ref 203, .ref 204, .ref 205, .ref 206, .ref 207, .ref 208, .ref 209, .ref 210, .ref 211, .ref 212, .ref 213, .ref 214, .ref 215, .ref 216, .ref 217, .ref 218, .ref 219, .ref 220, .ref 221, .ref 222, .ref 223, .ref 224, .ref 225, .ref 226, .ref 227, .ref 228, .ref 229, .ref 230, .ref 231, .ref 232, .ref 233, .ref 234, .ref 235, .ref 236, .ref 237, .ref 238, .ref 239, .ref 240, .ref 241, .ref 242, .ref 243, .ref 244, .ref 245, .ref 246, .ref 247, .ref 248, .ref 249, .ref 250, .ref 251, .ref 252, .ref 253, .ref 254, .ref 255, .ref 256, .ref 257], vm := .none },
  { cls := 8, slots := #[.long (-128)], vm := .none },
  { cls := 8, slots := #[.long (-127)], vm := .none },
  { cls := 8, slots := #[.long (-126)], vm := .none },
  { cls := 8, slots := #[.long (-125)], vm := .none },
  { cls := 8, slots := #[.long (-124)], vm := .none },
  { cls := 8, slots := #[.long (-123)], vm := .none },
  { cls := 8, slots := #[.long (-122)], vm := .none },
  { cls := 8, slots := #[.long (-121)], vm := .none },
  { cls := 8, slots := #[.long (-120)], vm := .none },
  { cls := 8, slots := #[.long (-119)], vm := .none },
  { cls := 8, slots := #[.long (-118)], vm := .none },
  { cls := 8, slots := #[.long (-117)], vm := .none },
  { cls := 8, slots := #[.long (-116)], vm := .none },
  { cls := 8, slots := #[.long (-115)], vm := .none },
  { cls := 8, slots := #[.long (-114)], vm := .none },
  { cls := 8, slots := #[.long (-113)], vm := .none },
  { cls := 8, slots := #[.long (-112)], vm := .none },
  { cls := 8, slots := #[.long (-111)], vm := .none },
  { cls := 8, slots := #[.long (-110)], vm := .none },
  { cls := 8, slots := #[.long (-109)], vm := .none },
  { cls := 8, slots := #[.long (-108)], vm := .none },
  { cls := 8, slots := #[.long (-107)], vm := .none },
  { cls := 8, slots := #[.long (-106)], vm := .none },
  { cls := 8, slots := #[.long (-105)], vm := .none },
  { cls := 8, slots := #[.long (-104)], vm := .none },
  { cls := 8, slots := #[.long (-103)], vm := .none },
  { cls := 8, slots := #[.long (-102)], vm := .none },
  { cls := 8, slots := #[.long (-101)], vm := .none },
  { cls := 8, slots := #[.long (-100)], vm := .none },
  { cls := 8, slots := #[.long (-99)], vm := .none },
  { cls := 8, slots := #[.long (-98)], vm := .none },
  { cls := 8, slots := #[.long (-97)], vm := .none },
  { cls := 8, slots := #[.long (-96)], vm := .none },
  { cls := 8, slots := #[.long (-95)], vm := .none },
  { cls := 8, slots := #[.long (-94)], vm := .none },
  { cls := 8, slots := #[.long (-93)], vm := .none },
  { cls := 8, slots := #[.long (-92)], vm := .none },
  { cls := 8, slots := #[.long (-91)], vm := .none },
  { cls := 8, slots := #[.long (-90)], vm := .none },
  { cls := 8, slots := #[.long (-89)], vm := .none },
  { cls := 8, slots := #[.long (-88)], vm := .none },
  { cls := 8, slots := #[.long (-87)], vm := .none },
  { cls := 8, slots := #[.long (-86)], vm := .none },
  { cls := 8, slots := #[.long (-85)], vm := .none },
  { cls := 8, slots := #[.long (-84)], vm := .none },
  { cls := 8, slots := #[.long (-83)], vm := .none },
  { cls := 8, slots := #[.long (-82)], vm := .none },
  { cls := 8, slots := #[.long (-81)], vm := .none },
  { cls := 8, slots := #[.long (-80)], vm := .none },
  { cls := 8, slots := #[.long (-79)], vm := .none },
  { cls := 8, slots := #[.long (-78)], vm := .none },
  { cls := 8, slots := #[.long (-77)], vm := .none },
  { cls := 8, slots := #[.long (-76)], vm := .none },
  { cls := 8, slots := #[.long (-75)], vm := .none },
  { cls := 8, slots := #[.long (-74)], vm := .none },
  { cls := 8, slots := #[.long (-73)], vm := .none },
  { cls := 8, slots := #[.long (-72)], vm := .none },
  { cls := 8, slots := #[.long (-71)], vm := .none },
  { cls := 8, slots := #[.long (-70)], vm := .none },
  { cls := 8, slots := #[.long (-69)], vm := .none },
  { cls := 8, slots := #[.long (-68)], vm := .none },
  { cls := 8, slots := #[.long (-67)], vm := .none },
  { cls := 8, slots := #[.long (-66)], vm := .none },
  { cls := 8, slots := #[.long (-65)], vm := .none },
  { cls := 8, slots := #[.long (-64)], vm := .none },
  { cls := 8, slots := #[.long (-63)], vm := .none },
  { cls := 8, slots := #[.long (-62)], vm := .none },
  { cls := 8, slots := #[.long (-61)], vm := .none },
  { cls := 8, slots := #[.long (-60)], vm := .none },
  { cls := 8, slots := #[.long (-59)], vm := .none },
  { cls := 8, slots := #[.long (-58)], vm := .none },
  { cls := 8, slots := #[.long (-57)], vm := .none },
  { cls := 8, slots := #[.long (-56)], vm := .none },
  { cls := 8, slots := #[.long (-55)], vm := .none },
  { cls := 8, slots := #[.long (-54)], vm := .none },
  { cls := 8, slots := #[.long (-53)], vm := .none },
  { cls := 8, slots := #[.long (-52)], vm := .none },
  { cls := 8, slots := #[.long (-51)], vm := .none },
  { cls := 8, slots := #[.long (-50)], vm := .none },
  { cls := 8, slots := #[.long (-49)], vm := .none },
  { cls := 8, slots := #[.long (-48)], vm := .none },
  { cls := 8, slots := #[.long (-47)], vm := .none },
  { cls := 8, slots := #[.long (-46)], vm := .none },
  { cls := 8, slots := #[.long (-45)], vm := .none },
  { cls := 8, slots := #[.long (-44)], vm := .none },
  { cls := 8, slots := #[.long (-43)], vm := .none },
  { cls := 8, slots := #[.long (-42)], vm := .none },
  { cls := 8, slots := #[.long (-41)], vm := .none },
  { cls := 8, slots := #[.long (-40)], vm := .none },
  { cls := 8, slots := #[.long (-39)], vm := .none },
  { cls := 8, slots := #[.long (-38)], vm := .none },
  { cls := 8, slots := #[.long (-37)], vm := .none },
  { cls := 8, slots := #[.long (-36)], vm := .none },
  { cls := 8, slots := #[.long (-35)], vm := .none },
  { cls := 8, slots := #[.long (-34)], vm := .none },
  { cls := 8, slots := #[.long (-33)], vm := .none },
  { cls := 8, slots := #[.long (-32)], vm := .none },
  { cls := 8, slots := #[.long (-31)], vm := .none },
  { cls := 8, slots := #[.long (-30)], vm := .none },
  { cls := 8, slots := #[.long (-29)], vm := .none },
  { cls := 8, slots := #[.long (-28)], vm := .none },
  { cls := 8, slots := #[.long (-27)], vm := .none },
  { cls := 8, slots := #[.long (-26)], vm := .none },
  { cls := 8, slots := #[.long (-25)], vm := .none },
  { cls := 8, slots := #[.long (-24)], vm := .none },
  { cls := 8, slots := #[.long (-23)], vm := .none },
  { cls := 8, slots := #[.long (-22)], vm := .none },
  { cls := 8, slots := #[.long (-21)], vm := .none },
  { cls := 8, slots := #[.long (-20)], vm := .none },
  { cls := 8, slots := #[.long (-19)], vm := .none },
  { cls := 8, slots := #[.long (-18)], vm := .none },
  { cls := 8, slots := #[.long (-17)], vm := .none },
  { cls := 8, slots := #[.long (-16)], vm := .none },
  { cls := 8, slots := #[.long (-15)], vm := .none },
  { cls := 8, slots := #[.long (-14)], vm := .none },
  { cls := 8, slots := #[.long (-13)], vm := .none },
  { cls := 8, slots := #[.long (-12)], vm := .none },
  { cls := 8, slots := #[.long (-11)], vm := .none },
  { cls := 8, slots := #[.long (-10)], vm := .none },
  { cls := 8, slots := #[.long (-9)], vm := .none },
  { cls := 8, slots := #[.long (-8)], vm := .none },
  { cls := 8, slots := #[.long (-7)], vm := .none },
  { cls := 8, slots := #[.long (-6)], vm := .none },
  { cls := 8, slots := #[.long (-5)], vm := .none },
  { cls := 8, slots := #[.long (-4)], vm := .none },
  { cls := 8, slots := #[.long (-3)], vm := .none },
  { cls := 8, slots := #[.long (-2)], vm := .none },
  { cls := 8, slots := #[.long (-1)], vm := .none },
  { cls := 8, slots := #[.long (0)], vm := .none },
  { cls := 8, slots := #[.long (1)], vm := .none },
  { cls := 8, slots := #[.long (2)], vm := .none },
  { cls := 8, slots := #[.long (3)], vm := .none },
  { cls := 8, slots := #[.long (4)], vm := .none },
  { cls := 8, slots := #[.long (5)], vm := .none },
  { cls := 8, slots := #[.long (6)], vm := .none },
  { cls := 8, slots := #[.long (7)], vm := .none },
  { cls := 8, slots := #[.long (8)], vm := .none },
  { cls := 8, slots := #[.long (9)], vm := .none },
  { cls := 8, slots := #[.long (10)], vm := .none },
  { cls := 8, slots := #[.long (11)], vm := .none },
  { cls := 8, slots := #[.long (12)], vm := .none },
  { cls := 8, slots := #[.long (13)], vm := .none },
  { cls := 8, slots := #[.long (14)], vm := .none },
  { cls := 8, slots := #[.long (15)], vm := .none },
  { cls := 8, slots := #[.long (16)], vm := .none },
  { cls := 8, slots := #[.long (17)], vm := .none },
  { cls := 8, slots := #[.long (18)], vm := .none },
  { cls := 8, slots := #[.long (19)], vm := .none },
  { cls := 8, slots := #[.long (20)], vm := .none },
  { cls := 8, slots := #[.long (21)], vm := .none },
  { cls := 8, slots := #[.long (22)], vm := .none },
  { cls := 8, slots := #[.long (23)], vm := .none },
  { cls := 8, slots := #[.long (24)], vm := .none },
  { cls := 8, slots := #[.long (25)], vm := .none },
  { cls := 8, slots := #[.long (26)], vm := .none },
  { cls := 8, slots := #[.long (27)], vm := .none },
  { cls := 8, slots := #[.long (28)], vm := .none },
  { cls := 8, slots := #[.long (29)], vm := .none },
  { cls := 8, slots := #[.long (30)], vm := .none },
  { cls := 8, slots := #[.long (31)], vm := .none },
  { cls := 8, slots := #[.long (32)], vm := .none },
  { cls := 8, slots := #[.long (33)], vm := .none },
  { cls := 8, slots := #[.long (34)], vm := .none },
  { cls := 8, slots := #[.long (35)], vm := .none },
  { cls := 8, slots := #[.long (36)], vm := .none },
  { cls := 8, slots := #[.long (37)], vm := .none },
  { cls := 8, slots := #[.long (38)], vm := .none },
  { cls := 8, slots := #[.long (39)], vm := .none },
  { cls := 8, slots := #[.long (40)], vm := .none },
  { cls := 8, slots := #[.long (41)], vm := .none },
  { cls := 8, slots := #[.long (42)], vm := .none },
  { cls := 8, slots := #[.long (43)], vm := .none },
  { cls := 8, slots := #[.long (44)], vm := .none },
  { cls := 8, slots := #[.long (45)], vm := .none },
  { cls := 8, slots := #[.long (46)], vm := .none },
  { cls := 8, slots := #[.long (47)], vm := .none },
  { cls := 8, slots := #[.long (48)], vm := .none },
  { cls := 8, slots := #[.long (49)], vm := .none },
  { cls := 8, slots := #[.long (50)], vm := .none },
  { cls := 8, slots := #[.long (51)], vm := .none },
  { cls := 8, slots := #[.long (52)], vm := .none },
  { cls := 8, slots := #[.long (53)], vm := .none },
  { cls := 8, slots := #[.long (54)], vm := .none },
  { cls := 8, slots := #[.long (55)], vm := .none },
  { cls := 8, slots := #[.long (56)], vm := .none },
  { cls := 8, slots := #[.long (57)], vm := .none },
  { cls := 8, slots := #[.long (58)], vm := .none },
  { cls := 8, slots := #[.long (59)], vm := .none },
  { cls := 8, slots := #[.long (60)], vm := .none },
  { cls := 8, slots := #[.long (61)], vm := .none },
  { cls := 8, slots := #[.long (62)], vm := .none },
  { cls := 8, slots := #[.long (63)], vm := .none },
  { cls := 8, slots := #[.long (64)], vm := .none },
  { cls := 8, slots := #[.long (65)], vm := .none },
  { cls := 8, slots := #[.long (66)], vm := .none },
  { cls := 8, slots := #[.long (67)], vm := .none },
  { cls := 8, slots := #[.long (68)], vm := .none },
  { cls := 8, slots := #[.long (69)], vm := .none },
  { cls := 8, slots := #[.long (70)], vm := .none },
  { cls := 8, slots := #[.long (71)], vm := .none },
  { cls := 8, slots := #[.long (72)], vm := .none },
  { cls := 8, slots := #[.long (73)], vm := .none },
  { cls := 8, slots := #[.long (74)], vm := .none },
  { cls := 8, slots := #[.long (75)], vm := .none },
  { cls := 8, slots := #[.long (76)], vm := .none },
  { cls := 8, slots := #[.long (77)], vm := .none },
  { cls := 8, slots := #[.long (78)], vm := .none },
  { cls := 8, slots := #[.long (79)], vm := .none },
  { cls := 8, slots := #[.long (80)], vm := .none },
  { cls := 8, slots := #[.long (81)], vm := .none },
  { cls := 8, slots := #[.long (82)], vm := .none },
  { cls := 8, slots := #[.long (83)], vm := .none },
  { cls := 8, slots := #[.long (84)], vm := .none },
  { cls := 8, slots := #[.long (85)], vm := .none },
  { cls := 8, slots := #[.long (86)], vm := .none },
  { cls := 8, slots := #[.long (87)], vm := .none },
  { cls := 8, slots := #[.long (88)], vm := .none },
  { cls := 8, slots := #[.long (89)], vm := .none },
  { cls := 8, slots := #[.long (90)], vm := .none },
  { cls := 8, slots := #[.long (91)], vm := .none },
  { cls := 8, slots := #[.long (92)], vm := .none },
  { cls := 8, slots := #[.long (93)], vm := .none },
  { cls := 8, slots := #[.long (94)], vm := .none },
  { cls := 8, slots := #[.long (95)], vm := .none },
  { cls := 8, slots := #[.long (96)], vm := .none },
  { cls := 8, slots := #[.long (97)], vm := .none },
  { cls := 8, slots := #[.long (98)], vm := .none },
  { cls := 8, slots := #[.long (99)], vm := .none },
  { cls := 8, slots := #[.long (100)], vm := .none },
  { cls := 8, slots := #[.long (101)], vm := .none },
  { cls := 8, slots := #[.long (102)], vm := .none },
  { cls := 8, slots := #[.long (103)], vm := .none },
  { cls := 8, slots := #[.long (104)], vm := .none },
  { cls := 8, slots := #[.long (105)], vm := .none },
  { cls := 8, slots := #[.long (106)], vm := .none },
  { cls := 8, slots := #[.long (107)], vm := .none },
  { cls := 8, slots := #[.long (108)], vm := .none },
  { cls := 8, slots := #[.long (109)], vm := .none },
  { cls := 8, slots := #[.long (110)], vm := .none },
  { cls := 8, slots := #[.long (111)], vm := .none },
  { cls := 8, slots := #[.long (112)], vm := .none },
  { cls := 8, slots := #[.long (113)], vm := .none },
  { cls := 8, slots := #[.long (114)], vm := .none },
  { cls := 8, slots := #[.long (115)], vm := .none },
  { cls := 8, slots := #[.long (116)], vm := .none },
  { cls := 8, slots := #[.long (117)], vm := .none },
  { cls := 8, slots := #[.long (118)], vm := .none },
  { cls := 8, slots := #[.long (119)], vm := .none },
  { cls := 8, slots := #[.long (120)], vm := .none },
  { cls := 8, slots := #[.long (121)], vm := .none },
  { cls := 8, slots := #[.long (122)], vm := .none },
  { cls := 8, slots := #[.long (123)], vm := .none },
  { cls := 8, slots := #[.long (124)], vm := .none },
  { cls := 8, slots := #[.long (125)], vm := .none },
  { cls := 8, slots := #[.long (126)], vm := .none },
  { cls := 8, slots := #[.long (127)], vm := .none }]
def classes : Array Class := #[k0, k1, k2, k3, k4, k5, k6, k7, k8, k9, k10, k11, k12, k13, k14, k15]
def interned : List (Array UInt16 × Addr) := []
def slotsUsed : Nat := 515
def theMethod : MethodId := ⟨1, 3⟩
def args0 : Array Value := #[.long 5, .long 6, .int 7, .int 8, .int 9, .int 10]
def aboutOver (below : List Frame) : State where
  vm := { classes := classes, interned := interned.toArray }
  heap := heap
  slotsUsed := slotsUsed
  threads := #[{ frames := .invoking theMethod args0 :: below }]
def below0 : List Frame := [.native { method := ⟨0, 0⟩, args := #[] }]
def about1 : State := aboutOver below0
def p0 : Program := .bare "" "" ""
def e0 : Env := launch0.env 0 0 0
theorem w_frames : about1.frames = Frame.invoking theMethod args0 :: below0 := rfl
set_option maxRecDepth 65536 in
theorem w_args : argsFit about1.vm theMethod args0 = true := by decide +kernel
set_option maxRecDepth 65536 in
theorem w_heap : heapFits about1 = true := by decide +kernel
set_option maxRecDepth 65536 in
theorem w_runnable : about1.curStatus? = some .runnable := by decide +kernel
set_option maxRecDepth 65536 in
theorem w_alone : about1.alone = true := by decide +kernel
set_option maxRecDepth 65536 in
theorem w_named : about1.methodNamed? x = some theMethod := by decide +kernel
set_option maxRecDepth 65536 in
theorem w_hears : about1.hears theMethod below0 = true := by decide +kernel
set_option maxRecDepth 65536 in
theorem w_ripe : about1.ripe theMethod args0 below0 = true := by decide +kernel
theorem w_running : about1.status = .running := rfl
set_option maxRecDepth 65536 in
theorem w_room : about1.hasRoom e0.platform room_1 = true :=
  launch0.hasRoom_least _ room_1 (by decide +kernel) (by decide +kernel) (by decide +kernel) (by decide +kernel) (by decide +kernel) (by decide +kernel)
theorem allAtoms_all (ts : List Jvm.Cond) (a : Array Jvm.Value) (st : Jvm.State) : (allAtoms ts).before a st = ts.all (fun c => c.before a st) := by
  induction ts with
  | nil => rfl
  | cons c t ih =>
    show (Jvm.Cond.and c (allAtoms t)).before a st = _
    rw [Jvm.Cond.before_and, ih, List.all_cons]
def words1 : List Jvm.Cond := Jvm.Cond.code x code maxLocals ret :: tables_1
/-- a 'code' word, met by the world's own term for the bytes: nothing is compared byte by byte -/
theorem code_word {y : MethodName} {bytes : ByteArray} {mx : Nat} {rt : Option FieldType} {a : Array Value} {s : State} {m : MethodId} {meth : Method} {c : Code} (h1 : s.methodNamed? y = some m) (h2 : s.vm.method? m = some meth) (h3 : meth.code = some c) (h4 : c.code = bytes)
    (h5 : (c.maxLocals == mx && c.exceptionTable.isEmpty && decide (c.maxStack ≤ mostOperands) && decide (meth.sig.returnType = rt) && !meth.locks && decide (parseMethodDescriptor y.desc = some meth.sig)) = true) : (Jvm.Cond.code y bytes mx rt).before a s = true := by
  simp only [Bool.and_eq_true, beq_iff_eq, Bool.not_eq_true', decide_eq_true_eq] at h5
  obtain ⟨⟨⟨⟨⟨g1, g2⟩, g3⟩, g4⟩, g5⟩, g6⟩ := h5
  simp [Cond.before, Cond.holds, Cond.value, h1, h2, h3, h4, g1, g2, g3, g4, g5, g6]
def isCode : Jvm.Cond → Bool
  | .code _ _ _ _ => true
  | _ => false
theorem all_split {L : List Jvm.Cond} {P : Jvm.Cond → Bool} (h1 : L.all (fun c => isCode c || P c) = true) (h2 : ∀ c ∈ L.filter isCode, P c = true) : L.all P = true := by
  refine List.all_eq_true.mpr fun c hc => ?_
  have h := List.all_eq_true.mp h1 c hc
  rcases Bool.eq_false_or_eq_true (isCode c) with hi | hi
  · exact h2 c (List.mem_filter.mpr ⟨hc, hi⟩)
  · simpa [hi] using h
set_option maxRecDepth 65536 in
theorem w_c0 : (Jvm.Cond.code x code maxLocals ret).before args0 about1 = true := code_word (m := ⟨1, 3⟩) (meth := k1m3) (c := k1c3) (by decide +kernel) rfl rfl rfl (by decide +kernel)
set_option maxRecDepth 65536 in
theorem w_c1 : (Jvm.Cond.code ({ cls := "com/example/tracewell/tracewell/capture/FlowEqualsPinLaw", name := "pickL", desc := "(IIJJ)J" } : Jvm.MethodName) method_2_code (6 : Nat) (Option.some Jvm.ClassFile.FieldType.long)).before args0 about1 = true := code_word (m := ⟨1, 1⟩) (meth := k1m1) (c := k1c1) (by decide +kernel) rfl rfl rfl (by decide +kernel)
set_option maxRecDepth 65536 in
theorem w_c2 : (Jvm.Cond.code ({ cls := "com/example/tracewell/tracewell/capture/FlowEqualsPinLaw", name := "pickI", desc := "(IIII)I" } : Jvm.MethodName) method_3_code (4 : Nat) (Option.some Jvm.ClassFile.FieldType.int)).before args0 about1 = true := code_word (m := ⟨1, 2⟩) (meth := k1m2) (c := k1c2) (by decide +kernel) rfl rfl rfl (by decide +kernel)
set_option maxRecDepth 65536 in
theorem w_c3 : (Jvm.Cond.code ({ cls := "com/example/tracewell/tracewell/capture/Flow", name := "<init>", desc := "()V" } : Jvm.MethodName) prog_11_method_1_code (1 : Nat) (Option.none : Option Jvm.ClassFile.FieldType)).before args0 about1 = true := code_word (m := ⟨2, 0⟩) (meth := k2m0) (c := k2c0) (by decide +kernel) rfl rfl rfl (by decide +kernel)
set_option maxRecDepth 65536 in
theorem w_c4 : (Jvm.Cond.code ({ cls := "java/lang/Object", name := "<init>", desc := "()V" } : Jvm.MethodName) object_method_1_code (1 : Nat) (Option.none : Option Jvm.ClassFile.FieldType)).before args0 about1 = true := code_word (m := ⟨0, 0⟩) (meth := k0m0) (c := k0c0) (by decide +kernel) rfl rfl rfl (by decide +kernel)
set_option maxRecDepth 65536 in
theorem w_c5 : (Jvm.Cond.code ({ cls := "com/example/tracewell/tracewell/capture/Flow", name := "set", desc := "(ZJJIJJI)V" } : Jvm.MethodName) prog_11_method_3_code (12 : Nat) (Option.none : Option Jvm.ClassFile.FieldType)).before args0 about1 = true := code_word (m := ⟨2, 1⟩) (meth := k2m1) (c := k2c1) (by decide +kernel) rfl rfl rfl (by decide +kernel)
set_option maxRecDepth 65536 in
theorem w_c6 : (Jvm.Cond.code ({ cls := "com/example/tracewell/tracewell/capture/Flow", name := "equals", desc := "(Ljava/lang/Object;)Z" } : Jvm.MethodName) prog_11_method_6_code (3 : Nat) (Option.some Jvm.ClassFile.FieldType.boolean)).before args0 about1 = true := code_word (m := ⟨2, 2⟩) (meth := k2m2) (c := k2c2) (by decide +kernel) rfl rfl rfl (by decide +kernel)
set_option maxRecDepth 65536 in
theorem w_c7 : (Jvm.Cond.code ({ cls := "java/lang/Long", name := "valueOf", desc := "(J)Ljava/lang/Long;" } : Jvm.MethodName) jdk_35_method_24_code (3 : Nat) (Option.some (Jvm.ClassFile.FieldType.object "java/lang/Long"))).before args0 about1 = true := code_word (m := ⟨8, 0⟩) (meth := k8m0) (c := k8c0) (by decide +kernel) rfl rfl rfl (by decide +kernel)
set_option maxRecDepth 65536 in
theorem w_c8 : (Jvm.Cond.code ({ cls := "java/lang/Long", name := "<init>", desc := "(J)V" } : Jvm.MethodName) jdk_35_method_26_code (3 : Nat) (Option.none : Option Jvm.ClassFile.FieldType)).before args0 about1 = true := code_word (m := ⟨8, 1⟩) (meth := k8m1) (c := k8c1) (by decide +kernel) rfl rfl rfl (by decide +kernel)
set_option maxRecDepth 65536 in
theorem w_c9 : (Jvm.Cond.code ({ cls := "java/lang/Number", name := "<init>", desc := "()V" } : Jvm.MethodName) jdk_18_method_1_code (1 : Nat) (Option.none : Option Jvm.ClassFile.FieldType)).before args0 about1 = true := code_word (m := ⟨4, 0⟩) (meth := k4m0) (c := k4c0) (by decide +kernel) rfl rfl rfl (by decide +kernel)
def codes1 : List Jvm.Cond := [Jvm.Cond.code x code maxLocals ret, Jvm.Cond.code ({ cls := "com/example/tracewell/tracewell/capture/FlowEqualsPinLaw", name := "pickL", desc := "(IIJJ)J" } : Jvm.MethodName) method_2_code (6 : Nat) (Option.some Jvm.ClassFile.FieldType.long), Jvm.Cond.code ({ cls := "com/example/tracewell/tracewell/capture/FlowEqualsPinLaw", name := "pickI", desc := "(IIII)I" } : Jvm.MethodName) method_3_code (4 : Nat) (Option.some Jvm.ClassFile.FieldType.int), Jvm.Cond.code ({ cls := "com/example/tracewell/tracewell/capture/Flow", name := "<init>", desc := "()V" } : Jvm.MethodName) prog_11_method_1_code (1 : Nat) (Option.none : Option Jvm.ClassFile.FieldType), Jvm.Cond.code ({ cls := "java/lang/Object", name := "<init>", desc := "()V" } : Jvm.MethodName) object_method_1_code (1 : Nat) (Option.none : Option Jvm.ClassFile.FieldType), Jvm.Cond.code ({ cls := "com/example/tracewell/tracewell/capture/Flow", name := "set", desc := "(ZJJIJJI)V" } : Jvm.MethodName) prog_11_method_3_code (12 : Nat) (Option.none : Option Jvm.ClassFile.FieldType), Jvm.Cond.code ({ cls := "com/example/tracewell/tracewell/capture/Flow", name := "equals", desc := "(Ljava/lang/Object;)Z" } : Jvm.MethodName) prog_11_method_6_code (3 : Nat) (Option.some Jvm.ClassFile.FieldType.boolean), Jvm.Cond.code ({ cls := "java/lang/Long", name := "valueOf", desc := "(J)Ljava/lang/Long;" } : Jvm.MethodName) jdk_35_method_24_code (3 : Nat) (Option.some (Jvm.ClassFile.FieldType.object "java/lang/Long")), Jvm.Cond.code ({ cls := "java/lang/Long", name := "<init>", desc := "(J)V" } : Jvm.MethodName) jdk_35_method_26_code (3 : Nat) (Option.none : Option Jvm.ClassFile.FieldType), Jvm.Cond.code ({ cls := "java/lang/Number", name := "<init>", desc := "()V" } : Jvm.MethodName) jdk_18_method_1_code (1 : Nat) (Option.none : Option Jvm.ClassFile.FieldType)]
set_option maxRecDepth 65536 in
theorem codes_eq : words1.filter isCode = codes1 := rfl
theorem w_codes : ∀ c ∈ words1.filter isCode, c.before args0 about1 = true := by
  rw [codes_eq]
  intro c hc
  simp only [codes1, List.mem_cons, List.not_mem_nil, or_false] at hc
  rcases hc with rfl | rfl | rfl | rfl | rfl | rfl | rfl | rfl | rfl | rfl
  · exact w_c0
  · exact w_c1
  · exact w_c2
  · exact w_c3
  · exact w_c4
  · exact w_c5
  · exact w_c6
  · exact w_c7
  · exact w_c8
  · exact w_c9
set_option maxRecDepth 65536 in
theorem w_t1 : (words1.take 24).all (fun c => isCode c || c.before args0 about1) = true := by decide +kernel
set_option maxRecDepth 65536 in
theorem w_t2 : ((words1.drop 24).take 24).all (fun c => isCode c || c.before args0 about1) = true := by decide +kernel
set_option maxRecDepth 65536 in
theorem w_t3 : ((words1.drop 24).drop 24).all (fun c => isCode c || c.before args0 about1) = true := by decide +kernel
theorem w_tables : (allAtoms (Jvm.Cond.code x code maxLocals ret :: tables_1)).before args0 about1 = true := by
  rw [allAtoms_all]
  show words1.all (fun c => c.before args0 about1) = true
  refine all_split ?_ w_codes
  rw [← List.take_append_drop 24 words1, List.all_append, w_t1, ← List.take_append_drop 24 (words1.drop 24), List.all_append, w_t2, w_t3]
  rfl
set_option maxRecDepth 65536 in
theorem w_rest : rest_1_c.before args0 about1 = true := by decide +kernel
set_option maxRecDepth 65536 in
theorem w_case : (Jvm.Cond.and given_1 narrow_1).before args0 about1 = true := by decide +kernel
theorem w_applies : (headSpec (Jvm.Cond.code x code maxLocals ret :: tables_1) room_1).applies x e0.platform about1 = true :=
  (Spec.applies_iff w_frames).mpr ⟨w_running, w_runnable, w_alone, w_named, w_hears, w_ripe, w_room, w_tables⟩
theorem atStart : AtStart classFile x code maxLocals ret World_1 tables_1 room_1 Calls_1 rest_1 Pre_1 launch0 p0 e0 about1 theMethod args0 below0 :=
  ⟨lists_1, trivial, launch0.admits_env _ _ _, launch0.least_env, fairChoices_fair.cas, fairChoices_fair.clock, w_frames, w_args, w_heap, w_applies, trivial, w_rest, w_case⟩
end start1
theorem witness_1 : WitnessClaimed_1 := ⟨start1.p0, start1.e0, start1.about1, start1.theMethod, start1.args0, start1.below0, start1.atStart⟩
end Jvm.Pilot.@@N@@
