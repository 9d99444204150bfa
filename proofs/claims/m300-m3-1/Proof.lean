import JvmDerived
import JvmDerived.Pilot.@@N@@Statement
import JvmDerived.Pilot.@@N@@Code
set_option linter.unusedVariables false
set_option linter.unusedSimpArgs false
@@BLOCK:NumsL.lean.txt@@
namespace Jvm.Pilot.@@N@@
open Jvm Jvm.ClassFile Sem Op Lib Jvm.Free Jvm.Stand Jvm.LawKit Jvm.RoadKit Bundle Jvm.Pilot.@@N@@.Jvm.D
def own_m (u0 : Int32) (u1 : Int32) : Int64 := if (((u0.toUInt32 >>> (u1 &&& 31).toUInt32).toInt32) &&& (1 : Int32)) = (0 : Int32) then (0 : Int64) else ((255 : Int64) <<< (((8 : Int32) * u1) &&& 0x3f).toInt64)
theorem d1_0 : decode method_2_code 0 = .ok (.iload_n 0, 1) := by decide +kernel
theorem d1_1 : decode method_2_code 1 = .ok (.iload_n 1, 1) := by decide +kernel
theorem d1_2 : decode method_2_code 2 = .ok (.iushr, 1) := by decide +kernel
theorem d1_3 : decode method_2_code 3 = .ok (.iconst 1, 1) := by decide +kernel
theorem d1_4 : decode method_2_code 4 = .ok (.iand, 1) := by decide +kernel
theorem d1_5 : decode method_2_code 5 = .ok (.ifCond .eq 14, 3) := by decide +kernel
theorem d1_19 : decode method_2_code 19 = .ok (.lconst 0, 1) := by decide +kernel
theorem d1_20 : decode method_2_code 20 = .ok (.lreturn, 1) := by decide +kernel
theorem d1_8 : decode method_2_code 8 = .ok (.ldc2_w 7, 3) := by decide +kernel
theorem d1_11 : decode method_2_code 11 = .ok (.bipush 8, 2) := by decide +kernel
theorem d1_13 : decode method_2_code 13 = .ok (.iload_n 1, 1) := by decide +kernel
theorem d1_14 : decode method_2_code 14 = .ok (.imul, 1) := by decide +kernel
theorem d1_15 : decode method_2_code 15 = .ok (.lshl, 1) := by decide +kernel
theorem d1_16 : decode method_2_code 16 = .ok (.goto 4, 3) := by decide +kernel
theorem pn_0 : plainName "com/example/rivanna/rivanna/core/json/EightBytesEqualToPinLaw" = true := by first | (simp [plainName, overriddenIn]; done) | decide +kernel
def Q1 (Z : State) (u0 : Int32) (u1 : Int32)  (h0 : Heap) (n0 : Nat) (v : Option Value) (h : Heap) (L : List Loc) : Prop := v = some (.long (own_m u0 u1)) ∧ Fr n0 L ∧ h = h0
theorem ef_rm1 (m : MethodId) (u0 : Int32) (u1 : Int32) : entryFrame m #[(.int u0), (.int u1)] 2 = mkF m 0 #[iv u0, iv u1] [] := by first | (simp [entryFrame, mkF, argsToLocals, Value.category]; done) | rfl
set_option maxRecDepth 65536 in
set_option maxHeartbeats 40000000 in
theorem rm1 (l : Launch) (Z : State) (a0 : Array Value) (hw : ∀ d ∈ tables_1, d.before a0 Z = true) (ws : List Jvm.Cond) (u0 : Int32) (u1 : Int32)  (h0 : Heap) (n0 : Nat) (Z0 : n0 ≤ h0.size) :
    MetFree l (⟨"com/example/rivanna/rivanna/core/json/EightBytesEqualToPinLaw", "m", "(II)J"⟩ : MethodName) (head1 (Jvm.Cond.code (⟨"com/example/rivanna/rivanna/core/json/EightBytesEqualToPinLaw", "m", "(II)J"⟩ : MethodName) method_2_code 2 (some .long) :: ws) ({ frames := 0, cells := 0, slots := 0, locals := 0 } : Room)) (fun a U => a = #[(.int u0), (.int u1)] ∧ Z.Warmed39 U.vm ∧ U.heap = h0) (fun _ _ _ _ _ => True) (fun _ U o U' => ∃ v L, o = .returned v ∧ Q1 Z u0 u1 h0 n0 v U'.heap L ∧ FrameEnd U o U' L ({ frames := 0, cells := 0, slots := 0, locals := 0 } : Room).cells ({ frames := 0, cells := 0, slots := 0, locals := 0 } : Room).slots) := by
  refine MetFree.of_bodySF (plainFor_of_name pn_0) hisR ?_
  intro p e s m args below meth c s₁ Bd hml0 hP hK
  obtain ⟨rfl, hZ, hh⟩ := hP
  have hx := Bd.exec
  have hby := Bd.bytes
  have hml : c.maxLocals = 2 := hml0
  have hown : s.vm.findClass "com/example/rivanna/rivanna/core/json/EightBytesEqualToPinLaw" = some m.cls := findClass_of_methodNamed Bd.named
  have hnm := (name_of_methodNamed Bd.named Bd.method).1
  have X0 : Stand p l e ({ frames := 0, cells := 0, slots := 0, locals := 0 } : Room) s m #[(.int u0), (.int u1)] below meth c s₁ [] 0 0 := Stand.of_body Bd
  have e0 : s₁.heap = h0 := by rw [← hh, Bd.state]; rfl
  have N0 := Fr.nil n0
  have S0 : ∀ t, Steps p.tables e below (s₁.setTop (mkF m 0 #[iv u0, iv u1] [])) t → Steps p.tables e below (s₁.setTop (entryFrame m #[(.int u0), (.int u1)] 2)) t := fun t k => castTop (ef_rm1 m u0 u1) k
  have S1 : ∀ t, Steps p.tables e below (s₁.setTop (mkF m 5 #[iv u0, iv u1] [(.int (((u0.toUInt32 >>> (u1 &&& 31).toUInt32).toInt32) &&& (1 : Int32)))])) t → Steps p.tables e below (s₁.setTop (entryFrame m #[(.int u0), (.int u1)] 2)) t := by
    intro t k
    refine S0 t ?_
    show Steps p.tables e below (s₁.setTop (mkF m 0 #[iv u0, iv u1] [])) _
    refine XS.iloadN X0.here hx rfl (hb hby d1_0) rfl ?_
    show Steps p.tables e below (s₁.setTop (mkF m 1 #[iv u0, iv u1] [(.int u0)])) _
    refine XS.iloadN X0.here hx rfl (hb hby d1_1) rfl ?_
    show Steps p.tables e below (s₁.setTop (mkF m 2 #[iv u0, iv u1] [(.int u1), (.int u0)])) _
    refine XS.iushr X0.here hx rfl (hb hby d1_2) rfl ?_
    show Steps p.tables e below (s₁.setTop (mkF m 3 #[iv u0, iv u1] [(.int ((u0.toUInt32 >>> (u1 &&& 31).toUInt32).toInt32))])) _
    refine XS.iconst X0.here hx rfl (hb hby d1_3) ?_
    show Steps p.tables e below (s₁.setTop (mkF m 4 #[iv u0, iv u1] [(.int (1 : Int32)), (.int ((u0.toUInt32 >>> (u1 &&& 31).toUInt32).toInt32))])) _
    refine XS.iand X0.here hx rfl (hb hby d1_4) rfl ?_
    exact k
  by_cases hc2 : (((u0.toUInt32 >>> (u1 &&& 31).toUInt32).toInt32) &&& (1 : Int32)) = (0 : Int32)
  · skip
    obtain ⟨fs, hr, hrun, hended, hW, hsame⟩ := X0.leave (v := some (.long (0 : Int64))) (fun h => by rw [Bd.returns] at h; cases h)
    refine ⟨_, _, S1 _ ?_, hrun, hended, _, _, rfl, ?_, ⟨_, rfl⟩, hW, hsame.mono (by decide) (by decide)⟩
    · skip
      show Steps p.tables e below (s₁.setTop (mkF m 5 #[iv u0, iv u1] [(.int (((u0.toUInt32 >>> (u1 &&& 31).toUInt32).toInt32) &&& (1 : Int32)))])) _
      refine XS.ifYes X0.here hx rfl (pc0 := 5) (pc' := 19) rfl (hb hby d1_5) rfl ((if0 _ _).trans (teq hc2).1) (by decide) (by decide) ?_
      show Steps p.tables e below (s₁.setTop (mkF m 19 #[iv u0, iv u1] [])) _
      refine XS.lconst X0.here hx rfl (hb hby d1_19) ?_
      show Steps p.tables e below (s₁.setTop (mkF m 20 #[iv u0, iv u1] [(.long (0 : Int64))])) _
      exact retOut X0 hx (t := .long) (i := .lreturn) Bd.returns rfl (Or.inr (Or.inl ⟨rfl, rfl, _, rfl⟩)) (hb hby d1_20) hr
    · show Q1 Z u0 u1 h0 n0 _ s₁.heap _
      rw [e0]
      exact ⟨(by unfold own_m; rw [if_pos hc2]), N0, rfl⟩
  · skip
    obtain ⟨fs, hr, hrun, hended, hW, hsame⟩ := X0.leave (v := some (.long ((255 : Int64) <<< (((8 : Int32) * u1) &&& 0x3f).toInt64))) (fun h => by rw [Bd.returns] at h; cases h)
    refine ⟨_, _, S1 _ ?_, hrun, hended, _, _, rfl, ?_, ⟨_, rfl⟩, hW, hsame.mono (by decide) (by decide)⟩
    · skip
      show Steps p.tables e below (s₁.setTop (mkF m 5 #[iv u0, iv u1] [(.int (((u0.toUInt32 >>> (u1 &&& 31).toUInt32).toInt32) &&& (1 : Int32)))])) _
      refine XS.ifNo X0.here hx rfl (hb hby d1_5) rfl ((if0 _ _).trans (feq hc2).1) ?_
      show Steps p.tables e below (s₁.setTop (mkF m 8 #[iv u0, iv u1] [])) _
      refine X0.ldc2Long hx hown (mvT hZ (hw _ (List.mem_of_getElem? (i := 4) rfl))) (g := (mkF m 8 #[iv u0, iv u1] [])) rfl (hb hby d1_8) _ ?_
      show Steps p.tables e below (s₁.setTop (mkF m 11 #[iv u0, iv u1] [(.long (255 : Int64))])) _
      refine XS.bipush X0.here hx rfl (hb hby d1_11) ?_
      show Steps p.tables e below (s₁.setTop (mkF m 13 #[iv u0, iv u1] [(.int (8 : Int32)), (.long (255 : Int64))])) _
      refine XS.iloadN X0.here hx rfl (hb hby d1_13) rfl ?_
      show Steps p.tables e below (s₁.setTop (mkF m 14 #[iv u0, iv u1] [(.int u1), (.int (8 : Int32)), (.long (255 : Int64))])) _
      refine XS.imul X0.here hx rfl (hb hby d1_14) rfl ?_
      show Steps p.tables e below (s₁.setTop (mkF m 15 #[iv u0, iv u1] [(.int ((8 : Int32) * u1)), (.long (255 : Int64))])) _
      refine XS.lshl X0.here hx rfl (hb hby d1_15) rfl ?_
      show Steps p.tables e below (s₁.setTop (mkF m 16 #[iv u0, iv u1] [(.long ((255 : Int64) <<< (((8 : Int32) * u1) &&& 0x3f).toInt64))])) _
      refine XS.goto X0.here hx rfl (pc0 := 16) (pc' := 20) rfl (hb hby d1_16) (by decide) (by decide) ?_
      show Steps p.tables e below (s₁.setTop (mkF m 20 #[iv u0, iv u1] [(.long ((255 : Int64) <<< (((8 : Int32) * u1) &&& 0x3f).toInt64))])) _
      exact retOut X0 hx (t := .long) (i := .lreturn) Bd.returns rfl (Or.inr (Or.inl ⟨rfl, rfl, _, rfl⟩)) (hb hby d1_20) hr
    · show Q1 Z u0 u1 h0 n0 _ s₁.heap _
      rw [e0]
      exact ⟨(by unfold own_m; rw [if_neg hc2]), N0, rfl⟩
def own_q (u0 : Int64) (u1 : Int32) : Int64 := ((((u0 ^^^ ((72340172838076673 : Int64) * (u1.toInt64))) - (72340172838076673 : Int64)) &&& ((u0 ^^^ ((72340172838076673 : Int64) * (u1.toInt64))) ^^^ (-1 : Int64))) &&& (-9187201950435737472 : Int64))
theorem d2_0 : decode prog_21_method_4_code 0 = .ok (.lload_n 0, 1) := by decide +kernel
theorem d2_1 : decode prog_21_method_4_code 1 = .ok (.ldc2_w 23, 3) := by decide +kernel
theorem d2_4 : decode prog_21_method_4_code 4 = .ok (.iload_n 2, 1) := by decide +kernel
theorem d2_5 : decode prog_21_method_4_code 5 = .ok (.i2l, 1) := by decide +kernel
theorem d2_6 : decode prog_21_method_4_code 6 = .ok (.lmul, 1) := by decide +kernel
theorem d2_7 : decode prog_21_method_4_code 7 = .ok (.lxor, 1) := by decide +kernel
theorem d2_8 : decode prog_21_method_4_code 8 = .ok (.lstore_n 3, 1) := by decide +kernel
theorem d2_9 : decode prog_21_method_4_code 9 = .ok (.lload_n 3, 1) := by decide +kernel
theorem d2_10 : decode prog_21_method_4_code 10 = .ok (.ldc2_w 23, 3) := by decide +kernel
theorem d2_13 : decode prog_21_method_4_code 13 = .ok (.lsub, 1) := by decide +kernel
theorem d2_14 : decode prog_21_method_4_code 14 = .ok (.lload_n 3, 1) := by decide +kernel
theorem d2_15 : decode prog_21_method_4_code 15 = .ok (.ldc2_w 25, 3) := by decide +kernel
theorem d2_18 : decode prog_21_method_4_code 18 = .ok (.lxor, 1) := by decide +kernel
theorem d2_19 : decode prog_21_method_4_code 19 = .ok (.land, 1) := by decide +kernel
theorem d2_20 : decode prog_21_method_4_code 20 = .ok (.ldc2_w 21, 3) := by decide +kernel
theorem d2_23 : decode prog_21_method_4_code 23 = .ok (.land, 1) := by decide +kernel
theorem d2_24 : decode prog_21_method_4_code 24 = .ok (.lreturn, 1) := by decide +kernel
theorem pn_1 : plainName "com/example/rivanna/rivanna/core/json/EightBytes" = true := by first | (simp [plainName, overriddenIn]; done) | decide +kernel
def Q2 (Z : State) (u0 : Int64) (u1 : Int32)  (h0 : Heap) (n0 : Nat) (v : Option Value) (h : Heap) (L : List Loc) : Prop := v = some (.long (own_q u0 u1)) ∧ Fr n0 L ∧ h = h0
theorem ef_rm2 (m : MethodId) (u0 : Int64) (u1 : Int32) : entryFrame m #[(.long u0), (.int u1)] 5 = mkF m 0 #[.val (.long u0), .second, iv u1, .unset, .unset] [] := by first | (simp [entryFrame, mkF, argsToLocals, Value.category]; done) | rfl
set_option maxRecDepth 65536 in
set_option maxHeartbeats 40000000 in
theorem rm2 (l : Launch) (Z : State) (a0 : Array Value) (hw : ∀ d ∈ tables_1, d.before a0 Z = true) (ws : List Jvm.Cond) (u0 : Int64) (u1 : Int32)  (h0 : Heap) (n0 : Nat) (Z0 : n0 ≤ h0.size) :
    MetFree l (⟨"com/example/rivanna/rivanna/core/json/EightBytes", "equalTo", "(JI)J"⟩ : MethodName) (head1 (Jvm.Cond.code (⟨"com/example/rivanna/rivanna/core/json/EightBytes", "equalTo", "(JI)J"⟩ : MethodName) prog_21_method_4_code 5 (some .long) :: ws) ({ frames := 0, cells := 0, slots := 0, locals := 0 } : Room)) (fun a U => a = #[(.long u0), (.int u1)] ∧ Z.Warmed39 U.vm ∧ U.heap = h0) (fun _ _ _ _ _ => True) (fun _ U o U' => ∃ v L, o = .returned v ∧ Q2 Z u0 u1 h0 n0 v U'.heap L ∧ FrameEnd U o U' L ({ frames := 0, cells := 0, slots := 0, locals := 0 } : Room).cells ({ frames := 0, cells := 0, slots := 0, locals := 0 } : Room).slots) := by
  refine MetFree.of_bodySF (plainFor_of_name pn_1) hisR ?_
  intro p e s m args below meth c s₁ Bd hml0 hP hK
  obtain ⟨rfl, hZ, hh⟩ := hP
  have hx := Bd.exec
  have hby := Bd.bytes
  have hml : c.maxLocals = 5 := hml0
  have hown : s.vm.findClass "com/example/rivanna/rivanna/core/json/EightBytes" = some m.cls := findClass_of_methodNamed Bd.named
  have hnm := (name_of_methodNamed Bd.named Bd.method).1
  have X0 : Stand p l e ({ frames := 0, cells := 0, slots := 0, locals := 0 } : Room) s m #[(.long u0), (.int u1)] below meth c s₁ [] 0 0 := Stand.of_body Bd
  have e0 : s₁.heap = h0 := by rw [← hh, Bd.state]; rfl
  have N0 := Fr.nil n0
  have S0 : ∀ t, Steps p.tables e below (s₁.setTop (mkF m 0 #[.val (.long u0), .second, iv u1, .unset, .unset] [])) t → Steps p.tables e below (s₁.setTop (entryFrame m #[(.long u0), (.int u1)] 5)) t := fun t k => castTop (ef_rm2 m u0 u1) k
  obtain ⟨fs, hr, hrun, hended, hW, hsame⟩ := X0.leave (v := some (.long ((((u0 ^^^ ((72340172838076673 : Int64) * (u1.toInt64))) - (72340172838076673 : Int64)) &&& ((u0 ^^^ ((72340172838076673 : Int64) * (u1.toInt64))) ^^^ (-1 : Int64))) &&& (-9187201950435737472 : Int64)))) (fun h => by rw [Bd.returns] at h; cases h)
  refine ⟨_, _, S0 _ ?_, hrun, hended, _, _, rfl, ?_, ⟨_, rfl⟩, hW, hsame.mono (by decide) (by decide)⟩
  · skip
    show Steps p.tables e below (s₁.setTop (mkF m 0 #[.val (.long u0), .second, iv u1, .unset, .unset] [])) _
    refine XS.lloadN X0.here hx rfl (hb hby d2_0) rfl ?_
    show Steps p.tables e below (s₁.setTop (mkF m 1 #[.val (.long u0), .second, iv u1, .unset, .unset] [(.long u0)])) _
    refine X0.ldc2Long hx hown (mvT hZ (hw _ (List.mem_of_getElem? (i := 11) rfl))) (g := (mkF m 1 #[.val (.long u0), .second, iv u1, .unset, .unset] [(.long u0)])) rfl (hb hby d2_1) _ ?_
    show Steps p.tables e below (s₁.setTop (mkF m 4 #[.val (.long u0), .second, iv u1, .unset, .unset] [(.long (72340172838076673 : Int64)), (.long u0)])) _
    refine XS.iloadN X0.here hx rfl (hb hby d2_4) rfl ?_
    show Steps p.tables e below (s₁.setTop (mkF m 5 #[.val (.long u0), .second, iv u1, .unset, .unset] [(.int u1), (.long (72340172838076673 : Int64)), (.long u0)])) _
    refine XS.i2l X0.here hx rfl (hb hby d2_5) rfl ?_
    show Steps p.tables e below (s₁.setTop (mkF m 6 #[.val (.long u0), .second, iv u1, .unset, .unset] [(.long (u1.toInt64)), (.long (72340172838076673 : Int64)), (.long u0)])) _
    refine XS.lmul X0.here hx rfl (hb hby d2_6) rfl ?_
    show Steps p.tables e below (s₁.setTop (mkF m 7 #[.val (.long u0), .second, iv u1, .unset, .unset] [(.long ((72340172838076673 : Int64) * (u1.toInt64))), (.long u0)])) _
    refine XS.lxor X0.here hx rfl (hb hby d2_7) rfl ?_
    show Steps p.tables e below (s₁.setTop (mkF m 8 #[.val (.long u0), .second, iv u1, .unset, .unset] [(.long (u0 ^^^ ((72340172838076673 : Int64) * (u1.toInt64))))])) _
    refine XS.lstoreN X0.here hx rfl (hb hby d2_8) rfl (l' := #[.val (.long u0), .second, iv u1, .val (.long (u0 ^^^ ((72340172838076673 : Int64) * (u1.toInt64)))), .second]) rfl ?_
    show Steps p.tables e below (s₁.setTop (mkF m 9 #[.val (.long u0), .second, iv u1, .val (.long (u0 ^^^ ((72340172838076673 : Int64) * (u1.toInt64)))), .second] [])) _
    refine XS.lloadN X0.here hx rfl (hb hby d2_9) rfl ?_
    show Steps p.tables e below (s₁.setTop (mkF m 10 #[.val (.long u0), .second, iv u1, .val (.long (u0 ^^^ ((72340172838076673 : Int64) * (u1.toInt64)))), .second] [(.long (u0 ^^^ ((72340172838076673 : Int64) * (u1.toInt64))))])) _
    refine X0.ldc2Long hx hown (mvT hZ (hw _ (List.mem_of_getElem? (i := 11) rfl))) (g := (mkF m 10 #[.val (.long u0), .second, iv u1, .val (.long (u0 ^^^ ((72340172838076673 : Int64) * (u1.toInt64)))), .second] [(.long (u0 ^^^ ((72340172838076673 : Int64) * (u1.toInt64))))])) rfl (hb hby d2_10) _ ?_
    show Steps p.tables e below (s₁.setTop (mkF m 13 #[.val (.long u0), .second, iv u1, .val (.long (u0 ^^^ ((72340172838076673 : Int64) * (u1.toInt64)))), .second] [(.long (72340172838076673 : Int64)), (.long (u0 ^^^ ((72340172838076673 : Int64) * (u1.toInt64))))])) _
    refine XS.lsub X0.here hx rfl (hb hby d2_13) rfl ?_
    show Steps p.tables e below (s₁.setTop (mkF m 14 #[.val (.long u0), .second, iv u1, .val (.long (u0 ^^^ ((72340172838076673 : Int64) * (u1.toInt64)))), .second] [(.long ((u0 ^^^ ((72340172838076673 : Int64) * (u1.toInt64))) - (72340172838076673 : Int64)))])) _
    refine XS.lloadN X0.here hx rfl (hb hby d2_14) rfl ?_
    show Steps p.tables e below (s₁.setTop (mkF m 15 #[.val (.long u0), .second, iv u1, .val (.long (u0 ^^^ ((72340172838076673 : Int64) * (u1.toInt64)))), .second] [(.long (u0 ^^^ ((72340172838076673 : Int64) * (u1.toInt64)))), (.long ((u0 ^^^ ((72340172838076673 : Int64) * (u1.toInt64))) - (72340172838076673 : Int64)))])) _
    refine X0.ldc2Long hx hown (mvT hZ (hw _ (List.mem_of_getElem? (i := 12) rfl))) (g := (mkF m 15 #[.val (.long u0), .second, iv u1, .val (.long (u0 ^^^ ((72340172838076673 : Int64) * (u1.toInt64)))), .second] [(.long (u0 ^^^ ((72340172838076673 : Int64) * (u1.toInt64)))), (.long ((u0 ^^^ ((72340172838076673 : Int64) * (u1.toInt64))) - (72340172838076673 : Int64)))])) rfl (hb hby d2_15) _ ?_
    show Steps p.tables e below (s₁.setTop (mkF m 18 #[.val (.long u0), .second, iv u1, .val (.long (u0 ^^^ ((72340172838076673 : Int64) * (u1.toInt64)))), .second] [(.long (-1 : Int64)), (.long (u0 ^^^ ((72340172838076673 : Int64) * (u1.toInt64)))), (.long ((u0 ^^^ ((72340172838076673 : Int64) * (u1.toInt64))) - (72340172838076673 : Int64)))])) _
    refine XS.lxor X0.here hx rfl (hb hby d2_18) rfl ?_
    show Steps p.tables e below (s₁.setTop (mkF m 19 #[.val (.long u0), .second, iv u1, .val (.long (u0 ^^^ ((72340172838076673 : Int64) * (u1.toInt64)))), .second] [(.long ((u0 ^^^ ((72340172838076673 : Int64) * (u1.toInt64))) ^^^ (-1 : Int64))), (.long ((u0 ^^^ ((72340172838076673 : Int64) * (u1.toInt64))) - (72340172838076673 : Int64)))])) _
    refine XS.land X0.here hx rfl (hb hby d2_19) rfl ?_
    show Steps p.tables e below (s₁.setTop (mkF m 20 #[.val (.long u0), .second, iv u1, .val (.long (u0 ^^^ ((72340172838076673 : Int64) * (u1.toInt64)))), .second] [(.long (((u0 ^^^ ((72340172838076673 : Int64) * (u1.toInt64))) - (72340172838076673 : Int64)) &&& ((u0 ^^^ ((72340172838076673 : Int64) * (u1.toInt64))) ^^^ (-1 : Int64))))])) _
    refine X0.ldc2Long hx hown (mvT hZ (hw _ (List.mem_of_getElem? (i := 13) rfl))) (g := (mkF m 20 #[.val (.long u0), .second, iv u1, .val (.long (u0 ^^^ ((72340172838076673 : Int64) * (u1.toInt64)))), .second] [(.long (((u0 ^^^ ((72340172838076673 : Int64) * (u1.toInt64))) - (72340172838076673 : Int64)) &&& ((u0 ^^^ ((72340172838076673 : Int64) * (u1.toInt64))) ^^^ (-1 : Int64))))])) rfl (hb hby d2_20) _ ?_
    show Steps p.tables e below (s₁.setTop (mkF m 23 #[.val (.long u0), .second, iv u1, .val (.long (u0 ^^^ ((72340172838076673 : Int64) * (u1.toInt64)))), .second] [(.long (-9187201950435737472 : Int64)), (.long (((u0 ^^^ ((72340172838076673 : Int64) * (u1.toInt64))) - (72340172838076673 : Int64)) &&& ((u0 ^^^ ((72340172838076673 : Int64) * (u1.toInt64))) ^^^ (-1 : Int64))))])) _
    refine XS.land X0.here hx rfl (hb hby d2_23) rfl ?_
    show Steps p.tables e below (s₁.setTop (mkF m 24 #[.val (.long u0), .second, iv u1, .val (.long (u0 ^^^ ((72340172838076673 : Int64) * (u1.toInt64)))), .second] [(.long ((((u0 ^^^ ((72340172838076673 : Int64) * (u1.toInt64))) - (72340172838076673 : Int64)) &&& ((u0 ^^^ ((72340172838076673 : Int64) * (u1.toInt64))) ^^^ (-1 : Int64))) &&& (-9187201950435737472 : Int64)))])) _
    exact retOut X0 hx (t := .long) (i := .lreturn) Bd.returns rfl (Or.inr (Or.inl ⟨rfl, rfl, _, rfl⟩)) (hb hby d2_24) hr
  · show Q2 Z u0 u1 h0 n0 _ s₁.heap _
    rw [e0]
    exact ⟨rfl, N0, rfl⟩
def own_eq (u0 : Int64) (u1 : Int32) (u2 : Int32) : Int32 := if (((u0.toUInt64 >>> (((8 : Int32) * u1) &&& 0x3f).toInt64.toUInt64).toInt64) &&& (255 : Int64)) = (u2.toInt64) then (1 : Int32) else (0 : Int32)
theorem d3_0 : decode method_3_code 0 = .ok (.lload_n 0, 1) := by decide +kernel
theorem d3_1 : decode method_3_code 1 = .ok (.bipush 8, 2) := by decide +kernel
theorem d3_3 : decode method_3_code 3 = .ok (.iload_n 2, 1) := by decide +kernel
theorem d3_4 : decode method_3_code 4 = .ok (.imul, 1) := by decide +kernel
theorem d3_5 : decode method_3_code 5 = .ok (.lushr, 1) := by decide +kernel
theorem d3_6 : decode method_3_code 6 = .ok (.ldc2_w 7, 3) := by decide +kernel
theorem d3_9 : decode method_3_code 9 = .ok (.land, 1) := by decide +kernel
theorem d3_10 : decode method_3_code 10 = .ok (.iload_n 3, 1) := by decide +kernel
theorem d3_11 : decode method_3_code 11 = .ok (.i2l, 1) := by decide +kernel
theorem d3_12 : decode method_3_code 12 = .ok (.lcmp, 1) := by decide +kernel
theorem d3_13 : decode method_3_code 13 = .ok (.ifCond .ne 7, 3) := by decide +kernel
theorem d3_16 : decode method_3_code 16 = .ok (.iconst 1, 1) := by decide +kernel
theorem d3_17 : decode method_3_code 17 = .ok (.goto 4, 3) := by decide +kernel
theorem d3_21 : decode method_3_code 21 = .ok (.ireturn, 1) := by decide +kernel
theorem d3_20 : decode method_3_code 20 = .ok (.iconst 0, 1) := by decide +kernel
def Q3 (Z : State) (u0 : Int64) (u1 : Int32) (u2 : Int32)  (h0 : Heap) (n0 : Nat) (v : Option Value) (h : Heap) (L : List Loc) : Prop := v = some (.int (own_eq u0 u1 u2)) ∧ Fr n0 L ∧ h = h0
theorem ef_rm3 (m : MethodId) (u0 : Int64) (u1 : Int32) (u2 : Int32) : entryFrame m #[(.long u0), (.int u1), (.int u2)] 4 = mkF m 0 #[.val (.long u0), .second, iv u1, iv u2] [] := by first | (simp [entryFrame, mkF, argsToLocals, Value.category]; done) | rfl
set_option maxRecDepth 65536 in
set_option maxHeartbeats 40000000 in
theorem rm3 (l : Launch) (Z : State) (a0 : Array Value) (hw : ∀ d ∈ tables_1, d.before a0 Z = true) (ws : List Jvm.Cond) (u0 : Int64) (u1 : Int32) (u2 : Int32)  (h0 : Heap) (n0 : Nat) (Z0 : n0 ≤ h0.size) :
    MetFree l (⟨"com/example/rivanna/rivanna/core/json/EightBytesEqualToPinLaw", "eq", "(JII)Z"⟩ : MethodName) (head1 (Jvm.Cond.code (⟨"com/example/rivanna/rivanna/core/json/EightBytesEqualToPinLaw", "eq", "(JII)Z"⟩ : MethodName) method_3_code 4 (some .boolean) :: ws) ({ frames := 0, cells := 0, slots := 0, locals := 0 } : Room)) (fun a U => a = #[(.long u0), (.int u1), (.int u2)] ∧ Z.Warmed39 U.vm ∧ U.heap = h0) (fun _ _ _ _ _ => True) (fun _ U o U' => ∃ v L, o = .returned v ∧ Q3 Z u0 u1 u2 h0 n0 v U'.heap L ∧ FrameEnd U o U' L ({ frames := 0, cells := 0, slots := 0, locals := 0 } : Room).cells ({ frames := 0, cells := 0, slots := 0, locals := 0 } : Room).slots) := by
  refine MetFree.of_bodySF (plainFor_of_name pn_0) hisR ?_
  intro p e s m args below meth c s₁ Bd hml0 hP hK
  obtain ⟨rfl, hZ, hh⟩ := hP
  have hx := Bd.exec
  have hby := Bd.bytes
  have hml : c.maxLocals = 4 := hml0
  have hown : s.vm.findClass "com/example/rivanna/rivanna/core/json/EightBytesEqualToPinLaw" = some m.cls := findClass_of_methodNamed Bd.named
  have hnm := (name_of_methodNamed Bd.named Bd.method).1
  have X0 : Stand p l e ({ frames := 0, cells := 0, slots := 0, locals := 0 } : Room) s m #[(.long u0), (.int u1), (.int u2)] below meth c s₁ [] 0 0 := Stand.of_body Bd
  have e0 : s₁.heap = h0 := by rw [← hh, Bd.state]; rfl
  have N0 := Fr.nil n0
  have S0 : ∀ t, Steps p.tables e below (s₁.setTop (mkF m 0 #[.val (.long u0), .second, iv u1, iv u2] [])) t → Steps p.tables e below (s₁.setTop (entryFrame m #[(.long u0), (.int u1), (.int u2)] 4)) t := fun t k => castTop (ef_rm3 m u0 u1 u2) k
  have S1 : ∀ t, Steps p.tables e below (s₁.setTop (mkF m 13 #[.val (.long u0), .second, iv u1, iv u2] [(.int (lcmpW (((u0.toUInt64 >>> (((8 : Int32) * u1) &&& 0x3f).toInt64.toUInt64).toInt64) &&& (255 : Int64)) (u2.toInt64)))])) t → Steps p.tables e below (s₁.setTop (entryFrame m #[(.long u0), (.int u1), (.int u2)] 4)) t := by
    intro t k
    refine S0 t ?_
    show Steps p.tables e below (s₁.setTop (mkF m 0 #[.val (.long u0), .second, iv u1, iv u2] [])) _
    refine XS.lloadN X0.here hx rfl (hb hby d3_0) rfl ?_
    show Steps p.tables e below (s₁.setTop (mkF m 1 #[.val (.long u0), .second, iv u1, iv u2] [(.long u0)])) _
    refine XS.bipush X0.here hx rfl (hb hby d3_1) ?_
    show Steps p.tables e below (s₁.setTop (mkF m 3 #[.val (.long u0), .second, iv u1, iv u2] [(.int (8 : Int32)), (.long u0)])) _
    refine XS.iloadN X0.here hx rfl (hb hby d3_3) rfl ?_
    show Steps p.tables e below (s₁.setTop (mkF m 4 #[.val (.long u0), .second, iv u1, iv u2] [(.int u1), (.int (8 : Int32)), (.long u0)])) _
    refine XS.imul X0.here hx rfl (hb hby d3_4) rfl ?_
    show Steps p.tables e below (s₁.setTop (mkF m 5 #[.val (.long u0), .second, iv u1, iv u2] [(.int ((8 : Int32) * u1)), (.long u0)])) _
    refine XS.lushr X0.here hx rfl (hb hby d3_5) rfl ?_
    show Steps p.tables e below (s₁.setTop (mkF m 6 #[.val (.long u0), .second, iv u1, iv u2] [(.long ((u0.toUInt64 >>> (((8 : Int32) * u1) &&& 0x3f).toInt64.toUInt64).toInt64))])) _
    refine X0.ldc2Long hx hown (mvT hZ (hw _ (List.mem_of_getElem? (i := 4) rfl))) (g := (mkF m 6 #[.val (.long u0), .second, iv u1, iv u2] [(.long ((u0.toUInt64 >>> (((8 : Int32) * u1) &&& 0x3f).toInt64.toUInt64).toInt64))])) rfl (hb hby d3_6) _ ?_
    show Steps p.tables e below (s₁.setTop (mkF m 9 #[.val (.long u0), .second, iv u1, iv u2] [(.long (255 : Int64)), (.long ((u0.toUInt64 >>> (((8 : Int32) * u1) &&& 0x3f).toInt64.toUInt64).toInt64))])) _
    refine XS.land X0.here hx rfl (hb hby d3_9) rfl ?_
    show Steps p.tables e below (s₁.setTop (mkF m 10 #[.val (.long u0), .second, iv u1, iv u2] [(.long (((u0.toUInt64 >>> (((8 : Int32) * u1) &&& 0x3f).toInt64.toUInt64).toInt64) &&& (255 : Int64)))])) _
    refine XS.iloadN X0.here hx rfl (hb hby d3_10) rfl ?_
    show Steps p.tables e below (s₁.setTop (mkF m 11 #[.val (.long u0), .second, iv u1, iv u2] [(.int u2), (.long (((u0.toUInt64 >>> (((8 : Int32) * u1) &&& 0x3f).toInt64.toUInt64).toInt64) &&& (255 : Int64)))])) _
    refine XS.i2l X0.here hx rfl (hb hby d3_11) rfl ?_
    show Steps p.tables e below (s₁.setTop (mkF m 12 #[.val (.long u0), .second, iv u1, iv u2] [(.long (u2.toInt64)), (.long (((u0.toUInt64 >>> (((8 : Int32) * u1) &&& 0x3f).toInt64.toUInt64).toInt64) &&& (255 : Int64)))])) _
    refine XS.lcmp X0.here hx rfl (hb hby d3_12) rfl ?_
    exact k
  by_cases hc2 : (((u0.toUInt64 >>> (((8 : Int32) * u1) &&& 0x3f).toInt64.toUInt64).toInt64) &&& (255 : Int64)) = (u2.toInt64)
  · skip
    obtain ⟨fs, hr, hrun, hended, hW, hsame⟩ := X0.leave (v := some (.int (1 : Int32))) (fun h => by rw [Bd.returns] at h; cases h)
    refine ⟨_, _, S1 _ ?_, hrun, hended, _, _, rfl, ?_, ⟨_, rfl⟩, hW, hsame.mono (by decide) (by decide)⟩
    · skip
      show Steps p.tables e below (s₁.setTop (mkF m 13 #[.val (.long u0), .second, iv u1, iv u2] [(.int (lcmpW (((u0.toUInt64 >>> (((8 : Int32) * u1) &&& 0x3f).toInt64.toUInt64).toInt64) &&& (255 : Int64)) (u2.toInt64)))])) _
      refine XS.ifNo X0.here hx rfl (hb hby d3_13) rfl ((if0 _ _).trans (teq ((lw_eq _ _).mpr hc2)).2) ?_
      show Steps p.tables e below (s₁.setTop (mkF m 16 #[.val (.long u0), .second, iv u1, iv u2] [])) _
      refine XS.iconst X0.here hx rfl (hb hby d3_16) ?_
      show Steps p.tables e below (s₁.setTop (mkF m 17 #[.val (.long u0), .second, iv u1, iv u2] [(.int (1 : Int32))])) _
      refine XS.goto X0.here hx rfl (pc0 := 17) (pc' := 21) rfl (hb hby d3_17) (by decide) (by decide) ?_
      show Steps p.tables e below (s₁.setTop (mkF m 21 #[.val (.long u0), .second, iv u1, iv u2] [(.int (1 : Int32))])) _
      exact retN X0 hx (t := .boolean) Bd.returns (by simp) (hb hby d3_21) hr
    · show Q3 Z u0 u1 u2 h0 n0 _ s₁.heap _
      rw [e0]
      exact ⟨(by unfold own_eq; rw [if_pos hc2]), N0, rfl⟩
  · skip
    obtain ⟨fs, hr, hrun, hended, hW, hsame⟩ := X0.leave (v := some (.int (0 : Int32))) (fun h => by rw [Bd.returns] at h; cases h)
    refine ⟨_, _, S1 _ ?_, hrun, hended, _, _, rfl, ?_, ⟨_, rfl⟩, hW, hsame.mono (by decide) (by decide)⟩
    · skip
      show Steps p.tables e below (s₁.setTop (mkF m 13 #[.val (.long u0), .second, iv u1, iv u2] [(.int (lcmpW (((u0.toUInt64 >>> (((8 : Int32) * u1) &&& 0x3f).toInt64.toUInt64).toInt64) &&& (255 : Int64)) (u2.toInt64)))])) _
      refine XS.ifYes X0.here hx rfl (pc0 := 13) (pc' := 20) rfl (hb hby d3_13) rfl ((if0 _ _).trans (feq (fun z => hc2 ((lw_eq _ _).mp z))).2) (by decide) (by decide) ?_
      show Steps p.tables e below (s₁.setTop (mkF m 20 #[.val (.long u0), .second, iv u1, iv u2] [])) _
      refine XS.iconst X0.here hx rfl (hb hby d3_20) ?_
      show Steps p.tables e below (s₁.setTop (mkF m 21 #[.val (.long u0), .second, iv u1, iv u2] [(.int (0 : Int32))])) _
      exact retN X0 hx (t := .boolean) Bd.returns (by simp) (hb hby d3_21) hr
    · show Q3 Z u0 u1 u2 h0 n0 _ s₁.heap _
      rw [e0]
      exact ⟨(by unfold own_eq; rw [if_neg hc2]), N0, rfl⟩
theorem own_byte_and (A B k : Nat) : (A &&& B) / 2 ^ k % 256 = (A / 2 ^ k % 256) &&& (B / 2 ^ k % 256) := by
  have h : (256 : Nat) = 2 ^ 8 := rfl
  rw [Nat.and_div_two_pow, h, Nat.and_mod_two_pow]
theorem own_byte_xor (A B k : Nat) : (A ^^^ B) / 2 ^ k % 256 = (A / 2 ^ k % 256) ^^^ (B / 2 ^ k % 256) := by
  have h : (256 : Nat) = 2 ^ 8 := rfl
  rw [Nat.xor_div_two_pow, h, Nat.xor_mod_two_pow]
theorem own_xor0 (a b : Nat) : a ^^^ b = 0 ↔ a = b := by
  constructor
  · intro h
    have q : a ^^^ (a ^^^ b) = a := by rw [h]; simp
    rw [← Nat.xor_assoc, Nat.xor_self, Nat.zero_xor] at q
    exact q.symm
  · rintro rfl; exact Nat.xor_self _
theorem own_r0 : ∀ x : Fin 256, 1 ≤ x.val → ((x.val - 1) &&& (255 - x.val)) &&& 128 = 0 := by decide +kernel
theorem own_r1 : ∀ x : Fin 256, x.val &&& 128 = 0 ∨ x.val &&& 128 = 128 := by decide +kernel
def own_RN (X : Nat) : Nat := (((18446744073709551616 - 72340172838076673 + X) % 18446744073709551616) &&& (18446744073709551615 - X)) &&& 9259542123273814144
theorem own_zA0 (X : Nat) (h : X < 18446744073709551616)  (h0 : X / 2 ^ 0 % 256 ≠ 0) : own_RN X / 2 ^ 0 % 256 = 0 := by
  have e1 : ((18446744073709551616 - 72340172838076673 + X) % 18446744073709551616) / 2 ^ 0 % 256 = X / 2 ^ 0 % 256 - 1 := by omega
  have e2 : (18446744073709551615 - X) / 2 ^ 0 % 256 = 255 - X / 2 ^ 0 % 256 := by omega
  have e3 : 9259542123273814144 / 2 ^ 0 % 256 = 128 := by decide
  unfold own_RN
  rw [own_byte_and, own_byte_and, e1, e2, e3]
  exact own_r0 ⟨X / 2 ^ 0 % 256, Nat.mod_lt _ (by decide)⟩ (Nat.one_le_iff_ne_zero.mpr h0)
theorem own_zB0 (X : Nat) (h : X < 18446744073709551616)  (h0 : X / 2 ^ 0 % 256 = 0) : own_RN X / 2 ^ 0 % 256 = 128 := by
  have e1 : ((18446744073709551616 - 72340172838076673 + X) % 18446744073709551616) / 2 ^ 0 % 256 = 255 := by omega
  have e2 : (18446744073709551615 - X) / 2 ^ 0 % 256 = 255 := by omega
  have e3 : 9259542123273814144 / 2 ^ 0 % 256 = 128 := by decide
  unfold own_RN
  rw [own_byte_and, own_byte_and, e1, e2, e3]
  decide
theorem own_zC0 (X : Nat) : own_RN X / 2 ^ 0 % 256 = 0 ∨ own_RN X / 2 ^ 0 % 256 = 128 := by
  have e3 : 9259542123273814144 / 2 ^ 0 % 256 = 128 := by decide
  unfold own_RN
  rw [own_byte_and, e3]
  exact own_r1 ⟨_, Nat.mod_lt _ (by decide)⟩
theorem own_zA1 (X : Nat) (h : X < 18446744073709551616) (h0 : X / 2 ^ 0 % 256 ≠ 0) (h1 : X / 2 ^ 8 % 256 ≠ 0) : own_RN X / 2 ^ 8 % 256 = 0 := by
  have e1 : ((18446744073709551616 - 72340172838076673 + X) % 18446744073709551616) / 2 ^ 8 % 256 = X / 2 ^ 8 % 256 - 1 := by omega
  have e2 : (18446744073709551615 - X) / 2 ^ 8 % 256 = 255 - X / 2 ^ 8 % 256 := by omega
  have e3 : 9259542123273814144 / 2 ^ 8 % 256 = 128 := by decide
  unfold own_RN
  rw [own_byte_and, own_byte_and, e1, e2, e3]
  exact own_r0 ⟨X / 2 ^ 8 % 256, Nat.mod_lt _ (by decide)⟩ (Nat.one_le_iff_ne_zero.mpr h1)
theorem own_zB1 (X : Nat) (h : X < 18446744073709551616) (h0 : X / 2 ^ 0 % 256 ≠ 0) (h1 : X / 2 ^ 8 % 256 = 0) : own_RN X / 2 ^ 8 % 256 = 128 := by
  have e1 : ((18446744073709551616 - 72340172838076673 + X) % 18446744073709551616) / 2 ^ 8 % 256 = 255 := by omega
  have e2 : (18446744073709551615 - X) / 2 ^ 8 % 256 = 255 := by omega
  have e3 : 9259542123273814144 / 2 ^ 8 % 256 = 128 := by decide
  unfold own_RN
  rw [own_byte_and, own_byte_and, e1, e2, e3]
  decide
theorem own_zC1 (X : Nat) : own_RN X / 2 ^ 8 % 256 = 0 ∨ own_RN X / 2 ^ 8 % 256 = 128 := by
  have e3 : 9259542123273814144 / 2 ^ 8 % 256 = 128 := by decide
  unfold own_RN
  rw [own_byte_and, e3]
  exact own_r1 ⟨_, Nat.mod_lt _ (by decide)⟩
theorem own_zA2 (X : Nat) (h : X < 18446744073709551616) (h0 : X / 2 ^ 0 % 256 ≠ 0) (h1 : X / 2 ^ 8 % 256 ≠ 0) (h2 : X / 2 ^ 16 % 256 ≠ 0) : own_RN X / 2 ^ 16 % 256 = 0 := by
  have e1 : ((18446744073709551616 - 72340172838076673 + X) % 18446744073709551616) / 2 ^ 16 % 256 = X / 2 ^ 16 % 256 - 1 := by omega
  have e2 : (18446744073709551615 - X) / 2 ^ 16 % 256 = 255 - X / 2 ^ 16 % 256 := by omega
  have e3 : 9259542123273814144 / 2 ^ 16 % 256 = 128 := by decide
  unfold own_RN
  rw [own_byte_and, own_byte_and, e1, e2, e3]
  exact own_r0 ⟨X / 2 ^ 16 % 256, Nat.mod_lt _ (by decide)⟩ (Nat.one_le_iff_ne_zero.mpr h2)
theorem own_zB2 (X : Nat) (h : X < 18446744073709551616) (h0 : X / 2 ^ 0 % 256 ≠ 0) (h1 : X / 2 ^ 8 % 256 ≠ 0) (h2 : X / 2 ^ 16 % 256 = 0) : own_RN X / 2 ^ 16 % 256 = 128 := by
  have e1 : ((18446744073709551616 - 72340172838076673 + X) % 18446744073709551616) / 2 ^ 16 % 256 = 255 := by omega
  have e2 : (18446744073709551615 - X) / 2 ^ 16 % 256 = 255 := by omega
  have e3 : 9259542123273814144 / 2 ^ 16 % 256 = 128 := by decide
  unfold own_RN
  rw [own_byte_and, own_byte_and, e1, e2, e3]
  decide
theorem own_zC2 (X : Nat) : own_RN X / 2 ^ 16 % 256 = 0 ∨ own_RN X / 2 ^ 16 % 256 = 128 := by
  have e3 : 9259542123273814144 / 2 ^ 16 % 256 = 128 := by decide
  unfold own_RN
  rw [own_byte_and, e3]
  exact own_r1 ⟨_, Nat.mod_lt _ (by decide)⟩
theorem own_zA3 (X : Nat) (h : X < 18446744073709551616) (h0 : X / 2 ^ 0 % 256 ≠ 0) (h1 : X / 2 ^ 8 % 256 ≠ 0) (h2 : X / 2 ^ 16 % 256 ≠ 0) (h3 : X / 2 ^ 24 % 256 ≠ 0) : own_RN X / 2 ^ 24 % 256 = 0 := by
  have e1 : ((18446744073709551616 - 72340172838076673 + X) % 18446744073709551616) / 2 ^ 24 % 256 = X / 2 ^ 24 % 256 - 1 := by omega
  have e2 : (18446744073709551615 - X) / 2 ^ 24 % 256 = 255 - X / 2 ^ 24 % 256 := by omega
  have e3 : 9259542123273814144 / 2 ^ 24 % 256 = 128 := by decide
  unfold own_RN
  rw [own_byte_and, own_byte_and, e1, e2, e3]
  exact own_r0 ⟨X / 2 ^ 24 % 256, Nat.mod_lt _ (by decide)⟩ (Nat.one_le_iff_ne_zero.mpr h3)
theorem own_zB3 (X : Nat) (h : X < 18446744073709551616) (h0 : X / 2 ^ 0 % 256 ≠ 0) (h1 : X / 2 ^ 8 % 256 ≠ 0) (h2 : X / 2 ^ 16 % 256 ≠ 0) (h3 : X / 2 ^ 24 % 256 = 0) : own_RN X / 2 ^ 24 % 256 = 128 := by
  have e1 : ((18446744073709551616 - 72340172838076673 + X) % 18446744073709551616) / 2 ^ 24 % 256 = 255 := by omega
  have e2 : (18446744073709551615 - X) / 2 ^ 24 % 256 = 255 := by omega
  have e3 : 9259542123273814144 / 2 ^ 24 % 256 = 128 := by decide
  unfold own_RN
  rw [own_byte_and, own_byte_and, e1, e2, e3]
  decide
theorem own_zC3 (X : Nat) : own_RN X / 2 ^ 24 % 256 = 0 ∨ own_RN X / 2 ^ 24 % 256 = 128 := by
  have e3 : 9259542123273814144 / 2 ^ 24 % 256 = 128 := by decide
  unfold own_RN
  rw [own_byte_and, e3]
  exact own_r1 ⟨_, Nat.mod_lt _ (by decide)⟩
theorem own_zA4 (X : Nat) (h : X < 18446744073709551616) (h0 : X / 2 ^ 0 % 256 ≠ 0) (h1 : X / 2 ^ 8 % 256 ≠ 0) (h2 : X / 2 ^ 16 % 256 ≠ 0) (h3 : X / 2 ^ 24 % 256 ≠ 0) (h4 : X / 2 ^ 32 % 256 ≠ 0) : own_RN X / 2 ^ 32 % 256 = 0 := by
  have e1 : ((18446744073709551616 - 72340172838076673 + X) % 18446744073709551616) / 2 ^ 32 % 256 = X / 2 ^ 32 % 256 - 1 := by omega
  have e2 : (18446744073709551615 - X) / 2 ^ 32 % 256 = 255 - X / 2 ^ 32 % 256 := by omega
  have e3 : 9259542123273814144 / 2 ^ 32 % 256 = 128 := by decide
  unfold own_RN
  rw [own_byte_and, own_byte_and, e1, e2, e3]
  exact own_r0 ⟨X / 2 ^ 32 % 256, Nat.mod_lt _ (by decide)⟩ (Nat.one_le_iff_ne_zero.mpr h4)
theorem own_zB4 (X : Nat) (h : X < 18446744073709551616) (h0 : X / 2 ^ 0 % 256 ≠ 0) (h1 : X / 2 ^ 8 % 256 ≠ 0) (h2 : X / 2 ^ 16 % 256 ≠ 0) (h3 : X / 2 ^ 24 % 256 ≠ 0) (h4 : X / 2 ^ 32 % 256 = 0) : own_RN X / 2 ^ 32 % 256 = 128 := by
  have e1 : ((18446744073709551616 - 72340172838076673 + X) % 18446744073709551616) / 2 ^ 32 % 256 = 255 := by omega
  have e2 : (18446744073709551615 - X) / 2 ^ 32 % 256 = 255 := by omega
  have e3 : 9259542123273814144 / 2 ^ 32 % 256 = 128 := by decide
  unfold own_RN
  rw [own_byte_and, own_byte_and, e1, e2, e3]
  decide
theorem own_zC4 (X : Nat) : own_RN X / 2 ^ 32 % 256 = 0 ∨ own_RN X / 2 ^ 32 % 256 = 128 := by
  have e3 : 9259542123273814144 / 2 ^ 32 % 256 = 128 := by decide
  unfold own_RN
  rw [own_byte_and, e3]
  exact own_r1 ⟨_, Nat.mod_lt _ (by decide)⟩
theorem own_zA5 (X : Nat) (h : X < 18446744073709551616) (h0 : X / 2 ^ 0 % 256 ≠ 0) (h1 : X / 2 ^ 8 % 256 ≠ 0) (h2 : X / 2 ^ 16 % 256 ≠ 0) (h3 : X / 2 ^ 24 % 256 ≠ 0) (h4 : X / 2 ^ 32 % 256 ≠ 0) (h5 : X / 2 ^ 40 % 256 ≠ 0) : own_RN X / 2 ^ 40 % 256 = 0 := by
  have e1 : ((18446744073709551616 - 72340172838076673 + X) % 18446744073709551616) / 2 ^ 40 % 256 = X / 2 ^ 40 % 256 - 1 := by omega
  have e2 : (18446744073709551615 - X) / 2 ^ 40 % 256 = 255 - X / 2 ^ 40 % 256 := by omega
  have e3 : 9259542123273814144 / 2 ^ 40 % 256 = 128 := by decide
  unfold own_RN
  rw [own_byte_and, own_byte_and, e1, e2, e3]
  exact own_r0 ⟨X / 2 ^ 40 % 256, Nat.mod_lt _ (by decide)⟩ (Nat.one_le_iff_ne_zero.mpr h5)
theorem own_zB5 (X : Nat) (h : X < 18446744073709551616) (h0 : X / 2 ^ 0 % 256 ≠ 0) (h1 : X / 2 ^ 8 % 256 ≠ 0) (h2 : X / 2 ^ 16 % 256 ≠ 0) (h3 : X / 2 ^ 24 % 256 ≠ 0) (h4 : X / 2 ^ 32 % 256 ≠ 0) (h5 : X / 2 ^ 40 % 256 = 0) : own_RN X / 2 ^ 40 % 256 = 128 := by
  have e1 : ((18446744073709551616 - 72340172838076673 + X) % 18446744073709551616) / 2 ^ 40 % 256 = 255 := by omega
  have e2 : (18446744073709551615 - X) / 2 ^ 40 % 256 = 255 := by omega
  have e3 : 9259542123273814144 / 2 ^ 40 % 256 = 128 := by decide
  unfold own_RN
  rw [own_byte_and, own_byte_and, e1, e2, e3]
  decide
theorem own_zC5 (X : Nat) : own_RN X / 2 ^ 40 % 256 = 0 ∨ own_RN X / 2 ^ 40 % 256 = 128 := by
  have e3 : 9259542123273814144 / 2 ^ 40 % 256 = 128 := by decide
  unfold own_RN
  rw [own_byte_and, e3]
  exact own_r1 ⟨_, Nat.mod_lt _ (by decide)⟩
theorem own_zA6 (X : Nat) (h : X < 18446744073709551616) (h0 : X / 2 ^ 0 % 256 ≠ 0) (h1 : X / 2 ^ 8 % 256 ≠ 0) (h2 : X / 2 ^ 16 % 256 ≠ 0) (h3 : X / 2 ^ 24 % 256 ≠ 0) (h4 : X / 2 ^ 32 % 256 ≠ 0) (h5 : X / 2 ^ 40 % 256 ≠ 0) (h6 : X / 2 ^ 48 % 256 ≠ 0) : own_RN X / 2 ^ 48 % 256 = 0 := by
  have e1 : ((18446744073709551616 - 72340172838076673 + X) % 18446744073709551616) / 2 ^ 48 % 256 = X / 2 ^ 48 % 256 - 1 := by omega
  have e2 : (18446744073709551615 - X) / 2 ^ 48 % 256 = 255 - X / 2 ^ 48 % 256 := by omega
  have e3 : 9259542123273814144 / 2 ^ 48 % 256 = 128 := by decide
  unfold own_RN
  rw [own_byte_and, own_byte_and, e1, e2, e3]
  exact own_r0 ⟨X / 2 ^ 48 % 256, Nat.mod_lt _ (by decide)⟩ (Nat.one_le_iff_ne_zero.mpr h6)
theorem own_zB6 (X : Nat) (h : X < 18446744073709551616) (h0 : X / 2 ^ 0 % 256 ≠ 0) (h1 : X / 2 ^ 8 % 256 ≠ 0) (h2 : X / 2 ^ 16 % 256 ≠ 0) (h3 : X / 2 ^ 24 % 256 ≠ 0) (h4 : X / 2 ^ 32 % 256 ≠ 0) (h5 : X / 2 ^ 40 % 256 ≠ 0) (h6 : X / 2 ^ 48 % 256 = 0) : own_RN X / 2 ^ 48 % 256 = 128 := by
  have e1 : ((18446744073709551616 - 72340172838076673 + X) % 18446744073709551616) / 2 ^ 48 % 256 = 255 := by omega
  have e2 : (18446744073709551615 - X) / 2 ^ 48 % 256 = 255 := by omega
  have e3 : 9259542123273814144 / 2 ^ 48 % 256 = 128 := by decide
  unfold own_RN
  rw [own_byte_and, own_byte_and, e1, e2, e3]
  decide
theorem own_zC6 (X : Nat) : own_RN X / 2 ^ 48 % 256 = 0 ∨ own_RN X / 2 ^ 48 % 256 = 128 := by
  have e3 : 9259542123273814144 / 2 ^ 48 % 256 = 128 := by decide
  unfold own_RN
  rw [own_byte_and, e3]
  exact own_r1 ⟨_, Nat.mod_lt _ (by decide)⟩
theorem own_zA7 (X : Nat) (h : X < 18446744073709551616) (h0 : X / 2 ^ 0 % 256 ≠ 0) (h1 : X / 2 ^ 8 % 256 ≠ 0) (h2 : X / 2 ^ 16 % 256 ≠ 0) (h3 : X / 2 ^ 24 % 256 ≠ 0) (h4 : X / 2 ^ 32 % 256 ≠ 0) (h5 : X / 2 ^ 40 % 256 ≠ 0) (h6 : X / 2 ^ 48 % 256 ≠ 0) (h7 : X / 2 ^ 56 % 256 ≠ 0) : own_RN X / 2 ^ 56 % 256 = 0 := by
  have e1 : ((18446744073709551616 - 72340172838076673 + X) % 18446744073709551616) / 2 ^ 56 % 256 = X / 2 ^ 56 % 256 - 1 := by omega
  have e2 : (18446744073709551615 - X) / 2 ^ 56 % 256 = 255 - X / 2 ^ 56 % 256 := by omega
  have e3 : 9259542123273814144 / 2 ^ 56 % 256 = 128 := by decide
  unfold own_RN
  rw [own_byte_and, own_byte_and, e1, e2, e3]
  exact own_r0 ⟨X / 2 ^ 56 % 256, Nat.mod_lt _ (by decide)⟩ (Nat.one_le_iff_ne_zero.mpr h7)
theorem own_zB7 (X : Nat) (h : X < 18446744073709551616) (h0 : X / 2 ^ 0 % 256 ≠ 0) (h1 : X / 2 ^ 8 % 256 ≠ 0) (h2 : X / 2 ^ 16 % 256 ≠ 0) (h3 : X / 2 ^ 24 % 256 ≠ 0) (h4 : X / 2 ^ 32 % 256 ≠ 0) (h5 : X / 2 ^ 40 % 256 ≠ 0) (h6 : X / 2 ^ 48 % 256 ≠ 0) (h7 : X / 2 ^ 56 % 256 = 0) : own_RN X / 2 ^ 56 % 256 = 128 := by
  have e1 : ((18446744073709551616 - 72340172838076673 + X) % 18446744073709551616) / 2 ^ 56 % 256 = 255 := by omega
  have e2 : (18446744073709551615 - X) / 2 ^ 56 % 256 = 255 := by omega
  have e3 : 9259542123273814144 / 2 ^ 56 % 256 = 128 := by decide
  unfold own_RN
  rw [own_byte_and, own_byte_and, e1, e2, e3]
  decide
theorem own_zC7 (X : Nat) : own_RN X / 2 ^ 56 % 256 = 0 ∨ own_RN X / 2 ^ 56 % 256 = 128 := by
  have e3 : 9259542123273814144 / 2 ^ 56 % 256 = 128 := by decide
  unfold own_RN
  rw [own_byte_and, e3]
  exact own_r1 ⟨_, Nat.mod_lt _ (by decide)⟩
theorem own_zlt (X : Nat) : own_RN X < 18446744073709551616 := by
  unfold own_RN
  exact Nat.lt_of_le_of_lt Nat.and_le_right (by decide)
theorem own_low : ∀ e0 e1 e2 e3 e4 e5 e6 e7 : Bool, (BitVec.ofNat 64 (128 * (e0.toNat + 256 * (e1.toNat + 256 * (e2.toNat + 256 * (e3.toNat + 256 * (e4.toNat + 256 * (e5.toNat + 256 * (e6.toNat + 256 * e7.toNat))))))))) &&& -(BitVec.ofNat 64 (128 * (e0.toNat + 256 * (e1.toNat + 256 * (e2.toNat + 256 * (e3.toNat + 256 * (e4.toNat + 256 * (e5.toNat + 256 * (e6.toNat + 256 * e7.toNat))))))))) = if e0 then 0x80#64 else if e1 then 0x8000#64 else if e2 then 0x800000#64 else if e3 then 0x80000000#64 else if e4 then 0x8000000000#64 else if e5 then 0x800000000000#64 else if e6 then 0x80000000000000#64 else if e7 then 0x8000000000000000#64 else 0#64 := by decide +kernel
theorem own_bit (n : Nat) (h : n = 0 ∨ n = 128) : n = 128 * (decide (n = 128)).toNat := by
  rcases h with rfl | rfl <;> rfl
theorem own_sum (Y z0 z1 z2 z3 z4 z5 z6 z7 : Nat) (h : Y < 18446744073709551616) (c0 : Y / 2 ^ 0 % 256 = 128 * z0) (c1 : Y / 2 ^ 8 % 256 = 128 * z1) (c2 : Y / 2 ^ 16 % 256 = 128 * z2) (c3 : Y / 2 ^ 24 % 256 = 128 * z3) (c4 : Y / 2 ^ 32 % 256 = 128 * z4) (c5 : Y / 2 ^ 40 % 256 = 128 * z5) (c6 : Y / 2 ^ 48 % 256 = 128 * z6) (c7 : Y / 2 ^ 56 % 256 = 128 * z7) : Y = 128 * ((z0 + 256 * (z1 + 256 * (z2 + 256 * (z3 + 256 * (z4 + 256 * (z5 + 256 * (z6 + 256 * z7)))))))) := by
  omega
theorem own_lowN (X : Nat) : (BitVec.ofNat 64 (own_RN X)) &&& -(BitVec.ofNat 64 (own_RN X)) = if own_RN X / 2 ^ 0 % 256 = 128 then 0x80#64 else if own_RN X / 2 ^ 8 % 256 = 128 then 0x8000#64 else if own_RN X / 2 ^ 16 % 256 = 128 then 0x800000#64 else if own_RN X / 2 ^ 24 % 256 = 128 then 0x80000000#64 else if own_RN X / 2 ^ 32 % 256 = 128 then 0x8000000000#64 else if own_RN X / 2 ^ 40 % 256 = 128 then 0x800000000000#64 else if own_RN X / 2 ^ 48 % 256 = 128 then 0x80000000000000#64 else if own_RN X / 2 ^ 56 % 256 = 128 then 0x8000000000000000#64 else 0#64 := by
  have e := own_sum (own_RN X) _ _ _ _ _ _ _ _ (own_zlt X) (own_bit _ (own_zC0 X)) (own_bit _ (own_zC1 X)) (own_bit _ (own_zC2 X)) (own_bit _ (own_zC3 X)) (own_bit _ (own_zC4 X)) (own_bit _ (own_zC5 X)) (own_bit _ (own_zC6 X)) (own_bit _ (own_zC7 X))
  have q := own_low (decide (own_RN X / 2 ^ 0 % 256 = 128)) (decide (own_RN X / 2 ^ 8 % 256 = 128)) (decide (own_RN X / 2 ^ 16 % 256 = 128)) (decide (own_RN X / 2 ^ 24 % 256 = 128)) (decide (own_RN X / 2 ^ 32 % 256 = 128)) (decide (own_RN X / 2 ^ 40 % 256 = 128)) (decide (own_RN X / 2 ^ 48 % 256 = 128)) (decide (own_RN X / 2 ^ 56 % 256 = 128))
  rw [← e] at q
  rw [q]
  simp only [decide_eq_true_eq]

theorem own_b64 (b : Int32) (h0 : 0 ≤ b.toInt) (h1 : b.toInt < 128) : b.toInt64.toBitVec.toNat = b.toInt.toNat := by
  have e : b.toInt64.toInt = b.toInt := Int32.toInt_toInt64 b
  have hd : b.toInt64.toInt = b.toInt64.toBitVec.toInt := rfl
  rw [hd, BitVec.toInt_eq_toNat_cond] at e
  have := b.toInt64.toBitVec.isLt
  split at e <;> omega
theorem own_XN (w : Int64) (b : Int32) (h0 : 0 ≤ b.toInt) (h1 : b.toInt < 128) : (w ^^^ ((72340172838076673 : Int64) * (b.toInt64))).toBitVec.toNat = w.toBitVec.toNat ^^^ (72340172838076673 * b.toInt.toNat) := by
  show (w.toBitVec ^^^ ((72340172838076673 : Int64).toBitVec * b.toInt64.toBitVec)).toNat = _
  rw [BitVec.toNat_xor, BitVec.toNat_mul, own_b64 b h0 h1]
  have e : (72340172838076673 : Int64).toBitVec.toNat = 72340172838076673 := by decide
  rw [e, Nat.mod_eq_of_lt (by omega)]
theorem own_qN (w : Int64) (b : Int32) : (own_q w b).toBitVec = BitVec.ofNat 64 (own_RN ((w ^^^ ((72340172838076673 : Int64) * (b.toInt64))).toBitVec.toNat)) := by
  unfold own_q
  generalize (w ^^^ ((72340172838076673 : Int64) * (b.toInt64))) = X
  apply BitVec.eq_of_toNat_eq
  rw [BitVec.toNat_ofNat, Nat.mod_eq_of_lt (own_zlt _)]
  show (((X.toBitVec - (72340172838076673 : Int64).toBitVec) &&& (X.toBitVec ^^^ (-1 : Int64).toBitVec)) &&& (-9187201950435737472 : Int64).toBitVec).toNat = _
  have e1 : (-1 : Int64).toBitVec = BitVec.allOnes 64 := by decide
  have e2 : (72340172838076673 : Int64).toBitVec.toNat = 72340172838076673 := by decide
  have e3 : (-9187201950435737472 : Int64).toBitVec.toNat = 9259542123273814144 := by decide
  rw [BitVec.toNat_and, BitVec.toNat_and, BitVec.toNat_sub, e1, BitVec.xor_allOnes, BitVec.toNat_not, e2, e3]
  rfl
theorem own_cb0 : ∀ x : Fin 128, 72340172838076673 * x.val / 2 ^ 0 % 256 = x.val := by decide +kernel
theorem own_xb0 (w : Int64) (b : Int32) (h0 : 0 ≤ b.toInt) (h1 : b.toInt < 128) : (w ^^^ ((72340172838076673 : Int64) * (b.toInt64))).toBitVec.toNat / 2 ^ 0 % 256 = 0 ↔ w.toBitVec.toNat / 2 ^ 0 % 256 = b.toInt.toNat := by
  have e : 72340172838076673 * b.toInt.toNat / 2 ^ 0 % 256 = b.toInt.toNat := own_cb0 ⟨b.toInt.toNat, by omega⟩
  rw [own_XN w b h0 h1, own_byte_xor, e, own_xor0]
theorem own_eqz0 (w : Int64) (b : Int32) (h0 : 0 ≤ b.toInt) (h1 : b.toInt < 128) : own_eq w (0 : Int32) b = (0 : Int32) ↔ (w ^^^ ((72340172838076673 : Int64) * (b.toInt64))).toBitVec.toNat / 2 ^ 0 % 256 ≠ 0 := by
  have q : (((w.toUInt64 >>> (((8 : Int32) * (0 : Int32)) &&& 0x3f).toInt64.toUInt64).toInt64) &&& (255 : Int64)).toBitVec.toNat = w.toBitVec.toNat / 2 ^ 0 % 256 := by
    show ((w.toUInt64 >>> (((8 : Int32) * (0 : Int32)) &&& 0x3f).toInt64.toUInt64).toBitVec &&& (255 : Int64).toBitVec).toNat = _
    have e1 : (255 : Int64).toBitVec.toNat = 2 ^ 8 - 1 := by decide
    have e2 : (((8 : Int32) * (0 : Int32)) &&& 0x3f).toInt64.toUInt64.toNat % 64 = 0 := by decide
    rw [BitVec.toNat_and, e1, Nat.and_two_pow_sub_one_eq_mod]
    show (w.toUInt64 >>> (((8 : Int32) * (0 : Int32)) &&& 0x3f).toInt64.toUInt64).toNat % 2 ^ 8 = _
    rw [UInt64.toNat_shiftRight, e2, Nat.shiftRight_eq_div_pow]
    rfl
  have r := own_b64 b h0 h1
  rw [Ne, own_xb0 w b h0 h1, ← q, ← r]
  unfold own_eq
  constructor
  · intro h z
    rw [if_pos (Int64.toBitVec_inj.mp (BitVec.eq_of_toNat_eq z))] at h
    exact absurd h (by decide)
  · intro h
    rw [if_neg (fun z => h (by rw [z]))]
theorem own_cb1 : ∀ x : Fin 128, 72340172838076673 * x.val / 2 ^ 8 % 256 = x.val := by decide +kernel
theorem own_xb1 (w : Int64) (b : Int32) (h0 : 0 ≤ b.toInt) (h1 : b.toInt < 128) : (w ^^^ ((72340172838076673 : Int64) * (b.toInt64))).toBitVec.toNat / 2 ^ 8 % 256 = 0 ↔ w.toBitVec.toNat / 2 ^ 8 % 256 = b.toInt.toNat := by
  have e : 72340172838076673 * b.toInt.toNat / 2 ^ 8 % 256 = b.toInt.toNat := own_cb1 ⟨b.toInt.toNat, by omega⟩
  rw [own_XN w b h0 h1, own_byte_xor, e, own_xor0]
theorem own_eqz1 (w : Int64) (b : Int32) (h0 : 0 ≤ b.toInt) (h1 : b.toInt < 128) : own_eq w (1 : Int32) b = (0 : Int32) ↔ (w ^^^ ((72340172838076673 : Int64) * (b.toInt64))).toBitVec.toNat / 2 ^ 8 % 256 ≠ 0 := by
  have q : (((w.toUInt64 >>> (((8 : Int32) * (1 : Int32)) &&& 0x3f).toInt64.toUInt64).toInt64) &&& (255 : Int64)).toBitVec.toNat = w.toBitVec.toNat / 2 ^ 8 % 256 := by
    show ((w.toUInt64 >>> (((8 : Int32) * (1 : Int32)) &&& 0x3f).toInt64.toUInt64).toBitVec &&& (255 : Int64).toBitVec).toNat = _
    have e1 : (255 : Int64).toBitVec.toNat = 2 ^ 8 - 1 := by decide
    have e2 : (((8 : Int32) * (1 : Int32)) &&& 0x3f).toInt64.toUInt64.toNat % 64 = 8 := by decide
    rw [BitVec.toNat_and, e1, Nat.and_two_pow_sub_one_eq_mod]
    show (w.toUInt64 >>> (((8 : Int32) * (1 : Int32)) &&& 0x3f).toInt64.toUInt64).toNat % 2 ^ 8 = _
    rw [UInt64.toNat_shiftRight, e2, Nat.shiftRight_eq_div_pow]
    rfl
  have r := own_b64 b h0 h1
  rw [Ne, own_xb1 w b h0 h1, ← q, ← r]
  unfold own_eq
  constructor
  · intro h z
    rw [if_pos (Int64.toBitVec_inj.mp (BitVec.eq_of_toNat_eq z))] at h
    exact absurd h (by decide)
  · intro h
    rw [if_neg (fun z => h (by rw [z]))]
theorem own_cb2 : ∀ x : Fin 128, 72340172838076673 * x.val / 2 ^ 16 % 256 = x.val := by decide +kernel
theorem own_xb2 (w : Int64) (b : Int32) (h0 : 0 ≤ b.toInt) (h1 : b.toInt < 128) : (w ^^^ ((72340172838076673 : Int64) * (b.toInt64))).toBitVec.toNat / 2 ^ 16 % 256 = 0 ↔ w.toBitVec.toNat / 2 ^ 16 % 256 = b.toInt.toNat := by
  have e : 72340172838076673 * b.toInt.toNat / 2 ^ 16 % 256 = b.toInt.toNat := own_cb2 ⟨b.toInt.toNat, by omega⟩
  rw [own_XN w b h0 h1, own_byte_xor, e, own_xor0]
theorem own_eqz2 (w : Int64) (b : Int32) (h0 : 0 ≤ b.toInt) (h1 : b.toInt < 128) : own_eq w (2 : Int32) b = (0 : Int32) ↔ (w ^^^ ((72340172838076673 : Int64) * (b.toInt64))).toBitVec.toNat / 2 ^ 16 % 256 ≠ 0 := by
  have q : (((w.toUInt64 >>> (((8 : Int32) * (2 : Int32)) &&& 0x3f).toInt64.toUInt64).toInt64) &&& (255 : Int64)).toBitVec.toNat = w.toBitVec.toNat / 2 ^ 16 % 256 := by
    show ((w.toUInt64 >>> (((8 : Int32) * (2 : Int32)) &&& 0x3f).toInt64.toUInt64).toBitVec &&& (255 : Int64).toBitVec).toNat = _
    have e1 : (255 : Int64).toBitVec.toNat = 2 ^ 8 - 1 := by decide
    have e2 : (((8 : Int32) * (2 : Int32)) &&& 0x3f).toInt64.toUInt64.toNat % 64 = 16 := by decide
    rw [BitVec.toNat_and, e1, Nat.and_two_pow_sub_one_eq_mod]
    show (w.toUInt64 >>> (((8 : Int32) * (2 : Int32)) &&& 0x3f).toInt64.toUInt64).toNat % 2 ^ 8 = _
    rw [UInt64.toNat_shiftRight, e2, Nat.shiftRight_eq_div_pow]
    rfl
  have r := own_b64 b h0 h1
  rw [Ne, own_xb2 w b h0 h1, ← q, ← r]
  unfold own_eq
  constructor
  · intro h z
    rw [if_pos (Int64.toBitVec_inj.mp (BitVec.eq_of_toNat_eq z))] at h
    exact absurd h (by decide)
  · intro h
    rw [if_neg (fun z => h (by rw [z]))]
theorem own_cb3 : ∀ x : Fin 128, 72340172838076673 * x.val / 2 ^ 24 % 256 = x.val := by decide +kernel
theorem own_xb3 (w : Int64) (b : Int32) (h0 : 0 ≤ b.toInt) (h1 : b.toInt < 128) : (w ^^^ ((72340172838076673 : Int64) * (b.toInt64))).toBitVec.toNat / 2 ^ 24 % 256 = 0 ↔ w.toBitVec.toNat / 2 ^ 24 % 256 = b.toInt.toNat := by
  have e : 72340172838076673 * b.toInt.toNat / 2 ^ 24 % 256 = b.toInt.toNat := own_cb3 ⟨b.toInt.toNat, by omega⟩
  rw [own_XN w b h0 h1, own_byte_xor, e, own_xor0]
theorem own_eqz3 (w : Int64) (b : Int32) (h0 : 0 ≤ b.toInt) (h1 : b.toInt < 128) : own_eq w (3 : Int32) b = (0 : Int32) ↔ (w ^^^ ((72340172838076673 : Int64) * (b.toInt64))).toBitVec.toNat / 2 ^ 24 % 256 ≠ 0 := by
  have q : (((w.toUInt64 >>> (((8 : Int32) * (3 : Int32)) &&& 0x3f).toInt64.toUInt64).toInt64) &&& (255 : Int64)).toBitVec.toNat = w.toBitVec.toNat / 2 ^ 24 % 256 := by
    show ((w.toUInt64 >>> (((8 : Int32) * (3 : Int32)) &&& 0x3f).toInt64.toUInt64).toBitVec &&& (255 : Int64).toBitVec).toNat = _
    have e1 : (255 : Int64).toBitVec.toNat = 2 ^ 8 - 1 := by decide
    have e2 : (((8 : Int32) * (3 : Int32)) &&& 0x3f).toInt64.toUInt64.toNat % 64 = 24 := by decide
    rw [BitVec.toNat_and, e1, Nat.and_two_pow_sub_one_eq_mod]
    show (w.toUInt64 >>> (((8 : Int32) * (3 : Int32)) &&& 0x3f).toInt64.toUInt64).toNat % 2 ^ 8 = _
    rw [UInt64.toNat_shiftRight, e2, Nat.shiftRight_eq_div_pow]
    rfl
  have r := own_b64 b h0 h1
  rw [Ne, own_xb3 w b h0 h1, ← q, ← r]
  unfold own_eq
  constructor
  · intro h z
    rw [if_pos (Int64.toBitVec_inj.mp (BitVec.eq_of_toNat_eq z))] at h
    exact absurd h (by decide)
  · intro h
    rw [if_neg (fun z => h (by rw [z]))]
theorem own_cb4 : ∀ x : Fin 128, 72340172838076673 * x.val / 2 ^ 32 % 256 = x.val := by decide +kernel
theorem own_xb4 (w : Int64) (b : Int32) (h0 : 0 ≤ b.toInt) (h1 : b.toInt < 128) : (w ^^^ ((72340172838076673 : Int64) * (b.toInt64))).toBitVec.toNat / 2 ^ 32 % 256 = 0 ↔ w.toBitVec.toNat / 2 ^ 32 % 256 = b.toInt.toNat := by
  have e : 72340172838076673 * b.toInt.toNat / 2 ^ 32 % 256 = b.toInt.toNat := own_cb4 ⟨b.toInt.toNat, by omega⟩
  rw [own_XN w b h0 h1, own_byte_xor, e, own_xor0]
theorem own_eqz4 (w : Int64) (b : Int32) (h0 : 0 ≤ b.toInt) (h1 : b.toInt < 128) : own_eq w (4 : Int32) b = (0 : Int32) ↔ (w ^^^ ((72340172838076673 : Int64) * (b.toInt64))).toBitVec.toNat / 2 ^ 32 % 256 ≠ 0 := by
  have q : (((w.toUInt64 >>> (((8 : Int32) * (4 : Int32)) &&& 0x3f).toInt64.toUInt64).toInt64) &&& (255 : Int64)).toBitVec.toNat = w.toBitVec.toNat / 2 ^ 32 % 256 := by
    show ((w.toUInt64 >>> (((8 : Int32) * (4 : Int32)) &&& 0x3f).toInt64.toUInt64).toBitVec &&& (255 : Int64).toBitVec).toNat = _
    have e1 : (255 : Int64).toBitVec.toNat = 2 ^ 8 - 1 := by decide
    have e2 : (((8 : Int32) * (4 : Int32)) &&& 0x3f).toInt64.toUInt64.toNat % 64 = 32 := by decide
    rw [BitVec.toNat_and, e1, Nat.and_two_pow_sub_one_eq_mod]
    show (w.toUInt64 >>> (((8 : Int32) * (4 : Int32)) &&& 0x3f).toInt64.toUInt64).toNat % 2 ^ 8 = _
    rw [UInt64.toNat_shiftRight, e2, Nat.shiftRight_eq_div_pow]
    rfl
  have r := own_b64 b h0 h1
  rw [Ne, own_xb4 w b h0 h1, ← q, ← r]
  unfold own_eq
  constructor
  · intro h z
    rw [if_pos (Int64.toBitVec_inj.mp (BitVec.eq_of_toNat_eq z))] at h
    exact absurd h (by decide)
  · intro h
    rw [if_neg (fun z => h (by rw [z]))]
theorem own_cb5 : ∀ x : Fin 128, 72340172838076673 * x.val / 2 ^ 40 % 256 = x.val := by decide +kernel
theorem own_xb5 (w : Int64) (b : Int32) (h0 : 0 ≤ b.toInt) (h1 : b.toInt < 128) : (w ^^^ ((72340172838076673 : Int64) * (b.toInt64))).toBitVec.toNat / 2 ^ 40 % 256 = 0 ↔ w.toBitVec.toNat / 2 ^ 40 % 256 = b.toInt.toNat := by
  have e : 72340172838076673 * b.toInt.toNat / 2 ^ 40 % 256 = b.toInt.toNat := own_cb5 ⟨b.toInt.toNat, by omega⟩
  rw [own_XN w b h0 h1, own_byte_xor, e, own_xor0]
theorem own_eqz5 (w : Int64) (b : Int32) (h0 : 0 ≤ b.toInt) (h1 : b.toInt < 128) : own_eq w (5 : Int32) b = (0 : Int32) ↔ (w ^^^ ((72340172838076673 : Int64) * (b.toInt64))).toBitVec.toNat / 2 ^ 40 % 256 ≠ 0 := by
  have q : (((w.toUInt64 >>> (((8 : Int32) * (5 : Int32)) &&& 0x3f).toInt64.toUInt64).toInt64) &&& (255 : Int64)).toBitVec.toNat = w.toBitVec.toNat / 2 ^ 40 % 256 := by
    show ((w.toUInt64 >>> (((8 : Int32) * (5 : Int32)) &&& 0x3f).toInt64.toUInt64).toBitVec &&& (255 : Int64).toBitVec).toNat = _
    have e1 : (255 : Int64).toBitVec.toNat = 2 ^ 8 - 1 := by decide
    have e2 : (((8 : Int32) * (5 : Int32)) &&& 0x3f).toInt64.toUInt64.toNat % 64 = 40 := by decide
    rw [BitVec.toNat_and, e1, Nat.and_two_pow_sub_one_eq_mod]
    show (w.toUInt64 >>> (((8 : Int32) * (5 : Int32)) &&& 0x3f).toInt64.toUInt64).toNat % 2 ^ 8 = _
    rw [UInt64.toNat_shiftRight, e2, Nat.shiftRight_eq_div_pow]
    rfl
  have r := own_b64 b h0 h1
  rw [Ne, own_xb5 w b h0 h1, ← q, ← r]
  unfold own_eq
  constructor
  · intro h z
    rw [if_pos (Int64.toBitVec_inj.mp (BitVec.eq_of_toNat_eq z))] at h
    exact absurd h (by decide)
  · intro h
    rw [if_neg (fun z => h (by rw [z]))]
theorem own_cb6 : ∀ x : Fin 128, 72340172838076673 * x.val / 2 ^ 48 % 256 = x.val := by decide +kernel
theorem own_xb6 (w : Int64) (b : Int32) (h0 : 0 ≤ b.toInt) (h1 : b.toInt < 128) : (w ^^^ ((72340172838076673 : Int64) * (b.toInt64))).toBitVec.toNat / 2 ^ 48 % 256 = 0 ↔ w.toBitVec.toNat / 2 ^ 48 % 256 = b.toInt.toNat := by
  have e : 72340172838076673 * b.toInt.toNat / 2 ^ 48 % 256 = b.toInt.toNat := own_cb6 ⟨b.toInt.toNat, by omega⟩
  rw [own_XN w b h0 h1, own_byte_xor, e, own_xor0]
theorem own_eqz6 (w : Int64) (b : Int32) (h0 : 0 ≤ b.toInt) (h1 : b.toInt < 128) : own_eq w (6 : Int32) b = (0 : Int32) ↔ (w ^^^ ((72340172838076673 : Int64) * (b.toInt64))).toBitVec.toNat / 2 ^ 48 % 256 ≠ 0 := by
  have q : (((w.toUInt64 >>> (((8 : Int32) * (6 : Int32)) &&& 0x3f).toInt64.toUInt64).toInt64) &&& (255 : Int64)).toBitVec.toNat = w.toBitVec.toNat / 2 ^ 48 % 256 := by
    show ((w.toUInt64 >>> (((8 : Int32) * (6 : Int32)) &&& 0x3f).toInt64.toUInt64).toBitVec &&& (255 : Int64).toBitVec).toNat = _
    have e1 : (255 : Int64).toBitVec.toNat = 2 ^ 8 - 1 := by decide
    have e2 : (((8 : Int32) * (6 : Int32)) &&& 0x3f).toInt64.toUInt64.toNat % 64 = 48 := by decide
    rw [BitVec.toNat_and, e1, Nat.and_two_pow_sub_one_eq_mod]
    show (w.toUInt64 >>> (((8 : Int32) * (6 : Int32)) &&& 0x3f).toInt64.toUInt64).toNat % 2 ^ 8 = _
    rw [UInt64.toNat_shiftRight, e2, Nat.shiftRight_eq_div_pow]
    rfl
  have r := own_b64 b h0 h1
  rw [Ne, own_xb6 w b h0 h1, ← q, ← r]
  unfold own_eq
  constructor
  · intro h z
    rw [if_pos (Int64.toBitVec_inj.mp (BitVec.eq_of_toNat_eq z))] at h
    exact absurd h (by decide)
  · intro h
    rw [if_neg (fun z => h (by rw [z]))]
theorem own_cb7 : ∀ x : Fin 128, 72340172838076673 * x.val / 2 ^ 56 % 256 = x.val := by decide +kernel
theorem own_xb7 (w : Int64) (b : Int32) (h0 : 0 ≤ b.toInt) (h1 : b.toInt < 128) : (w ^^^ ((72340172838076673 : Int64) * (b.toInt64))).toBitVec.toNat / 2 ^ 56 % 256 = 0 ↔ w.toBitVec.toNat / 2 ^ 56 % 256 = b.toInt.toNat := by
  have e : 72340172838076673 * b.toInt.toNat / 2 ^ 56 % 256 = b.toInt.toNat := own_cb7 ⟨b.toInt.toNat, by omega⟩
  rw [own_XN w b h0 h1, own_byte_xor, e, own_xor0]
theorem own_eqz7 (w : Int64) (b : Int32) (h0 : 0 ≤ b.toInt) (h1 : b.toInt < 128) : own_eq w (7 : Int32) b = (0 : Int32) ↔ (w ^^^ ((72340172838076673 : Int64) * (b.toInt64))).toBitVec.toNat / 2 ^ 56 % 256 ≠ 0 := by
  have q : (((w.toUInt64 >>> (((8 : Int32) * (7 : Int32)) &&& 0x3f).toInt64.toUInt64).toInt64) &&& (255 : Int64)).toBitVec.toNat = w.toBitVec.toNat / 2 ^ 56 % 256 := by
    show ((w.toUInt64 >>> (((8 : Int32) * (7 : Int32)) &&& 0x3f).toInt64.toUInt64).toBitVec &&& (255 : Int64).toBitVec).toNat = _
    have e1 : (255 : Int64).toBitVec.toNat = 2 ^ 8 - 1 := by decide
    have e2 : (((8 : Int32) * (7 : Int32)) &&& 0x3f).toInt64.toUInt64.toNat % 64 = 56 := by decide
    rw [BitVec.toNat_and, e1, Nat.and_two_pow_sub_one_eq_mod]
    show (w.toUInt64 >>> (((8 : Int32) * (7 : Int32)) &&& 0x3f).toInt64.toUInt64).toNat % 2 ^ 8 = _
    rw [UInt64.toNat_shiftRight, e2, Nat.shiftRight_eq_div_pow]
    rfl
  have r := own_b64 b h0 h1
  rw [Ne, own_xb7 w b h0 h1, ← q, ← r]
  unfold own_eq
  constructor
  · intro h z
    rw [if_pos (Int64.toBitVec_inj.mp (BitVec.eq_of_toNat_eq z))] at h
    exact absurd h (by decide)
  · intro h
    rw [if_neg (fun z => h (by rw [z]))]
theorem own_fin0 (w : Int64) (b : Int32) (h0 : 0 ≤ b.toInt) (h1 : b.toInt < 128)  (c0 : ¬ own_eq w (0 : Int32) b = (0 : Int32)) : (own_q w b &&& (-own_q w b)) = (128 : Int64) := by
  have g0 := Decidable.of_not_not (fun z => c0 ((own_eqz0 w b h0 h1).mpr z))
  have hl := (w ^^^ ((72340172838076673 : Int64) * (b.toInt64))).toBitVec.isLt
  have q := own_lowN (w ^^^ ((72340172838076673 : Int64) * (b.toInt64))).toBitVec.toNat
  rw [own_zB0 _ hl g0] at q
  rw [if_pos rfl] at q
  rw [← own_qN w b] at q
  exact Int64.toBitVec_inj.mp q
theorem own_fin1 (w : Int64) (b : Int32) (h0 : 0 ≤ b.toInt) (h1 : b.toInt < 128) (c0 : own_eq w (0 : Int32) b = (0 : Int32)) (c1 : ¬ own_eq w (1 : Int32) b = (0 : Int32)) : (own_q w b &&& (-own_q w b)) = (32768 : Int64) := by
  have g0 := (own_eqz0 w b h0 h1).mp c0
  have g1 := Decidable.of_not_not (fun z => c1 ((own_eqz1 w b h0 h1).mpr z))
  have hl := (w ^^^ ((72340172838076673 : Int64) * (b.toInt64))).toBitVec.isLt
  have q := own_lowN (w ^^^ ((72340172838076673 : Int64) * (b.toInt64))).toBitVec.toNat
  rw [own_zA0 _ hl g0] at q
  rw [own_zB1 _ hl g0 g1] at q
  rw [if_neg (by decide), if_pos rfl] at q
  rw [← own_qN w b] at q
  exact Int64.toBitVec_inj.mp q
theorem own_fin2 (w : Int64) (b : Int32) (h0 : 0 ≤ b.toInt) (h1 : b.toInt < 128) (c0 : own_eq w (0 : Int32) b = (0 : Int32)) (c1 : own_eq w (1 : Int32) b = (0 : Int32)) (c2 : ¬ own_eq w (2 : Int32) b = (0 : Int32)) : (own_q w b &&& (-own_q w b)) = (8388608 : Int64) := by
  have g0 := (own_eqz0 w b h0 h1).mp c0
  have g1 := (own_eqz1 w b h0 h1).mp c1
  have g2 := Decidable.of_not_not (fun z => c2 ((own_eqz2 w b h0 h1).mpr z))
  have hl := (w ^^^ ((72340172838076673 : Int64) * (b.toInt64))).toBitVec.isLt
  have q := own_lowN (w ^^^ ((72340172838076673 : Int64) * (b.toInt64))).toBitVec.toNat
  rw [own_zA0 _ hl g0] at q
  rw [own_zA1 _ hl g0 g1] at q
  rw [own_zB2 _ hl g0 g1 g2] at q
  rw [if_neg (by decide), if_neg (by decide), if_pos rfl] at q
  rw [← own_qN w b] at q
  exact Int64.toBitVec_inj.mp q
theorem own_fin3 (w : Int64) (b : Int32) (h0 : 0 ≤ b.toInt) (h1 : b.toInt < 128) (c0 : own_eq w (0 : Int32) b = (0 : Int32)) (c1 : own_eq w (1 : Int32) b = (0 : Int32)) (c2 : own_eq w (2 : Int32) b = (0 : Int32)) (c3 : ¬ own_eq w (3 : Int32) b = (0 : Int32)) : (own_q w b &&& (-own_q w b)) = (2147483648 : Int64) := by
  have g0 := (own_eqz0 w b h0 h1).mp c0
  have g1 := (own_eqz1 w b h0 h1).mp c1
  have g2 := (own_eqz2 w b h0 h1).mp c2
  have g3 := Decidable.of_not_not (fun z => c3 ((own_eqz3 w b h0 h1).mpr z))
  have hl := (w ^^^ ((72340172838076673 : Int64) * (b.toInt64))).toBitVec.isLt
  have q := own_lowN (w ^^^ ((72340172838076673 : Int64) * (b.toInt64))).toBitVec.toNat
  rw [own_zA0 _ hl g0] at q
  rw [own_zA1 _ hl g0 g1] at q
  rw [own_zA2 _ hl g0 g1 g2] at q
  rw [own_zB3 _ hl g0 g1 g2 g3] at q
  rw [if_neg (by decide), if_neg (by decide), if_neg (by decide), if_pos rfl] at q
  rw [← own_qN w b] at q
  exact Int64.toBitVec_inj.mp q
theorem own_fin4 (w : Int64) (b : Int32) (h0 : 0 ≤ b.toInt) (h1 : b.toInt < 128) (c0 : own_eq w (0 : Int32) b = (0 : Int32)) (c1 : own_eq w (1 : Int32) b = (0 : Int32)) (c2 : own_eq w (2 : Int32) b = (0 : Int32)) (c3 : own_eq w (3 : Int32) b = (0 : Int32)) (c4 : ¬ own_eq w (4 : Int32) b = (0 : Int32)) : (own_q w b &&& (-own_q w b)) = (549755813888 : Int64) := by
  have g0 := (own_eqz0 w b h0 h1).mp c0
  have g1 := (own_eqz1 w b h0 h1).mp c1
  have g2 := (own_eqz2 w b h0 h1).mp c2
  have g3 := (own_eqz3 w b h0 h1).mp c3
  have g4 := Decidable.of_not_not (fun z => c4 ((own_eqz4 w b h0 h1).mpr z))
  have hl := (w ^^^ ((72340172838076673 : Int64) * (b.toInt64))).toBitVec.isLt
  have q := own_lowN (w ^^^ ((72340172838076673 : Int64) * (b.toInt64))).toBitVec.toNat
  rw [own_zA0 _ hl g0] at q
  rw [own_zA1 _ hl g0 g1] at q
  rw [own_zA2 _ hl g0 g1 g2] at q
  rw [own_zA3 _ hl g0 g1 g2 g3] at q
  rw [own_zB4 _ hl g0 g1 g2 g3 g4] at q
  rw [if_neg (by decide), if_neg (by decide), if_neg (by decide), if_neg (by decide), if_pos rfl] at q
  rw [← own_qN w b] at q
  exact Int64.toBitVec_inj.mp q
theorem own_fin5 (w : Int64) (b : Int32) (h0 : 0 ≤ b.toInt) (h1 : b.toInt < 128) (c0 : own_eq w (0 : Int32) b = (0 : Int32)) (c1 : own_eq w (1 : Int32) b = (0 : Int32)) (c2 : own_eq w (2 : Int32) b = (0 : Int32)) (c3 : own_eq w (3 : Int32) b = (0 : Int32)) (c4 : own_eq w (4 : Int32) b = (0 : Int32)) (c5 : ¬ own_eq w (5 : Int32) b = (0 : Int32)) : (own_q w b &&& (-own_q w b)) = (140737488355328 : Int64) := by
  have g0 := (own_eqz0 w b h0 h1).mp c0
  have g1 := (own_eqz1 w b h0 h1).mp c1
  have g2 := (own_eqz2 w b h0 h1).mp c2
  have g3 := (own_eqz3 w b h0 h1).mp c3
  have g4 := (own_eqz4 w b h0 h1).mp c4
  have g5 := Decidable.of_not_not (fun z => c5 ((own_eqz5 w b h0 h1).mpr z))
  have hl := (w ^^^ ((72340172838076673 : Int64) * (b.toInt64))).toBitVec.isLt
  have q := own_lowN (w ^^^ ((72340172838076673 : Int64) * (b.toInt64))).toBitVec.toNat
  rw [own_zA0 _ hl g0] at q
  rw [own_zA1 _ hl g0 g1] at q
  rw [own_zA2 _ hl g0 g1 g2] at q
  rw [own_zA3 _ hl g0 g1 g2 g3] at q
  rw [own_zA4 _ hl g0 g1 g2 g3 g4] at q
  rw [own_zB5 _ hl g0 g1 g2 g3 g4 g5] at q
  rw [if_neg (by decide), if_neg (by decide), if_neg (by decide), if_neg (by decide), if_neg (by decide), if_pos rfl] at q
  rw [← own_qN w b] at q
  exact Int64.toBitVec_inj.mp q
theorem own_fin6 (w : Int64) (b : Int32) (h0 : 0 ≤ b.toInt) (h1 : b.toInt < 128) (c0 : own_eq w (0 : Int32) b = (0 : Int32)) (c1 : own_eq w (1 : Int32) b = (0 : Int32)) (c2 : own_eq w (2 : Int32) b = (0 : Int32)) (c3 : own_eq w (3 : Int32) b = (0 : Int32)) (c4 : own_eq w (4 : Int32) b = (0 : Int32)) (c5 : own_eq w (5 : Int32) b = (0 : Int32)) (c6 : ¬ own_eq w (6 : Int32) b = (0 : Int32)) : (own_q w b &&& (-own_q w b)) = (36028797018963968 : Int64) := by
  have g0 := (own_eqz0 w b h0 h1).mp c0
  have g1 := (own_eqz1 w b h0 h1).mp c1
  have g2 := (own_eqz2 w b h0 h1).mp c2
  have g3 := (own_eqz3 w b h0 h1).mp c3
  have g4 := (own_eqz4 w b h0 h1).mp c4
  have g5 := (own_eqz5 w b h0 h1).mp c5
  have g6 := Decidable.of_not_not (fun z => c6 ((own_eqz6 w b h0 h1).mpr z))
  have hl := (w ^^^ ((72340172838076673 : Int64) * (b.toInt64))).toBitVec.isLt
  have q := own_lowN (w ^^^ ((72340172838076673 : Int64) * (b.toInt64))).toBitVec.toNat
  rw [own_zA0 _ hl g0] at q
  rw [own_zA1 _ hl g0 g1] at q
  rw [own_zA2 _ hl g0 g1 g2] at q
  rw [own_zA3 _ hl g0 g1 g2 g3] at q
  rw [own_zA4 _ hl g0 g1 g2 g3 g4] at q
  rw [own_zA5 _ hl g0 g1 g2 g3 g4 g5] at q
  rw [own_zB6 _ hl g0 g1 g2 g3 g4 g5 g6] at q
  rw [if_neg (by decide), if_neg (by decide), if_neg (by decide), if_neg (by decide), if_neg (by decide), if_neg (by decide), if_pos rfl] at q
  rw [← own_qN w b] at q
  exact Int64.toBitVec_inj.mp q
theorem own_fin7 (w : Int64) (b : Int32) (h0 : 0 ≤ b.toInt) (h1 : b.toInt < 128) (c0 : own_eq w (0 : Int32) b = (0 : Int32)) (c1 : own_eq w (1 : Int32) b = (0 : Int32)) (c2 : own_eq w (2 : Int32) b = (0 : Int32)) (c3 : own_eq w (3 : Int32) b = (0 : Int32)) (c4 : own_eq w (4 : Int32) b = (0 : Int32)) (c5 : own_eq w (5 : Int32) b = (0 : Int32)) (c6 : own_eq w (6 : Int32) b = (0 : Int32)) (c7 : ¬ own_eq w (7 : Int32) b = (0 : Int32)) : (own_q w b &&& (-own_q w b)) = (-9223372036854775808 : Int64) := by
  have g0 := (own_eqz0 w b h0 h1).mp c0
  have g1 := (own_eqz1 w b h0 h1).mp c1
  have g2 := (own_eqz2 w b h0 h1).mp c2
  have g3 := (own_eqz3 w b h0 h1).mp c3
  have g4 := (own_eqz4 w b h0 h1).mp c4
  have g5 := (own_eqz5 w b h0 h1).mp c5
  have g6 := (own_eqz6 w b h0 h1).mp c6
  have g7 := Decidable.of_not_not (fun z => c7 ((own_eqz7 w b h0 h1).mpr z))
  have hl := (w ^^^ ((72340172838076673 : Int64) * (b.toInt64))).toBitVec.isLt
  have q := own_lowN (w ^^^ ((72340172838076673 : Int64) * (b.toInt64))).toBitVec.toNat
  rw [own_zA0 _ hl g0] at q
  rw [own_zA1 _ hl g0 g1] at q
  rw [own_zA2 _ hl g0 g1 g2] at q
  rw [own_zA3 _ hl g0 g1 g2 g3] at q
  rw [own_zA4 _ hl g0 g1 g2 g3 g4] at q
  rw [own_zA5 _ hl g0 g1 g2 g3 g4 g5] at q
  rw [own_zA6 _ hl g0 g1 g2 g3 g4 g5 g6] at q
  rw [own_zB7 _ hl g0 g1 g2 g3 g4 g5 g6 g7] at q
  rw [if_neg (by decide), if_neg (by decide), if_neg (by decide), if_neg (by decide), if_neg (by decide), if_neg (by decide), if_neg (by decide), if_pos rfl] at q
  rw [← own_qN w b] at q
  exact Int64.toBitVec_inj.mp q
theorem own_fin8 (w : Int64) (b : Int32) (h0 : 0 ≤ b.toInt) (h1 : b.toInt < 128) (c0 : own_eq w (0 : Int32) b = (0 : Int32)) (c1 : own_eq w (1 : Int32) b = (0 : Int32)) (c2 : own_eq w (2 : Int32) b = (0 : Int32)) (c3 : own_eq w (3 : Int32) b = (0 : Int32)) (c4 : own_eq w (4 : Int32) b = (0 : Int32)) (c5 : own_eq w (5 : Int32) b = (0 : Int32)) (c6 : own_eq w (6 : Int32) b = (0 : Int32)) (c7 : own_eq w (7 : Int32) b = (0 : Int32)) : (own_q w b &&& (-own_q w b)) = (0 : Int64) := by
  have g0 := (own_eqz0 w b h0 h1).mp c0
  have g1 := (own_eqz1 w b h0 h1).mp c1
  have g2 := (own_eqz2 w b h0 h1).mp c2
  have g3 := (own_eqz3 w b h0 h1).mp c3
  have g4 := (own_eqz4 w b h0 h1).mp c4
  have g5 := (own_eqz5 w b h0 h1).mp c5
  have g6 := (own_eqz6 w b h0 h1).mp c6
  have g7 := (own_eqz7 w b h0 h1).mp c7
  have hl := (w ^^^ ((72340172838076673 : Int64) * (b.toInt64))).toBitVec.isLt
  have q := own_lowN (w ^^^ ((72340172838076673 : Int64) * (b.toInt64))).toBitVec.toNat
  rw [own_zA0 _ hl g0] at q
  rw [own_zA1 _ hl g0 g1] at q
  rw [own_zA2 _ hl g0 g1 g2] at q
  rw [own_zA3 _ hl g0 g1 g2 g3] at q
  rw [own_zA4 _ hl g0 g1 g2 g3 g4] at q
  rw [own_zA5 _ hl g0 g1 g2 g3 g4 g5] at q
  rw [own_zA6 _ hl g0 g1 g2 g3 g4 g5 g6] at q
  rw [own_zA7 _ hl g0 g1 g2 g3 g4 g5 g6 g7] at q
  rw [if_neg (by decide), if_neg (by decide), if_neg (by decide), if_neg (by decide), if_neg (by decide), if_neg (by decide), if_neg (by decide), if_neg (by decide)] at q
  rw [← own_qN w b] at q
  exact Int64.toBitVec_inj.mp q
theorem own_qm (w : Int64) (b : Int32) : (own_q w b &&& (9187201950435737471 : Int64)) = (0 : Int64) := by
  unfold own_q
  rw [Int64.and_assoc]
  have e : ((-9187201950435737472 : Int64) &&& (9187201950435737471 : Int64)) = 0 := by decide
  rw [e, Int64.and_zero]
theorem own_b7 (x : Int32) : 0 ≤ (x &&& (127 : Int32)).toInt ∧ (x &&& (127 : Int32)).toInt < 128 := by
  have h := Jvm.Kit.i32_mask x 127 (k := 7) (by decide) (by decide)
  omega

theorem pd_0 : parseMethodDescriptor "(II)J" = some ⟨[.int, .int], some .long⟩ := by decide +kernel
theorem pd_1 : parseMethodDescriptor "(JI)J" = some ⟨[.long, .int], some .long⟩ := by decide +kernel
theorem pd_2 : parseMethodDescriptor "(JII)Z" = some ⟨[.long, .int, .int], some .boolean⟩ := by decide +kernel
def Q0 (Z : State) (u0 : Int64) (u1 : Int32) (u2 : Int32)  (h0 : Heap) (n0 : Nat) (v : Option Value) (h : Heap) (L : List Loc) : Prop := v = some (.int 1) ∧ Fr n0 L
theorem ef_rm0 (m : MethodId) (u0 : Int64) (u1 : Int32) (u2 : Int32) : entryFrame m #[(.long u0), (.int u1), (.int u2)] maxLocals = mkF m 0 #[.val (.long u0), .second, iv u1, iv u2, .unset, .unset, .unset, .unset, .unset, .unset, .unset, .unset, .unset, .unset, .unset] [] := by first | (simp [entryFrame, mkF, argsToLocals, Value.category, maxLocals]; done) | rfl
set_option maxRecDepth 65536 in
set_option maxHeartbeats 40000000 in
theorem rm0 (l : Launch) (Z : State) (a0 : Array Value) (hw : ∀ d ∈ tables_1, d.before a0 Z = true) (ws : List Jvm.Cond) (u0 : Int64) (u1 : Int32) (u2 : Int32)  (h0 : Heap) (n0 : Nat) (Z0 : n0 ≤ h0.size) :
    MetFree l x (head1 (Jvm.Cond.code x code maxLocals ret :: ws) room_1) (fun a U => a = #[(.long u0), (.int u1), (.int u2)] ∧ Z.Warmed39 U.vm ∧ U.heap = h0) (fun _ _ _ _ _ => True) (fun _ U o U' => ∃ v L, o = .returned v ∧ Q0 Z u0 u1 u2 h0 n0 v U'.heap L ∧ FrameEnd U o U' L room_1.cells room_1.slots) := by
  refine MetFree.of_bodySF (plainFor_of_name pn_0) hisR ?_
  intro p e s m args below meth c s₁ Bd hml0 hP hK
  obtain ⟨rfl, hZ, hh⟩ := hP
  have hx := Bd.exec
  have hby := Bd.bytes
  have hml : c.maxLocals = 15 := hml0
  have hown : s.vm.findClass "com/example/rivanna/rivanna/core/json/EightBytesEqualToPinLaw" = some m.cls := findClass_of_methodNamed Bd.named
  have hnm := (name_of_methodNamed Bd.named Bd.method).1
  have X0 : Stand p l e room_1 s m #[(.long u0), (.int u1), (.int u2)] below meth c s₁ [] 0 0 := Stand.of_body Bd
  have e0 : s₁.heap = h0 := by rw [← hh, Bd.state]; rfl
  have N0 := Fr.nil n0
  have S0 : ∀ t, Steps p.tables e below (s₁.setTop (mkF m 0 #[.val (.long u0), .second, iv u1, iv u2, .unset, .unset, .unset, .unset, .unset, .unset, .unset, .unset, .unset, .unset, .unset] [])) t → Steps p.tables e below (s₁.setTop (entryFrame m #[(.long u0), (.int u1), (.int u2)] maxLocals)) t := fun t k => castTop (ef_rm0 m u0 u1 u2) k
  have S1 : ∀ t, Steps p.tables e below (s₁.setTop (mkF m 6 #[.val (.long u0), .second, iv u1, iv u2, iv (u1 &&& (127 : Int32)), .unset, .unset, .unset, .unset, .unset, .unset, .unset, .unset, .unset, .unset] [])) t → Steps p.tables e below (s₁.setTop (entryFrame m #[(.long u0), (.int u1), (.int u2)] maxLocals)) t := by
    intro t k
    refine S0 t ?_
    show Steps p.tables e below (s₁.setTop (mkF m 0 #[.val (.long u0), .second, iv u1, iv u2, .unset, .unset, .unset, .unset, .unset, .unset, .unset, .unset, .unset, .unset, .unset] [])) _
    refine XS.iloadN X0.here hx rfl (hb hby at_0) rfl ?_
    show Steps p.tables e below (s₁.setTop (mkF m 1 #[.val (.long u0), .second, iv u1, iv u2, .unset, .unset, .unset, .unset, .unset, .unset, .unset, .unset, .unset, .unset, .unset] [(.int u1)])) _
    refine XS.bipush X0.here hx rfl (hb hby at_1) ?_
    show Steps p.tables e below (s₁.setTop (mkF m 3 #[.val (.long u0), .second, iv u1, iv u2, .unset, .unset, .unset, .unset, .unset, .unset, .unset, .unset, .unset, .unset, .unset] [(.int (127 : Int32)), (.int u1)])) _
    refine XS.iand X0.here hx rfl (hb hby at_3) rfl ?_
    show Steps p.tables e below (s₁.setTop (mkF m 4 #[.val (.long u0), .second, iv u1, iv u2, .unset, .unset, .unset, .unset, .unset, .unset, .unset, .unset, .unset, .unset, .unset] [(.int (u1 &&& (127 : Int32)))])) _
    refine XS.istore X0.here hx rfl (hb hby at_4) rfl (l' := #[.val (.long u0), .second, iv u1, iv u2, iv (u1 &&& (127 : Int32)), .unset, .unset, .unset, .unset, .unset, .unset, .unset, .unset, .unset, .unset]) rfl ?_
    exact k
  obtain ⟨bb, e_bb⟩ : ∃ z : Int32, z = (u1 &&& (127 : Int32)) := ⟨_, rfl⟩
  rw [← e_bb] at S1
  have hb7 : 0 ≤ bb.toInt ∧ bb.toInt < 128 := by rw [e_bb]; exact own_b7 _
  obtain ⟨_, _, ⟨T2, L2, k2, n2⟩, -, X2, ⟨Lc2, hQ2, l2, y2, z2⟩, st2⟩ := Jvm.LawKit.callS X0 hx (y := (⟨"com/example/rivanna/rivanna/core/json/EightBytesEqualToPinLaw", "m", "(II)J"⟩ : MethodName)) hown (mvT hZ (hw _ (List.mem_of_getElem? (i := 0) rfl))) (mvT hZ (hw _ (List.mem_of_getElem? (i := 1) rfl))) (mvT hZ (hw _ (List.mem_of_getElem? (i := 2) rfl))) (mvT hZ (hw _ (List.mem_of_getElem? (i := 3) rfl))) (by decide) (backOf (W := 0) (rm1 l Z a0 hw [] u2 (0 : Int32) h0 n0 Z0) hZ (hw _ (List.mem_of_getElem? (i := 3) rfl)) (hw _ (List.mem_of_getElem? (i := 2) rfl)) (by decide) (by decide)) (g := (mkF m 8 #[.val (.long u0), .second, iv u1, iv u2, iv bb, .unset, .unset, .unset, .unset, .unset, .unset, .unset, .unset, .unset, .unset] [(.int (0 : Int32)), (.int u2)])) rfl (by rw [hml]; rfl) (argsL := [(.int u2), (.int (0 : Int32))]) (rest := []) (lenOf pd_0 rfl) rfl (by show 2 * 0 + _ ≤ _; exact Nat.le_of_eq rfl) (hb hby at_8) (fun _ _ => ⟨rfl, e0, (by decide : 0 + 0 ≤ _), (by decide : 0 + 0 ≤ _)⟩)
  dsimp only [Pt.U, Pt.locs, Pt.cells, Pt.slots] at X2 l2 y2 z2 st2 hQ2
  subst l2 y2 z2
  obtain ⟨rfl, Nq2, eq2⟩ := hQ2
  have N2 := Fr.app N0 Nq2
  obtain ⟨_, _, ⟨T3, L3, k3, n3⟩, -, X3, ⟨Lc3, hQ3, l3, y3, z3⟩, st3⟩ := Jvm.LawKit.callS X2 hx (y := (⟨"com/example/rivanna/rivanna/core/json/EightBytesEqualToPinLaw", "m", "(II)J"⟩ : MethodName)) hown (mvT hZ (hw _ (List.mem_of_getElem? (i := 0) rfl))) (mvT hZ (hw _ (List.mem_of_getElem? (i := 1) rfl))) (mvT hZ (hw _ (List.mem_of_getElem? (i := 2) rfl))) (mvT hZ (hw _ (List.mem_of_getElem? (i := 3) rfl))) (by decide) (backOf (W := 2) (rm1 l Z a0 hw [] u2 (1 : Int32) h0 n0 Z0) hZ (hw _ (List.mem_of_getElem? (i := 3) rfl)) (hw _ (List.mem_of_getElem? (i := 2) rfl)) (by decide) (by decide)) (g := (mkF m 13 #[.val (.long u0), .second, iv u1, iv u2, iv bb, .unset, .unset, .unset, .unset, .unset, .unset, .unset, .unset, .unset, .unset] [(.int (1 : Int32)), (.int u2), (.long (own_m u2 (0 : Int32)))])) rfl (by rw [hml]; rfl) (argsL := [(.int u2), (.int (1 : Int32))]) (rest := [(.long (own_m u2 (0 : Int32)))]) (lenOf pd_0 rfl) rfl (by show 2 * 0 + _ ≤ _; exact Nat.le_of_eq rfl) (hb hby at_13) (fun _ _ => ⟨rfl, eq2, (by decide : 0 + 0 ≤ _), (by decide : 0 + 0 ≤ _)⟩)
  dsimp only [Pt.U, Pt.locs, Pt.cells, Pt.slots] at X3 l3 y3 z3 st3 hQ3
  subst l3 y3 z3
  obtain ⟨rfl, Nq3, eq3⟩ := hQ3
  have N3 := Fr.app N2 Nq3
  obtain ⟨_, _, ⟨T4, L4, k4, n4⟩, -, X4, ⟨Lc4, hQ4, l4, y4, z4⟩, st4⟩ := Jvm.LawKit.callS X3 hx (y := (⟨"com/example/rivanna/rivanna/core/json/EightBytesEqualToPinLaw", "m", "(II)J"⟩ : MethodName)) hown (mvT hZ (hw _ (List.mem_of_getElem? (i := 0) rfl))) (mvT hZ (hw _ (List.mem_of_getElem? (i := 1) rfl))) (mvT hZ (hw _ (List.mem_of_getElem? (i := 2) rfl))) (mvT hZ (hw _ (List.mem_of_getElem? (i := 3) rfl))) (by decide) (backOf (W := 2) (rm1 l Z a0 hw [] u2 (2 : Int32) h0 n0 Z0) hZ (hw _ (List.mem_of_getElem? (i := 3) rfl)) (hw _ (List.mem_of_getElem? (i := 2) rfl)) (by decide) (by decide)) (g := (mkF m 19 #[.val (.long u0), .second, iv u1, iv u2, iv bb, .unset, .unset, .unset, .unset, .unset, .unset, .unset, .unset, .unset, .unset] [(.int (2 : Int32)), (.int u2), (.long ((own_m u2 (0 : Int32)) ||| (own_m u2 (1 : Int32))))])) rfl (by rw [hml]; rfl) (argsL := [(.int u2), (.int (2 : Int32))]) (rest := [(.long ((own_m u2 (0 : Int32)) ||| (own_m u2 (1 : Int32))))]) (lenOf pd_0 rfl) rfl (by show 2 * 0 + _ ≤ _; exact Nat.le_of_eq rfl) (hb hby at_19) (fun _ _ => ⟨rfl, eq3, (by decide : 0 + 0 ≤ _), (by decide : 0 + 0 ≤ _)⟩)
  dsimp only [Pt.U, Pt.locs, Pt.cells, Pt.slots] at X4 l4 y4 z4 st4 hQ4
  subst l4 y4 z4
  obtain ⟨rfl, Nq4, eq4⟩ := hQ4
  have N4 := Fr.app N3 Nq4
  obtain ⟨_, _, ⟨T5, L5, k5, n5⟩, -, X5, ⟨Lc5, hQ5, l5, y5, z5⟩, st5⟩ := Jvm.LawKit.callS X4 hx (y := (⟨"com/example/rivanna/rivanna/core/json/EightBytesEqualToPinLaw", "m", "(II)J"⟩ : MethodName)) hown (mvT hZ (hw _ (List.mem_of_getElem? (i := 0) rfl))) (mvT hZ (hw _ (List.mem_of_getElem? (i := 1) rfl))) (mvT hZ (hw _ (List.mem_of_getElem? (i := 2) rfl))) (mvT hZ (hw _ (List.mem_of_getElem? (i := 3) rfl))) (by decide) (backOf (W := 2) (rm1 l Z a0 hw [] u2 (3 : Int32) h0 n0 Z0) hZ (hw _ (List.mem_of_getElem? (i := 3) rfl)) (hw _ (List.mem_of_getElem? (i := 2) rfl)) (by decide) (by decide)) (g := (mkF m 25 #[.val (.long u0), .second, iv u1, iv u2, iv bb, .unset, .unset, .unset, .unset, .unset, .unset, .unset, .unset, .unset, .unset] [(.int (3 : Int32)), (.int u2), (.long (((own_m u2 (0 : Int32)) ||| (own_m u2 (1 : Int32))) ||| (own_m u2 (2 : Int32))))])) rfl (by rw [hml]; rfl) (argsL := [(.int u2), (.int (3 : Int32))]) (rest := [(.long (((own_m u2 (0 : Int32)) ||| (own_m u2 (1 : Int32))) ||| (own_m u2 (2 : Int32))))]) (lenOf pd_0 rfl) rfl (by show 2 * 0 + _ ≤ _; exact Nat.le_of_eq rfl) (hb hby at_25) (fun _ _ => ⟨rfl, eq4, (by decide : 0 + 0 ≤ _), (by decide : 0 + 0 ≤ _)⟩)
  dsimp only [Pt.U, Pt.locs, Pt.cells, Pt.slots] at X5 l5 y5 z5 st5 hQ5
  subst l5 y5 z5
  obtain ⟨rfl, Nq5, eq5⟩ := hQ5
  have N5 := Fr.app N4 Nq5
  obtain ⟨_, _, ⟨T6, L6, k6, n6⟩, -, X6, ⟨Lc6, hQ6, l6, y6, z6⟩, st6⟩ := Jvm.LawKit.callS X5 hx (y := (⟨"com/example/rivanna/rivanna/core/json/EightBytesEqualToPinLaw", "m", "(II)J"⟩ : MethodName)) hown (mvT hZ (hw _ (List.mem_of_getElem? (i := 0) rfl))) (mvT hZ (hw _ (List.mem_of_getElem? (i := 1) rfl))) (mvT hZ (hw _ (List.mem_of_getElem? (i := 2) rfl))) (mvT hZ (hw _ (List.mem_of_getElem? (i := 3) rfl))) (by decide) (backOf (W := 2) (rm1 l Z a0 hw [] u2 (4 : Int32) h0 n0 Z0) hZ (hw _ (List.mem_of_getElem? (i := 3) rfl)) (hw _ (List.mem_of_getElem? (i := 2) rfl)) (by decide) (by decide)) (g := (mkF m 31 #[.val (.long u0), .second, iv u1, iv u2, iv bb, .unset, .unset, .unset, .unset, .unset, .unset, .unset, .unset, .unset, .unset] [(.int (4 : Int32)), (.int u2), (.long ((((own_m u2 (0 : Int32)) ||| (own_m u2 (1 : Int32))) ||| (own_m u2 (2 : Int32))) ||| (own_m u2 (3 : Int32))))])) rfl (by rw [hml]; rfl) (argsL := [(.int u2), (.int (4 : Int32))]) (rest := [(.long ((((own_m u2 (0 : Int32)) ||| (own_m u2 (1 : Int32))) ||| (own_m u2 (2 : Int32))) ||| (own_m u2 (3 : Int32))))]) (lenOf pd_0 rfl) rfl (by show 2 * 0 + _ ≤ _; exact Nat.le_of_eq rfl) (hb hby at_31) (fun _ _ => ⟨rfl, eq5, (by decide : 0 + 0 ≤ _), (by decide : 0 + 0 ≤ _)⟩)
  dsimp only [Pt.U, Pt.locs, Pt.cells, Pt.slots] at X6 l6 y6 z6 st6 hQ6
  subst l6 y6 z6
  obtain ⟨rfl, Nq6, eq6⟩ := hQ6
  have N6 := Fr.app N5 Nq6
  obtain ⟨_, _, ⟨T7, L7, k7, n7⟩, -, X7, ⟨Lc7, hQ7, l7, y7, z7⟩, st7⟩ := Jvm.LawKit.callS X6 hx (y := (⟨"com/example/rivanna/rivanna/core/json/EightBytesEqualToPinLaw", "m", "(II)J"⟩ : MethodName)) hown (mvT hZ (hw _ (List.mem_of_getElem? (i := 0) rfl))) (mvT hZ (hw _ (List.mem_of_getElem? (i := 1) rfl))) (mvT hZ (hw _ (List.mem_of_getElem? (i := 2) rfl))) (mvT hZ (hw _ (List.mem_of_getElem? (i := 3) rfl))) (by decide) (backOf (W := 2) (rm1 l Z a0 hw [] u2 (5 : Int32) h0 n0 Z0) hZ (hw _ (List.mem_of_getElem? (i := 3) rfl)) (hw _ (List.mem_of_getElem? (i := 2) rfl)) (by decide) (by decide)) (g := (mkF m 37 #[.val (.long u0), .second, iv u1, iv u2, iv bb, .unset, .unset, .unset, .unset, .unset, .unset, .unset, .unset, .unset, .unset] [(.int (5 : Int32)), (.int u2), (.long (((((own_m u2 (0 : Int32)) ||| (own_m u2 (1 : Int32))) ||| (own_m u2 (2 : Int32))) ||| (own_m u2 (3 : Int32))) ||| (own_m u2 (4 : Int32))))])) rfl (by rw [hml]; rfl) (argsL := [(.int u2), (.int (5 : Int32))]) (rest := [(.long (((((own_m u2 (0 : Int32)) ||| (own_m u2 (1 : Int32))) ||| (own_m u2 (2 : Int32))) ||| (own_m u2 (3 : Int32))) ||| (own_m u2 (4 : Int32))))]) (lenOf pd_0 rfl) rfl (by show 2 * 0 + _ ≤ _; exact Nat.le_of_eq rfl) (hb hby at_37) (fun _ _ => ⟨rfl, eq6, (by decide : 0 + 0 ≤ _), (by decide : 0 + 0 ≤ _)⟩)
  dsimp only [Pt.U, Pt.locs, Pt.cells, Pt.slots] at X7 l7 y7 z7 st7 hQ7
  subst l7 y7 z7
  obtain ⟨rfl, Nq7, eq7⟩ := hQ7
  have N7 := Fr.app N6 Nq7
  obtain ⟨_, _, ⟨T8, L8, k8, n8⟩, -, X8, ⟨Lc8, hQ8, l8, y8, z8⟩, st8⟩ := Jvm.LawKit.callS X7 hx (y := (⟨"com/example/rivanna/rivanna/core/json/EightBytesEqualToPinLaw", "m", "(II)J"⟩ : MethodName)) hown (mvT hZ (hw _ (List.mem_of_getElem? (i := 0) rfl))) (mvT hZ (hw _ (List.mem_of_getElem? (i := 1) rfl))) (mvT hZ (hw _ (List.mem_of_getElem? (i := 2) rfl))) (mvT hZ (hw _ (List.mem_of_getElem? (i := 3) rfl))) (by decide) (backOf (W := 2) (rm1 l Z a0 hw [] u2 (6 : Int32) h0 n0 Z0) hZ (hw _ (List.mem_of_getElem? (i := 3) rfl)) (hw _ (List.mem_of_getElem? (i := 2) rfl)) (by decide) (by decide)) (g := (mkF m 44 #[.val (.long u0), .second, iv u1, iv u2, iv bb, .unset, .unset, .unset, .unset, .unset, .unset, .unset, .unset, .unset, .unset] [(.int (6 : Int32)), (.int u2), (.long ((((((own_m u2 (0 : Int32)) ||| (own_m u2 (1 : Int32))) ||| (own_m u2 (2 : Int32))) ||| (own_m u2 (3 : Int32))) ||| (own_m u2 (4 : Int32))) ||| (own_m u2 (5 : Int32))))])) rfl (by rw [hml]; rfl) (argsL := [(.int u2), (.int (6 : Int32))]) (rest := [(.long ((((((own_m u2 (0 : Int32)) ||| (own_m u2 (1 : Int32))) ||| (own_m u2 (2 : Int32))) ||| (own_m u2 (3 : Int32))) ||| (own_m u2 (4 : Int32))) ||| (own_m u2 (5 : Int32))))]) (lenOf pd_0 rfl) rfl (by show 2 * 0 + _ ≤ _; exact Nat.le_of_eq rfl) (hb hby at_44) (fun _ _ => ⟨rfl, eq7, (by decide : 0 + 0 ≤ _), (by decide : 0 + 0 ≤ _)⟩)
  dsimp only [Pt.U, Pt.locs, Pt.cells, Pt.slots] at X8 l8 y8 z8 st8 hQ8
  subst l8 y8 z8
  obtain ⟨rfl, Nq8, eq8⟩ := hQ8
  have N8 := Fr.app N7 Nq8
  obtain ⟨_, _, ⟨T9, L9, k9, n9⟩, -, X9, ⟨Lc9, hQ9, l9, y9, z9⟩, st9⟩ := Jvm.LawKit.callS X8 hx (y := (⟨"com/example/rivanna/rivanna/core/json/EightBytesEqualToPinLaw", "m", "(II)J"⟩ : MethodName)) hown (mvT hZ (hw _ (List.mem_of_getElem? (i := 0) rfl))) (mvT hZ (hw _ (List.mem_of_getElem? (i := 1) rfl))) (mvT hZ (hw _ (List.mem_of_getElem? (i := 2) rfl))) (mvT hZ (hw _ (List.mem_of_getElem? (i := 3) rfl))) (by decide) (backOf (W := 2) (rm1 l Z a0 hw [] u2 (7 : Int32) h0 n0 Z0) hZ (hw _ (List.mem_of_getElem? (i := 3) rfl)) (hw _ (List.mem_of_getElem? (i := 2) rfl)) (by decide) (by decide)) (g := (mkF m 51 #[.val (.long u0), .second, iv u1, iv u2, iv bb, .unset, .unset, .unset, .unset, .unset, .unset, .unset, .unset, .unset, .unset] [(.int (7 : Int32)), (.int u2), (.long (((((((own_m u2 (0 : Int32)) ||| (own_m u2 (1 : Int32))) ||| (own_m u2 (2 : Int32))) ||| (own_m u2 (3 : Int32))) ||| (own_m u2 (4 : Int32))) ||| (own_m u2 (5 : Int32))) ||| (own_m u2 (6 : Int32))))])) rfl (by rw [hml]; rfl) (argsL := [(.int u2), (.int (7 : Int32))]) (rest := [(.long (((((((own_m u2 (0 : Int32)) ||| (own_m u2 (1 : Int32))) ||| (own_m u2 (2 : Int32))) ||| (own_m u2 (3 : Int32))) ||| (own_m u2 (4 : Int32))) ||| (own_m u2 (5 : Int32))) ||| (own_m u2 (6 : Int32))))]) (lenOf pd_0 rfl) rfl (by show 2 * 0 + _ ≤ _; exact Nat.le_of_eq rfl) (hb hby at_51) (fun _ _ => ⟨rfl, eq8, (by decide : 0 + 0 ≤ _), (by decide : 0 + 0 ≤ _)⟩)
  dsimp only [Pt.U, Pt.locs, Pt.cells, Pt.slots] at X9 l9 y9 z9 st9 hQ9
  subst l9 y9 z9
  obtain ⟨rfl, Nq9, eq9⟩ := hQ9
  have N9 := Fr.app N8 Nq9
  have S10 : ∀ t, Steps p.tables e below (T9.setTop (mkF m 82 #[.val (.long u0), .second, iv u1, iv u2, iv bb, .val (.long ((((((((own_m u2 (0 : Int32)) ||| (own_m u2 (1 : Int32))) ||| (own_m u2 (2 : Int32))) ||| (own_m u2 (3 : Int32))) ||| (own_m u2 (4 : Int32))) ||| (own_m u2 (5 : Int32))) ||| (own_m u2 (6 : Int32))) ||| (own_m u2 (7 : Int32)))), .second, .val (.long ((72340172838076673 : Int64) * (bb.toInt64))), .second, .val (.long ((u0 &&& (((((((((own_m u2 (0 : Int32)) ||| (own_m u2 (1 : Int32))) ||| (own_m u2 (2 : Int32))) ||| (own_m u2 (3 : Int32))) ||| (own_m u2 (4 : Int32))) ||| (own_m u2 (5 : Int32))) ||| (own_m u2 (6 : Int32))) ||| (own_m u2 (7 : Int32))) ^^^ (-1 : Int64))) ||| (((72340172838076673 : Int64) * (bb.toInt64)) &&& ((((((((own_m u2 (0 : Int32)) ||| (own_m u2 (1 : Int32))) ||| (own_m u2 (2 : Int32))) ||| (own_m u2 (3 : Int32))) ||| (own_m u2 (4 : Int32))) ||| (own_m u2 (5 : Int32))) ||| (own_m u2 (6 : Int32))) ||| (own_m u2 (7 : Int32)))))), .second, .unset, .unset, .unset, .unset] [])) t → Steps p.tables e below (s₁.setTop (entryFrame m #[(.long u0), (.int u1), (.int u2)] maxLocals)) t := by
    intro t k
    refine S1 t ?_
    show Steps p.tables e below (s₁.setTop (mkF m 6 #[.val (.long u0), .second, iv u1, iv u2, iv bb, .unset, .unset, .unset, .unset, .unset, .unset, .unset, .unset, .unset, .unset] [])) _
    refine XS.iloadN X0.here hx rfl (hb hby at_6) rfl ?_
    show Steps p.tables e below (s₁.setTop (mkF m 7 #[.val (.long u0), .second, iv u1, iv u2, iv bb, .unset, .unset, .unset, .unset, .unset, .unset, .unset, .unset, .unset, .unset] [(.int u2)])) _
    refine XS.iconst X0.here hx rfl (hb hby at_7) ?_
    show Steps p.tables e below (s₁.setTop (mkF m 8 #[.val (.long u0), .second, iv u1, iv u2, iv bb, .unset, .unset, .unset, .unset, .unset, .unset, .unset, .unset, .unset, .unset] [(.int (0 : Int32)), (.int u2)])) _
    refine st2 _ ?_
    show Steps p.tables e below (T2.setTop (mkF m 11 #[.val (.long u0), .second, iv u1, iv u2, iv bb, .unset, .unset, .unset, .unset, .unset, .unset, .unset, .unset, .unset, .unset] [(.long (own_m u2 (0 : Int32)))])) _
    refine XS.iloadN X2.here hx rfl (hb hby at_11) rfl ?_
    show Steps p.tables e below (T2.setTop (mkF m 12 #[.val (.long u0), .second, iv u1, iv u2, iv bb, .unset, .unset, .unset, .unset, .unset, .unset, .unset, .unset, .unset, .unset] [(.int u2), (.long (own_m u2 (0 : Int32)))])) _
    refine XS.iconst X2.here hx rfl (hb hby at_12) ?_
    show Steps p.tables e below (T2.setTop (mkF m 13 #[.val (.long u0), .second, iv u1, iv u2, iv bb, .unset, .unset, .unset, .unset, .unset, .unset, .unset, .unset, .unset, .unset] [(.int (1 : Int32)), (.int u2), (.long (own_m u2 (0 : Int32)))])) _
    refine st3 _ ?_
    show Steps p.tables e below (T3.setTop (mkF m 16 #[.val (.long u0), .second, iv u1, iv u2, iv bb, .unset, .unset, .unset, .unset, .unset, .unset, .unset, .unset, .unset, .unset] [(.long (own_m u2 (1 : Int32))), (.long (own_m u2 (0 : Int32)))])) _
    refine XS.lor X3.here hx rfl (hb hby at_16) rfl ?_
    show Steps p.tables e below (T3.setTop (mkF m 17 #[.val (.long u0), .second, iv u1, iv u2, iv bb, .unset, .unset, .unset, .unset, .unset, .unset, .unset, .unset, .unset, .unset] [(.long ((own_m u2 (0 : Int32)) ||| (own_m u2 (1 : Int32))))])) _
    refine XS.iloadN X3.here hx rfl (hb hby at_17) rfl ?_
    show Steps p.tables e below (T3.setTop (mkF m 18 #[.val (.long u0), .second, iv u1, iv u2, iv bb, .unset, .unset, .unset, .unset, .unset, .unset, .unset, .unset, .unset, .unset] [(.int u2), (.long ((own_m u2 (0 : Int32)) ||| (own_m u2 (1 : Int32))))])) _
    refine XS.iconst X3.here hx rfl (hb hby at_18) ?_
    show Steps p.tables e below (T3.setTop (mkF m 19 #[.val (.long u0), .second, iv u1, iv u2, iv bb, .unset, .unset, .unset, .unset, .unset, .unset, .unset, .unset, .unset, .unset] [(.int (2 : Int32)), (.int u2), (.long ((own_m u2 (0 : Int32)) ||| (own_m u2 (1 : Int32))))])) _
    refine st4 _ ?_
    show Steps p.tables e below (T4.setTop (mkF m 22 #[.val (.long u0), .second, iv u1, iv u2, iv bb, .unset, .unset, .unset, .unset, .unset, .unset, .unset, .unset, .unset, .unset] [(.long (own_m u2 (2 : Int32))), (.long ((own_m u2 (0 : Int32)) ||| (own_m u2 (1 : Int32))))])) _
    refine XS.lor X4.here hx rfl (hb hby at_22) rfl ?_
    show Steps p.tables e below (T4.setTop (mkF m 23 #[.val (.long u0), .second, iv u1, iv u2, iv bb, .unset, .unset, .unset, .unset, .unset, .unset, .unset, .unset, .unset, .unset] [(.long (((own_m u2 (0 : Int32)) ||| (own_m u2 (1 : Int32))) ||| (own_m u2 (2 : Int32))))])) _
    refine XS.iloadN X4.here hx rfl (hb hby at_23) rfl ?_
    show Steps p.tables e below (T4.setTop (mkF m 24 #[.val (.long u0), .second, iv u1, iv u2, iv bb, .unset, .unset, .unset, .unset, .unset, .unset, .unset, .unset, .unset, .unset] [(.int u2), (.long (((own_m u2 (0 : Int32)) ||| (own_m u2 (1 : Int32))) ||| (own_m u2 (2 : Int32))))])) _
    refine XS.iconst X4.here hx rfl (hb hby at_24) ?_
    show Steps p.tables e below (T4.setTop (mkF m 25 #[.val (.long u0), .second, iv u1, iv u2, iv bb, .unset, .unset, .unset, .unset, .unset, .unset, .unset, .unset, .unset, .unset] [(.int (3 : Int32)), (.int u2), (.long (((own_m u2 (0 : Int32)) ||| (own_m u2 (1 : Int32))) ||| (own_m u2 (2 : Int32))))])) _
    refine st5 _ ?_
    show Steps p.tables e below (T5.setTop (mkF m 28 #[.val (.long u0), .second, iv u1, iv u2, iv bb, .unset, .unset, .unset, .unset, .unset, .unset, .unset, .unset, .unset, .unset] [(.long (own_m u2 (3 : Int32))), (.long (((own_m u2 (0 : Int32)) ||| (own_m u2 (1 : Int32))) ||| (own_m u2 (2 : Int32))))])) _
    refine XS.lor X5.here hx rfl (hb hby at_28) rfl ?_
    show Steps p.tables e below (T5.setTop (mkF m 29 #[.val (.long u0), .second, iv u1, iv u2, iv bb, .unset, .unset, .unset, .unset, .unset, .unset, .unset, .unset, .unset, .unset] [(.long ((((own_m u2 (0 : Int32)) ||| (own_m u2 (1 : Int32))) ||| (own_m u2 (2 : Int32))) ||| (own_m u2 (3 : Int32))))])) _
    refine XS.iloadN X5.here hx rfl (hb hby at_29) rfl ?_
    show Steps p.tables e below (T5.setTop (mkF m 30 #[.val (.long u0), .second, iv u1, iv u2, iv bb, .unset, .unset, .unset, .unset, .unset, .unset, .unset, .unset, .unset, .unset] [(.int u2), (.long ((((own_m u2 (0 : Int32)) ||| (own_m u2 (1 : Int32))) ||| (own_m u2 (2 : Int32))) ||| (own_m u2 (3 : Int32))))])) _
    refine XS.iconst X5.here hx rfl (hb hby at_30) ?_
    show Steps p.tables e below (T5.setTop (mkF m 31 #[.val (.long u0), .second, iv u1, iv u2, iv bb, .unset, .unset, .unset, .unset, .unset, .unset, .unset, .unset, .unset, .unset] [(.int (4 : Int32)), (.int u2), (.long ((((own_m u2 (0 : Int32)) ||| (own_m u2 (1 : Int32))) ||| (own_m u2 (2 : Int32))) ||| (own_m u2 (3 : Int32))))])) _
    refine st6 _ ?_
    show Steps p.tables e below (T6.setTop (mkF m 34 #[.val (.long u0), .second, iv u1, iv u2, iv bb, .unset, .unset, .unset, .unset, .unset, .unset, .unset, .unset, .unset, .unset] [(.long (own_m u2 (4 : Int32))), (.long ((((own_m u2 (0 : Int32)) ||| (own_m u2 (1 : Int32))) ||| (own_m u2 (2 : Int32))) ||| (own_m u2 (3 : Int32))))])) _
    refine XS.lor X6.here hx rfl (hb hby at_34) rfl ?_
    show Steps p.tables e below (T6.setTop (mkF m 35 #[.val (.long u0), .second, iv u1, iv u2, iv bb, .unset, .unset, .unset, .unset, .unset, .unset, .unset, .unset, .unset, .unset] [(.long (((((own_m u2 (0 : Int32)) ||| (own_m u2 (1 : Int32))) ||| (own_m u2 (2 : Int32))) ||| (own_m u2 (3 : Int32))) ||| (own_m u2 (4 : Int32))))])) _
    refine XS.iloadN X6.here hx rfl (hb hby at_35) rfl ?_
    show Steps p.tables e below (T6.setTop (mkF m 36 #[.val (.long u0), .second, iv u1, iv u2, iv bb, .unset, .unset, .unset, .unset, .unset, .unset, .unset, .unset, .unset, .unset] [(.int u2), (.long (((((own_m u2 (0 : Int32)) ||| (own_m u2 (1 : Int32))) ||| (own_m u2 (2 : Int32))) ||| (own_m u2 (3 : Int32))) ||| (own_m u2 (4 : Int32))))])) _
    refine XS.iconst X6.here hx rfl (hb hby at_36) ?_
    show Steps p.tables e below (T6.setTop (mkF m 37 #[.val (.long u0), .second, iv u1, iv u2, iv bb, .unset, .unset, .unset, .unset, .unset, .unset, .unset, .unset, .unset, .unset] [(.int (5 : Int32)), (.int u2), (.long (((((own_m u2 (0 : Int32)) ||| (own_m u2 (1 : Int32))) ||| (own_m u2 (2 : Int32))) ||| (own_m u2 (3 : Int32))) ||| (own_m u2 (4 : Int32))))])) _
    refine st7 _ ?_
    show Steps p.tables e below (T7.setTop (mkF m 40 #[.val (.long u0), .second, iv u1, iv u2, iv bb, .unset, .unset, .unset, .unset, .unset, .unset, .unset, .unset, .unset, .unset] [(.long (own_m u2 (5 : Int32))), (.long (((((own_m u2 (0 : Int32)) ||| (own_m u2 (1 : Int32))) ||| (own_m u2 (2 : Int32))) ||| (own_m u2 (3 : Int32))) ||| (own_m u2 (4 : Int32))))])) _
    refine XS.lor X7.here hx rfl (hb hby at_40) rfl ?_
    show Steps p.tables e below (T7.setTop (mkF m 41 #[.val (.long u0), .second, iv u1, iv u2, iv bb, .unset, .unset, .unset, .unset, .unset, .unset, .unset, .unset, .unset, .unset] [(.long ((((((own_m u2 (0 : Int32)) ||| (own_m u2 (1 : Int32))) ||| (own_m u2 (2 : Int32))) ||| (own_m u2 (3 : Int32))) ||| (own_m u2 (4 : Int32))) ||| (own_m u2 (5 : Int32))))])) _
    refine XS.iloadN X7.here hx rfl (hb hby at_41) rfl ?_
    show Steps p.tables e below (T7.setTop (mkF m 42 #[.val (.long u0), .second, iv u1, iv u2, iv bb, .unset, .unset, .unset, .unset, .unset, .unset, .unset, .unset, .unset, .unset] [(.int u2), (.long ((((((own_m u2 (0 : Int32)) ||| (own_m u2 (1 : Int32))) ||| (own_m u2 (2 : Int32))) ||| (own_m u2 (3 : Int32))) ||| (own_m u2 (4 : Int32))) ||| (own_m u2 (5 : Int32))))])) _
    refine XS.bipush X7.here hx rfl (hb hby at_42) ?_
    show Steps p.tables e below (T7.setTop (mkF m 44 #[.val (.long u0), .second, iv u1, iv u2, iv bb, .unset, .unset, .unset, .unset, .unset, .unset, .unset, .unset, .unset, .unset] [(.int (6 : Int32)), (.int u2), (.long ((((((own_m u2 (0 : Int32)) ||| (own_m u2 (1 : Int32))) ||| (own_m u2 (2 : Int32))) ||| (own_m u2 (3 : Int32))) ||| (own_m u2 (4 : Int32))) ||| (own_m u2 (5 : Int32))))])) _
    refine st8 _ ?_
    show Steps p.tables e below (T8.setTop (mkF m 47 #[.val (.long u0), .second, iv u1, iv u2, iv bb, .unset, .unset, .unset, .unset, .unset, .unset, .unset, .unset, .unset, .unset] [(.long (own_m u2 (6 : Int32))), (.long ((((((own_m u2 (0 : Int32)) ||| (own_m u2 (1 : Int32))) ||| (own_m u2 (2 : Int32))) ||| (own_m u2 (3 : Int32))) ||| (own_m u2 (4 : Int32))) ||| (own_m u2 (5 : Int32))))])) _
    refine XS.lor X8.here hx rfl (hb hby at_47) rfl ?_
    show Steps p.tables e below (T8.setTop (mkF m 48 #[.val (.long u0), .second, iv u1, iv u2, iv bb, .unset, .unset, .unset, .unset, .unset, .unset, .unset, .unset, .unset, .unset] [(.long (((((((own_m u2 (0 : Int32)) ||| (own_m u2 (1 : Int32))) ||| (own_m u2 (2 : Int32))) ||| (own_m u2 (3 : Int32))) ||| (own_m u2 (4 : Int32))) ||| (own_m u2 (5 : Int32))) ||| (own_m u2 (6 : Int32))))])) _
    refine XS.iloadN X8.here hx rfl (hb hby at_48) rfl ?_
    show Steps p.tables e below (T8.setTop (mkF m 49 #[.val (.long u0), .second, iv u1, iv u2, iv bb, .unset, .unset, .unset, .unset, .unset, .unset, .unset, .unset, .unset, .unset] [(.int u2), (.long (((((((own_m u2 (0 : Int32)) ||| (own_m u2 (1 : Int32))) ||| (own_m u2 (2 : Int32))) ||| (own_m u2 (3 : Int32))) ||| (own_m u2 (4 : Int32))) ||| (own_m u2 (5 : Int32))) ||| (own_m u2 (6 : Int32))))])) _
    refine XS.bipush X8.here hx rfl (hb hby at_49) ?_
    show Steps p.tables e below (T8.setTop (mkF m 51 #[.val (.long u0), .second, iv u1, iv u2, iv bb, .unset, .unset, .unset, .unset, .unset, .unset, .unset, .unset, .unset, .unset] [(.int (7 : Int32)), (.int u2), (.long (((((((own_m u2 (0 : Int32)) ||| (own_m u2 (1 : Int32))) ||| (own_m u2 (2 : Int32))) ||| (own_m u2 (3 : Int32))) ||| (own_m u2 (4 : Int32))) ||| (own_m u2 (5 : Int32))) ||| (own_m u2 (6 : Int32))))])) _
    refine st9 _ ?_
    show Steps p.tables e below (T9.setTop (mkF m 54 #[.val (.long u0), .second, iv u1, iv u2, iv bb, .unset, .unset, .unset, .unset, .unset, .unset, .unset, .unset, .unset, .unset] [(.long (own_m u2 (7 : Int32))), (.long (((((((own_m u2 (0 : Int32)) ||| (own_m u2 (1 : Int32))) ||| (own_m u2 (2 : Int32))) ||| (own_m u2 (3 : Int32))) ||| (own_m u2 (4 : Int32))) ||| (own_m u2 (5 : Int32))) ||| (own_m u2 (6 : Int32))))])) _
    refine XS.lor X9.here hx rfl (hb hby at_54) rfl ?_
    show Steps p.tables e below (T9.setTop (mkF m 55 #[.val (.long u0), .second, iv u1, iv u2, iv bb, .unset, .unset, .unset, .unset, .unset, .unset, .unset, .unset, .unset, .unset] [(.long ((((((((own_m u2 (0 : Int32)) ||| (own_m u2 (1 : Int32))) ||| (own_m u2 (2 : Int32))) ||| (own_m u2 (3 : Int32))) ||| (own_m u2 (4 : Int32))) ||| (own_m u2 (5 : Int32))) ||| (own_m u2 (6 : Int32))) ||| (own_m u2 (7 : Int32))))])) _
    refine XS.lstore X9.here hx rfl (hb hby at_55) rfl (l' := #[.val (.long u0), .second, iv u1, iv u2, iv bb, .val (.long ((((((((own_m u2 (0 : Int32)) ||| (own_m u2 (1 : Int32))) ||| (own_m u2 (2 : Int32))) ||| (own_m u2 (3 : Int32))) ||| (own_m u2 (4 : Int32))) ||| (own_m u2 (5 : Int32))) ||| (own_m u2 (6 : Int32))) ||| (own_m u2 (7 : Int32)))), .second, .unset, .unset, .unset, .unset, .unset, .unset, .unset, .unset]) rfl ?_
    show Steps p.tables e below (T9.setTop (mkF m 57 #[.val (.long u0), .second, iv u1, iv u2, iv bb, .val (.long ((((((((own_m u2 (0 : Int32)) ||| (own_m u2 (1 : Int32))) ||| (own_m u2 (2 : Int32))) ||| (own_m u2 (3 : Int32))) ||| (own_m u2 (4 : Int32))) ||| (own_m u2 (5 : Int32))) ||| (own_m u2 (6 : Int32))) ||| (own_m u2 (7 : Int32)))), .second, .unset, .unset, .unset, .unset, .unset, .unset, .unset, .unset] [])) _
    refine X9.ldc2Long hx hown (mvT hZ (hw _ (List.mem_of_getElem? (i := 5) rfl))) (g := (mkF m 57 #[.val (.long u0), .second, iv u1, iv u2, iv bb, .val (.long ((((((((own_m u2 (0 : Int32)) ||| (own_m u2 (1 : Int32))) ||| (own_m u2 (2 : Int32))) ||| (own_m u2 (3 : Int32))) ||| (own_m u2 (4 : Int32))) ||| (own_m u2 (5 : Int32))) ||| (own_m u2 (6 : Int32))) ||| (own_m u2 (7 : Int32)))), .second, .unset, .unset, .unset, .unset, .unset, .unset, .unset, .unset] [])) rfl (hb hby at_57) _ ?_
    show Steps p.tables e below (T9.setTop (mkF m 60 #[.val (.long u0), .second, iv u1, iv u2, iv bb, .val (.long ((((((((own_m u2 (0 : Int32)) ||| (own_m u2 (1 : Int32))) ||| (own_m u2 (2 : Int32))) ||| (own_m u2 (3 : Int32))) ||| (own_m u2 (4 : Int32))) ||| (own_m u2 (5 : Int32))) ||| (own_m u2 (6 : Int32))) ||| (own_m u2 (7 : Int32)))), .second, .unset, .unset, .unset, .unset, .unset, .unset, .unset, .unset] [(.long (72340172838076673 : Int64))])) _
    refine XS.iload X9.here hx rfl (hb hby at_60) rfl ?_
    show Steps p.tables e below (T9.setTop (mkF m 62 #[.val (.long u0), .second, iv u1, iv u2, iv bb, .val (.long ((((((((own_m u2 (0 : Int32)) ||| (own_m u2 (1 : Int32))) ||| (own_m u2 (2 : Int32))) ||| (own_m u2 (3 : Int32))) ||| (own_m u2 (4 : Int32))) ||| (own_m u2 (5 : Int32))) ||| (own_m u2 (6 : Int32))) ||| (own_m u2 (7 : Int32)))), .second, .unset, .unset, .unset, .unset, .unset, .unset, .unset, .unset] [(.int bb), (.long (72340172838076673 : Int64))])) _
    refine XS.i2l X9.here hx rfl (hb hby at_62) rfl ?_
    show Steps p.tables e below (T9.setTop (mkF m 63 #[.val (.long u0), .second, iv u1, iv u2, iv bb, .val (.long ((((((((own_m u2 (0 : Int32)) ||| (own_m u2 (1 : Int32))) ||| (own_m u2 (2 : Int32))) ||| (own_m u2 (3 : Int32))) ||| (own_m u2 (4 : Int32))) ||| (own_m u2 (5 : Int32))) ||| (own_m u2 (6 : Int32))) ||| (own_m u2 (7 : Int32)))), .second, .unset, .unset, .unset, .unset, .unset, .unset, .unset, .unset] [(.long (bb.toInt64)), (.long (72340172838076673 : Int64))])) _
    refine XS.lmul X9.here hx rfl (hb hby at_63) rfl ?_
    show Steps p.tables e below (T9.setTop (mkF m 64 #[.val (.long u0), .second, iv u1, iv u2, iv bb, .val (.long ((((((((own_m u2 (0 : Int32)) ||| (own_m u2 (1 : Int32))) ||| (own_m u2 (2 : Int32))) ||| (own_m u2 (3 : Int32))) ||| (own_m u2 (4 : Int32))) ||| (own_m u2 (5 : Int32))) ||| (own_m u2 (6 : Int32))) ||| (own_m u2 (7 : Int32)))), .second, .unset, .unset, .unset, .unset, .unset, .unset, .unset, .unset] [(.long ((72340172838076673 : Int64) * (bb.toInt64)))])) _
    refine XS.lstore X9.here hx rfl (hb hby at_64) rfl (l' := #[.val (.long u0), .second, iv u1, iv u2, iv bb, .val (.long ((((((((own_m u2 (0 : Int32)) ||| (own_m u2 (1 : Int32))) ||| (own_m u2 (2 : Int32))) ||| (own_m u2 (3 : Int32))) ||| (own_m u2 (4 : Int32))) ||| (own_m u2 (5 : Int32))) ||| (own_m u2 (6 : Int32))) ||| (own_m u2 (7 : Int32)))), .second, .val (.long ((72340172838076673 : Int64) * (bb.toInt64))), .second, .unset, .unset, .unset, .unset, .unset, .unset]) rfl ?_
    show Steps p.tables e below (T9.setTop (mkF m 66 #[.val (.long u0), .second, iv u1, iv u2, iv bb, .val (.long ((((((((own_m u2 (0 : Int32)) ||| (own_m u2 (1 : Int32))) ||| (own_m u2 (2 : Int32))) ||| (own_m u2 (3 : Int32))) ||| (own_m u2 (4 : Int32))) ||| (own_m u2 (5 : Int32))) ||| (own_m u2 (6 : Int32))) ||| (own_m u2 (7 : Int32)))), .second, .val (.long ((72340172838076673 : Int64) * (bb.toInt64))), .second, .unset, .unset, .unset, .unset, .unset, .unset] [])) _
    refine XS.lloadN X9.here hx rfl (hb hby at_66) rfl ?_
    show Steps p.tables e below (T9.setTop (mkF m 67 #[.val (.long u0), .second, iv u1, iv u2, iv bb, .val (.long ((((((((own_m u2 (0 : Int32)) ||| (own_m u2 (1 : Int32))) ||| (own_m u2 (2 : Int32))) ||| (own_m u2 (3 : Int32))) ||| (own_m u2 (4 : Int32))) ||| (own_m u2 (5 : Int32))) ||| (own_m u2 (6 : Int32))) ||| (own_m u2 (7 : Int32)))), .second, .val (.long ((72340172838076673 : Int64) * (bb.toInt64))), .second, .unset, .unset, .unset, .unset, .unset, .unset] [(.long u0)])) _
    refine XS.lload X9.here hx rfl (hb hby at_67) rfl ?_
    show Steps p.tables e below (T9.setTop (mkF m 69 #[.val (.long u0), .second, iv u1, iv u2, iv bb, .val (.long ((((((((own_m u2 (0 : Int32)) ||| (own_m u2 (1 : Int32))) ||| (own_m u2 (2 : Int32))) ||| (own_m u2 (3 : Int32))) ||| (own_m u2 (4 : Int32))) ||| (own_m u2 (5 : Int32))) ||| (own_m u2 (6 : Int32))) ||| (own_m u2 (7 : Int32)))), .second, .val (.long ((72340172838076673 : Int64) * (bb.toInt64))), .second, .unset, .unset, .unset, .unset, .unset, .unset] [(.long ((((((((own_m u2 (0 : Int32)) ||| (own_m u2 (1 : Int32))) ||| (own_m u2 (2 : Int32))) ||| (own_m u2 (3 : Int32))) ||| (own_m u2 (4 : Int32))) ||| (own_m u2 (5 : Int32))) ||| (own_m u2 (6 : Int32))) ||| (own_m u2 (7 : Int32)))), (.long u0)])) _
    refine X9.ldc2Long hx hown (mvT hZ (hw _ (List.mem_of_getElem? (i := 6) rfl))) (g := (mkF m 69 #[.val (.long u0), .second, iv u1, iv u2, iv bb, .val (.long ((((((((own_m u2 (0 : Int32)) ||| (own_m u2 (1 : Int32))) ||| (own_m u2 (2 : Int32))) ||| (own_m u2 (3 : Int32))) ||| (own_m u2 (4 : Int32))) ||| (own_m u2 (5 : Int32))) ||| (own_m u2 (6 : Int32))) ||| (own_m u2 (7 : Int32)))), .second, .val (.long ((72340172838076673 : Int64) * (bb.toInt64))), .second, .unset, .unset, .unset, .unset, .unset, .unset] [(.long ((((((((own_m u2 (0 : Int32)) ||| (own_m u2 (1 : Int32))) ||| (own_m u2 (2 : Int32))) ||| (own_m u2 (3 : Int32))) ||| (own_m u2 (4 : Int32))) ||| (own_m u2 (5 : Int32))) ||| (own_m u2 (6 : Int32))) ||| (own_m u2 (7 : Int32)))), (.long u0)])) rfl (hb hby at_69) _ ?_
    show Steps p.tables e below (T9.setTop (mkF m 72 #[.val (.long u0), .second, iv u1, iv u2, iv bb, .val (.long ((((((((own_m u2 (0 : Int32)) ||| (own_m u2 (1 : Int32))) ||| (own_m u2 (2 : Int32))) ||| (own_m u2 (3 : Int32))) ||| (own_m u2 (4 : Int32))) ||| (own_m u2 (5 : Int32))) ||| (own_m u2 (6 : Int32))) ||| (own_m u2 (7 : Int32)))), .second, .val (.long ((72340172838076673 : Int64) * (bb.toInt64))), .second, .unset, .unset, .unset, .unset, .unset, .unset] [(.long (-1 : Int64)), (.long ((((((((own_m u2 (0 : Int32)) ||| (own_m u2 (1 : Int32))) ||| (own_m u2 (2 : Int32))) ||| (own_m u2 (3 : Int32))) ||| (own_m u2 (4 : Int32))) ||| (own_m u2 (5 : Int32))) ||| (own_m u2 (6 : Int32))) ||| (own_m u2 (7 : Int32)))), (.long u0)])) _
    refine XS.lxor X9.here hx rfl (hb hby at_72) rfl ?_
    show Steps p.tables e below (T9.setTop (mkF m 73 #[.val (.long u0), .second, iv u1, iv u2, iv bb, .val (.long ((((((((own_m u2 (0 : Int32)) ||| (own_m u2 (1 : Int32))) ||| (own_m u2 (2 : Int32))) ||| (own_m u2 (3 : Int32))) ||| (own_m u2 (4 : Int32))) ||| (own_m u2 (5 : Int32))) ||| (own_m u2 (6 : Int32))) ||| (own_m u2 (7 : Int32)))), .second, .val (.long ((72340172838076673 : Int64) * (bb.toInt64))), .second, .unset, .unset, .unset, .unset, .unset, .unset] [(.long (((((((((own_m u2 (0 : Int32)) ||| (own_m u2 (1 : Int32))) ||| (own_m u2 (2 : Int32))) ||| (own_m u2 (3 : Int32))) ||| (own_m u2 (4 : Int32))) ||| (own_m u2 (5 : Int32))) ||| (own_m u2 (6 : Int32))) ||| (own_m u2 (7 : Int32))) ^^^ (-1 : Int64))), (.long u0)])) _
    refine XS.land X9.here hx rfl (hb hby at_73) rfl ?_
    show Steps p.tables e below (T9.setTop (mkF m 74 #[.val (.long u0), .second, iv u1, iv u2, iv bb, .val (.long ((((((((own_m u2 (0 : Int32)) ||| (own_m u2 (1 : Int32))) ||| (own_m u2 (2 : Int32))) ||| (own_m u2 (3 : Int32))) ||| (own_m u2 (4 : Int32))) ||| (own_m u2 (5 : Int32))) ||| (own_m u2 (6 : Int32))) ||| (own_m u2 (7 : Int32)))), .second, .val (.long ((72340172838076673 : Int64) * (bb.toInt64))), .second, .unset, .unset, .unset, .unset, .unset, .unset] [(.long (u0 &&& (((((((((own_m u2 (0 : Int32)) ||| (own_m u2 (1 : Int32))) ||| (own_m u2 (2 : Int32))) ||| (own_m u2 (3 : Int32))) ||| (own_m u2 (4 : Int32))) ||| (own_m u2 (5 : Int32))) ||| (own_m u2 (6 : Int32))) ||| (own_m u2 (7 : Int32))) ^^^ (-1 : Int64))))])) _
    refine XS.lload X9.here hx rfl (hb hby at_74) rfl ?_
    show Steps p.tables e below (T9.setTop (mkF m 76 #[.val (.long u0), .second, iv u1, iv u2, iv bb, .val (.long ((((((((own_m u2 (0 : Int32)) ||| (own_m u2 (1 : Int32))) ||| (own_m u2 (2 : Int32))) ||| (own_m u2 (3 : Int32))) ||| (own_m u2 (4 : Int32))) ||| (own_m u2 (5 : Int32))) ||| (own_m u2 (6 : Int32))) ||| (own_m u2 (7 : Int32)))), .second, .val (.long ((72340172838076673 : Int64) * (bb.toInt64))), .second, .unset, .unset, .unset, .unset, .unset, .unset] [(.long ((72340172838076673 : Int64) * (bb.toInt64))), (.long (u0 &&& (((((((((own_m u2 (0 : Int32)) ||| (own_m u2 (1 : Int32))) ||| (own_m u2 (2 : Int32))) ||| (own_m u2 (3 : Int32))) ||| (own_m u2 (4 : Int32))) ||| (own_m u2 (5 : Int32))) ||| (own_m u2 (6 : Int32))) ||| (own_m u2 (7 : Int32))) ^^^ (-1 : Int64))))])) _
    refine XS.lload X9.here hx rfl (hb hby at_76) rfl ?_
    show Steps p.tables e below (T9.setTop (mkF m 78 #[.val (.long u0), .second, iv u1, iv u2, iv bb, .val (.long ((((((((own_m u2 (0 : Int32)) ||| (own_m u2 (1 : Int32))) ||| (own_m u2 (2 : Int32))) ||| (own_m u2 (3 : Int32))) ||| (own_m u2 (4 : Int32))) ||| (own_m u2 (5 : Int32))) ||| (own_m u2 (6 : Int32))) ||| (own_m u2 (7 : Int32)))), .second, .val (.long ((72340172838076673 : Int64) * (bb.toInt64))), .second, .unset, .unset, .unset, .unset, .unset, .unset] [(.long ((((((((own_m u2 (0 : Int32)) ||| (own_m u2 (1 : Int32))) ||| (own_m u2 (2 : Int32))) ||| (own_m u2 (3 : Int32))) ||| (own_m u2 (4 : Int32))) ||| (own_m u2 (5 : Int32))) ||| (own_m u2 (6 : Int32))) ||| (own_m u2 (7 : Int32)))), (.long ((72340172838076673 : Int64) * (bb.toInt64))), (.long (u0 &&& (((((((((own_m u2 (0 : Int32)) ||| (own_m u2 (1 : Int32))) ||| (own_m u2 (2 : Int32))) ||| (own_m u2 (3 : Int32))) ||| (own_m u2 (4 : Int32))) ||| (own_m u2 (5 : Int32))) ||| (own_m u2 (6 : Int32))) ||| (own_m u2 (7 : Int32))) ^^^ (-1 : Int64))))])) _
    refine XS.land X9.here hx rfl (hb hby at_78) rfl ?_
    show Steps p.tables e below (T9.setTop (mkF m 79 #[.val (.long u0), .second, iv u1, iv u2, iv bb, .val (.long ((((((((own_m u2 (0 : Int32)) ||| (own_m u2 (1 : Int32))) ||| (own_m u2 (2 : Int32))) ||| (own_m u2 (3 : Int32))) ||| (own_m u2 (4 : Int32))) ||| (own_m u2 (5 : Int32))) ||| (own_m u2 (6 : Int32))) ||| (own_m u2 (7 : Int32)))), .second, .val (.long ((72340172838076673 : Int64) * (bb.toInt64))), .second, .unset, .unset, .unset, .unset, .unset, .unset] [(.long (((72340172838076673 : Int64) * (bb.toInt64)) &&& ((((((((own_m u2 (0 : Int32)) ||| (own_m u2 (1 : Int32))) ||| (own_m u2 (2 : Int32))) ||| (own_m u2 (3 : Int32))) ||| (own_m u2 (4 : Int32))) ||| (own_m u2 (5 : Int32))) ||| (own_m u2 (6 : Int32))) ||| (own_m u2 (7 : Int32))))), (.long (u0 &&& (((((((((own_m u2 (0 : Int32)) ||| (own_m u2 (1 : Int32))) ||| (own_m u2 (2 : Int32))) ||| (own_m u2 (3 : Int32))) ||| (own_m u2 (4 : Int32))) ||| (own_m u2 (5 : Int32))) ||| (own_m u2 (6 : Int32))) ||| (own_m u2 (7 : Int32))) ^^^ (-1 : Int64))))])) _
    refine XS.lor X9.here hx rfl (hb hby at_79) rfl ?_
    show Steps p.tables e below (T9.setTop (mkF m 80 #[.val (.long u0), .second, iv u1, iv u2, iv bb, .val (.long ((((((((own_m u2 (0 : Int32)) ||| (own_m u2 (1 : Int32))) ||| (own_m u2 (2 : Int32))) ||| (own_m u2 (3 : Int32))) ||| (own_m u2 (4 : Int32))) ||| (own_m u2 (5 : Int32))) ||| (own_m u2 (6 : Int32))) ||| (own_m u2 (7 : Int32)))), .second, .val (.long ((72340172838076673 : Int64) * (bb.toInt64))), .second, .unset, .unset, .unset, .unset, .unset, .unset] [(.long ((u0 &&& (((((((((own_m u2 (0 : Int32)) ||| (own_m u2 (1 : Int32))) ||| (own_m u2 (2 : Int32))) ||| (own_m u2 (3 : Int32))) ||| (own_m u2 (4 : Int32))) ||| (own_m u2 (5 : Int32))) ||| (own_m u2 (6 : Int32))) ||| (own_m u2 (7 : Int32))) ^^^ (-1 : Int64))) ||| (((72340172838076673 : Int64) * (bb.toInt64)) &&& ((((((((own_m u2 (0 : Int32)) ||| (own_m u2 (1 : Int32))) ||| (own_m u2 (2 : Int32))) ||| (own_m u2 (3 : Int32))) ||| (own_m u2 (4 : Int32))) ||| (own_m u2 (5 : Int32))) ||| (own_m u2 (6 : Int32))) ||| (own_m u2 (7 : Int32))))))])) _
    refine XS.lstore X9.here hx rfl (hb hby at_80) rfl (l' := #[.val (.long u0), .second, iv u1, iv u2, iv bb, .val (.long ((((((((own_m u2 (0 : Int32)) ||| (own_m u2 (1 : Int32))) ||| (own_m u2 (2 : Int32))) ||| (own_m u2 (3 : Int32))) ||| (own_m u2 (4 : Int32))) ||| (own_m u2 (5 : Int32))) ||| (own_m u2 (6 : Int32))) ||| (own_m u2 (7 : Int32)))), .second, .val (.long ((72340172838076673 : Int64) * (bb.toInt64))), .second, .val (.long ((u0 &&& (((((((((own_m u2 (0 : Int32)) ||| (own_m u2 (1 : Int32))) ||| (own_m u2 (2 : Int32))) ||| (own_m u2 (3 : Int32))) ||| (own_m u2 (4 : Int32))) ||| (own_m u2 (5 : Int32))) ||| (own_m u2 (6 : Int32))) ||| (own_m u2 (7 : Int32))) ^^^ (-1 : Int64))) ||| (((72340172838076673 : Int64) * (bb.toInt64)) &&& ((((((((own_m u2 (0 : Int32)) ||| (own_m u2 (1 : Int32))) ||| (own_m u2 (2 : Int32))) ||| (own_m u2 (3 : Int32))) ||| (own_m u2 (4 : Int32))) ||| (own_m u2 (5 : Int32))) ||| (own_m u2 (6 : Int32))) ||| (own_m u2 (7 : Int32)))))), .second, .unset, .unset, .unset, .unset]) rfl ?_
    exact k
  obtain ⟨wd, e_wd⟩ : ∃ z : Int64, z = ((u0 &&& (((((((((own_m u2 (0 : Int32)) ||| (own_m u2 (1 : Int32))) ||| (own_m u2 (2 : Int32))) ||| (own_m u2 (3 : Int32))) ||| (own_m u2 (4 : Int32))) ||| (own_m u2 (5 : Int32))) ||| (own_m u2 (6 : Int32))) ||| (own_m u2 (7 : Int32))) ^^^ (-1 : Int64))) ||| (((72340172838076673 : Int64) * (bb.toInt64)) &&& ((((((((own_m u2 (0 : Int32)) ||| (own_m u2 (1 : Int32))) ||| (own_m u2 (2 : Int32))) ||| (own_m u2 (3 : Int32))) ||| (own_m u2 (4 : Int32))) ||| (own_m u2 (5 : Int32))) ||| (own_m u2 (6 : Int32))) ||| (own_m u2 (7 : Int32))))) := ⟨_, rfl⟩
  rw [← e_wd] at S10
  obtain ⟨_, _, ⟨T11, L11, k11, n11⟩, -, X11, ⟨Lc11, hQ11, l11, y11, z11⟩, st11⟩ := Jvm.LawKit.callS X9 hx (y := (⟨"com/example/rivanna/rivanna/core/json/EightBytes", "equalTo", "(JI)J"⟩ : MethodName)) hown (mvT hZ (hw _ (List.mem_of_getElem? (i := 7) rfl))) (mvT hZ (hw _ (List.mem_of_getElem? (i := 8) rfl))) (mvT hZ (hw _ (List.mem_of_getElem? (i := 9) rfl))) (mvT hZ (hw _ (List.mem_of_getElem? (i := 10) rfl))) (by decide) (backOf (W := 0) (rm2 l Z a0 hw [] wd bb h0 n0 Z0) hZ (hw _ (List.mem_of_getElem? (i := 10) rfl)) (hw _ (List.mem_of_getElem? (i := 9) rfl)) (by decide) (by decide)) (g := (mkF m 86 #[.val (.long u0), .second, iv u1, iv u2, iv bb, .val (.long ((((((((own_m u2 (0 : Int32)) ||| (own_m u2 (1 : Int32))) ||| (own_m u2 (2 : Int32))) ||| (own_m u2 (3 : Int32))) ||| (own_m u2 (4 : Int32))) ||| (own_m u2 (5 : Int32))) ||| (own_m u2 (6 : Int32))) ||| (own_m u2 (7 : Int32)))), .second, .val (.long ((72340172838076673 : Int64) * (bb.toInt64))), .second, .val (.long wd), .second, .unset, .unset, .unset, .unset] [(.int bb), (.long wd)])) rfl (by rw [hml]; rfl) (argsL := [(.long wd), (.int bb)]) (rest := []) (lenOf pd_1 rfl) rfl (by show 2 * 0 + _ ≤ _; exact Nat.le_of_eq rfl) (hb hby at_86) (fun _ _ => ⟨rfl, eq9, (by decide : 0 + 0 ≤ _), (by decide : 0 + 0 ≤ _)⟩)
  dsimp only [Pt.U, Pt.locs, Pt.cells, Pt.slots] at X11 l11 y11 z11 st11 hQ11
  subst l11 y11 z11
  obtain ⟨rfl, Nq11, eq11⟩ := hQ11
  have N11 := Fr.app N9 Nq11
  obtain ⟨_, _, ⟨T12, L12, k12, n12⟩, -, X12, ⟨Lc12, hQ12, l12, y12, z12⟩, st12⟩ := Jvm.LawKit.callS X11 hx (y := (⟨"com/example/rivanna/rivanna/core/json/EightBytesEqualToPinLaw", "eq", "(JII)Z"⟩ : MethodName)) hown (mvT hZ (hw _ (List.mem_of_getElem? (i := 14) rfl))) (mvT hZ (hw _ (List.mem_of_getElem? (i := 15) rfl))) (mvT hZ (hw _ (List.mem_of_getElem? (i := 2) rfl))) (mvT hZ (hw _ (List.mem_of_getElem? (i := 16) rfl))) (by decide) (backOf (W := 0) (rm3 l Z a0 hw [] wd (0 : Int32) bb h0 n0 Z0) hZ (hw _ (List.mem_of_getElem? (i := 16) rfl)) (hw _ (List.mem_of_getElem? (i := 2) rfl)) (by decide) (by decide)) (g := (mkF m 96 #[.val (.long u0), .second, iv u1, iv u2, iv bb, .val (.long ((((((((own_m u2 (0 : Int32)) ||| (own_m u2 (1 : Int32))) ||| (own_m u2 (2 : Int32))) ||| (own_m u2 (3 : Int32))) ||| (own_m u2 (4 : Int32))) ||| (own_m u2 (5 : Int32))) ||| (own_m u2 (6 : Int32))) ||| (own_m u2 (7 : Int32)))), .second, .val (.long ((72340172838076673 : Int64) * (bb.toInt64))), .second, .val (.long wd), .second, .val (.long (own_q wd bb)), .second, .unset, .unset] [(.int bb), (.int (0 : Int32)), (.long wd)])) rfl (by rw [hml]; rfl) (argsL := [(.long wd), (.int (0 : Int32)), (.int bb)]) (rest := []) (lenOf pd_2 rfl) rfl (by show 2 * 0 + _ ≤ _; exact Nat.le_of_eq rfl) (hb hby at_96) (fun _ _ => ⟨rfl, eq11, (by decide : 0 + 0 ≤ _), (by decide : 0 + 0 ≤ _)⟩)
  dsimp only [Pt.U, Pt.locs, Pt.cells, Pt.slots] at X12 l12 y12 z12 st12 hQ12
  subst l12 y12 z12
  obtain ⟨rfl, Nq12, eq12⟩ := hQ12
  have N12 := Fr.app N11 Nq12
  have S13 : ∀ t, Steps p.tables e below (T12.setTop (mkF m 99 #[.val (.long u0), .second, iv u1, iv u2, iv bb, .val (.long ((((((((own_m u2 (0 : Int32)) ||| (own_m u2 (1 : Int32))) ||| (own_m u2 (2 : Int32))) ||| (own_m u2 (3 : Int32))) ||| (own_m u2 (4 : Int32))) ||| (own_m u2 (5 : Int32))) ||| (own_m u2 (6 : Int32))) ||| (own_m u2 (7 : Int32)))), .second, .val (.long ((72340172838076673 : Int64) * (bb.toInt64))), .second, .val (.long wd), .second, .val (.long (own_q wd bb)), .second, .unset, .unset] [(.int (own_eq wd (0 : Int32) bb))])) t → Steps p.tables e below (s₁.setTop (entryFrame m #[(.long u0), (.int u1), (.int u2)] maxLocals)) t := by
    intro t k
    refine S10 t ?_
    show Steps p.tables e below (T9.setTop (mkF m 82 #[.val (.long u0), .second, iv u1, iv u2, iv bb, .val (.long ((((((((own_m u2 (0 : Int32)) ||| (own_m u2 (1 : Int32))) ||| (own_m u2 (2 : Int32))) ||| (own_m u2 (3 : Int32))) ||| (own_m u2 (4 : Int32))) ||| (own_m u2 (5 : Int32))) ||| (own_m u2 (6 : Int32))) ||| (own_m u2 (7 : Int32)))), .second, .val (.long ((72340172838076673 : Int64) * (bb.toInt64))), .second, .val (.long wd), .second, .unset, .unset, .unset, .unset] [])) _
    refine XS.lload X9.here hx rfl (hb hby at_82) rfl ?_
    show Steps p.tables e below (T9.setTop (mkF m 84 #[.val (.long u0), .second, iv u1, iv u2, iv bb, .val (.long ((((((((own_m u2 (0 : Int32)) ||| (own_m u2 (1 : Int32))) ||| (own_m u2 (2 : Int32))) ||| (own_m u2 (3 : Int32))) ||| (own_m u2 (4 : Int32))) ||| (own_m u2 (5 : Int32))) ||| (own_m u2 (6 : Int32))) ||| (own_m u2 (7 : Int32)))), .second, .val (.long ((72340172838076673 : Int64) * (bb.toInt64))), .second, .val (.long wd), .second, .unset, .unset, .unset, .unset] [(.long wd)])) _
    refine XS.iload X9.here hx rfl (hb hby at_84) rfl ?_
    show Steps p.tables e below (T9.setTop (mkF m 86 #[.val (.long u0), .second, iv u1, iv u2, iv bb, .val (.long ((((((((own_m u2 (0 : Int32)) ||| (own_m u2 (1 : Int32))) ||| (own_m u2 (2 : Int32))) ||| (own_m u2 (3 : Int32))) ||| (own_m u2 (4 : Int32))) ||| (own_m u2 (5 : Int32))) ||| (own_m u2 (6 : Int32))) ||| (own_m u2 (7 : Int32)))), .second, .val (.long ((72340172838076673 : Int64) * (bb.toInt64))), .second, .val (.long wd), .second, .unset, .unset, .unset, .unset] [(.int bb), (.long wd)])) _
    refine st11 _ ?_
    show Steps p.tables e below (T11.setTop (mkF m 89 #[.val (.long u0), .second, iv u1, iv u2, iv bb, .val (.long ((((((((own_m u2 (0 : Int32)) ||| (own_m u2 (1 : Int32))) ||| (own_m u2 (2 : Int32))) ||| (own_m u2 (3 : Int32))) ||| (own_m u2 (4 : Int32))) ||| (own_m u2 (5 : Int32))) ||| (own_m u2 (6 : Int32))) ||| (own_m u2 (7 : Int32)))), .second, .val (.long ((72340172838076673 : Int64) * (bb.toInt64))), .second, .val (.long wd), .second, .unset, .unset, .unset, .unset] [(.long (own_q wd bb))])) _
    refine XS.lstore X11.here hx rfl (hb hby at_89) rfl (l' := #[.val (.long u0), .second, iv u1, iv u2, iv bb, .val (.long ((((((((own_m u2 (0 : Int32)) ||| (own_m u2 (1 : Int32))) ||| (own_m u2 (2 : Int32))) ||| (own_m u2 (3 : Int32))) ||| (own_m u2 (4 : Int32))) ||| (own_m u2 (5 : Int32))) ||| (own_m u2 (6 : Int32))) ||| (own_m u2 (7 : Int32)))), .second, .val (.long ((72340172838076673 : Int64) * (bb.toInt64))), .second, .val (.long wd), .second, .val (.long (own_q wd bb)), .second, .unset, .unset]) rfl ?_
    show Steps p.tables e below (T11.setTop (mkF m 91 #[.val (.long u0), .second, iv u1, iv u2, iv bb, .val (.long ((((((((own_m u2 (0 : Int32)) ||| (own_m u2 (1 : Int32))) ||| (own_m u2 (2 : Int32))) ||| (own_m u2 (3 : Int32))) ||| (own_m u2 (4 : Int32))) ||| (own_m u2 (5 : Int32))) ||| (own_m u2 (6 : Int32))) ||| (own_m u2 (7 : Int32)))), .second, .val (.long ((72340172838076673 : Int64) * (bb.toInt64))), .second, .val (.long wd), .second, .val (.long (own_q wd bb)), .second, .unset, .unset] [])) _
    refine XS.lload X11.here hx rfl (hb hby at_91) rfl ?_
    show Steps p.tables e below (T11.setTop (mkF m 93 #[.val (.long u0), .second, iv u1, iv u2, iv bb, .val (.long ((((((((own_m u2 (0 : Int32)) ||| (own_m u2 (1 : Int32))) ||| (own_m u2 (2 : Int32))) ||| (own_m u2 (3 : Int32))) ||| (own_m u2 (4 : Int32))) ||| (own_m u2 (5 : Int32))) ||| (own_m u2 (6 : Int32))) ||| (own_m u2 (7 : Int32)))), .second, .val (.long ((72340172838076673 : Int64) * (bb.toInt64))), .second, .val (.long wd), .second, .val (.long (own_q wd bb)), .second, .unset, .unset] [(.long wd)])) _
    refine XS.iconst X11.here hx rfl (hb hby at_93) ?_
    show Steps p.tables e below (T11.setTop (mkF m 94 #[.val (.long u0), .second, iv u1, iv u2, iv bb, .val (.long ((((((((own_m u2 (0 : Int32)) ||| (own_m u2 (1 : Int32))) ||| (own_m u2 (2 : Int32))) ||| (own_m u2 (3 : Int32))) ||| (own_m u2 (4 : Int32))) ||| (own_m u2 (5 : Int32))) ||| (own_m u2 (6 : Int32))) ||| (own_m u2 (7 : Int32)))), .second, .val (.long ((72340172838076673 : Int64) * (bb.toInt64))), .second, .val (.long wd), .second, .val (.long (own_q wd bb)), .second, .unset, .unset] [(.int (0 : Int32)), (.long wd)])) _
    refine XS.iload X11.here hx rfl (hb hby at_94) rfl ?_
    show Steps p.tables e below (T11.setTop (mkF m 96 #[.val (.long u0), .second, iv u1, iv u2, iv bb, .val (.long ((((((((own_m u2 (0 : Int32)) ||| (own_m u2 (1 : Int32))) ||| (own_m u2 (2 : Int32))) ||| (own_m u2 (3 : Int32))) ||| (own_m u2 (4 : Int32))) ||| (own_m u2 (5 : Int32))) ||| (own_m u2 (6 : Int32))) ||| (own_m u2 (7 : Int32)))), .second, .val (.long ((72340172838076673 : Int64) * (bb.toInt64))), .second, .val (.long wd), .second, .val (.long (own_q wd bb)), .second, .unset, .unset] [(.int bb), (.int (0 : Int32)), (.long wd)])) _
    refine st12 _ ?_
    exact k
  by_cases hc14 : (own_eq wd (0 : Int32) bb) = (0 : Int32)
  · skip
    obtain ⟨_, _, ⟨T15, L15, k15, n15⟩, -, X15, ⟨Lc15, hQ15, l15, y15, z15⟩, st15⟩ := Jvm.LawKit.callS X12 hx (y := (⟨"com/example/rivanna/rivanna/core/json/EightBytesEqualToPinLaw", "eq", "(JII)Z"⟩ : MethodName)) hown (mvT hZ (hw _ (List.mem_of_getElem? (i := 14) rfl))) (mvT hZ (hw _ (List.mem_of_getElem? (i := 15) rfl))) (mvT hZ (hw _ (List.mem_of_getElem? (i := 2) rfl))) (mvT hZ (hw _ (List.mem_of_getElem? (i := 16) rfl))) (by decide) (backOf (W := 0) (rm3 l Z a0 hw [] wd (1 : Int32) bb h0 n0 Z0) hZ (hw _ (List.mem_of_getElem? (i := 16) rfl)) (hw _ (List.mem_of_getElem? (i := 2) rfl)) (by decide) (by decide)) (g := (mkF m 113 #[.val (.long u0), .second, iv u1, iv u2, iv bb, .val (.long ((((((((own_m u2 (0 : Int32)) ||| (own_m u2 (1 : Int32))) ||| (own_m u2 (2 : Int32))) ||| (own_m u2 (3 : Int32))) ||| (own_m u2 (4 : Int32))) ||| (own_m u2 (5 : Int32))) ||| (own_m u2 (6 : Int32))) ||| (own_m u2 (7 : Int32)))), .second, .val (.long ((72340172838076673 : Int64) * (bb.toInt64))), .second, .val (.long wd), .second, .val (.long (own_q wd bb)), .second, .unset, .unset] [(.int bb), (.int (1 : Int32)), (.long wd)])) rfl (by rw [hml]; rfl) (argsL := [(.long wd), (.int (1 : Int32)), (.int bb)]) (rest := []) (lenOf pd_2 rfl) rfl (by show 2 * 0 + _ ≤ _; exact Nat.le_of_eq rfl) (hb hby at_113) (fun _ _ => ⟨rfl, eq12, (by decide : 0 + 0 ≤ _), (by decide : 0 + 0 ≤ _)⟩)
    dsimp only [Pt.U, Pt.locs, Pt.cells, Pt.slots] at X15 l15 y15 z15 st15 hQ15
    subst l15 y15 z15
    obtain ⟨rfl, Nq15, eq15⟩ := hQ15
    have N15 := Fr.app N12 Nq15
    have S16 : ∀ t, Steps p.tables e below (T15.setTop (mkF m 116 #[.val (.long u0), .second, iv u1, iv u2, iv bb, .val (.long ((((((((own_m u2 (0 : Int32)) ||| (own_m u2 (1 : Int32))) ||| (own_m u2 (2 : Int32))) ||| (own_m u2 (3 : Int32))) ||| (own_m u2 (4 : Int32))) ||| (own_m u2 (5 : Int32))) ||| (own_m u2 (6 : Int32))) ||| (own_m u2 (7 : Int32)))), .second, .val (.long ((72340172838076673 : Int64) * (bb.toInt64))), .second, .val (.long wd), .second, .val (.long (own_q wd bb)), .second, .unset, .unset] [(.int (own_eq wd (1 : Int32) bb))])) t → Steps p.tables e below (s₁.setTop (entryFrame m #[(.long u0), (.int u1), (.int u2)] maxLocals)) t := by
      intro t k
      refine S13 t ?_
      show Steps p.tables e below (T12.setTop (mkF m 99 #[.val (.long u0), .second, iv u1, iv u2, iv bb, .val (.long ((((((((own_m u2 (0 : Int32)) ||| (own_m u2 (1 : Int32))) ||| (own_m u2 (2 : Int32))) ||| (own_m u2 (3 : Int32))) ||| (own_m u2 (4 : Int32))) ||| (own_m u2 (5 : Int32))) ||| (own_m u2 (6 : Int32))) ||| (own_m u2 (7 : Int32)))), .second, .val (.long ((72340172838076673 : Int64) * (bb.toInt64))), .second, .val (.long wd), .second, .val (.long (own_q wd bb)), .second, .unset, .unset] [(.int (own_eq wd (0 : Int32) bb))])) _
      refine XS.ifYes X12.here hx rfl (pc0 := 99) (pc' := 108) rfl (hb hby at_99) rfl ((if0 _ _).trans (teq hc14).1) (by decide) (by decide) ?_
      show Steps p.tables e below (T12.setTop (mkF m 108 #[.val (.long u0), .second, iv u1, iv u2, iv bb, .val (.long ((((((((own_m u2 (0 : Int32)) ||| (own_m u2 (1 : Int32))) ||| (own_m u2 (2 : Int32))) ||| (own_m u2 (3 : Int32))) ||| (own_m u2 (4 : Int32))) ||| (own_m u2 (5 : Int32))) ||| (own_m u2 (6 : Int32))) ||| (own_m u2 (7 : Int32)))), .second, .val (.long ((72340172838076673 : Int64) * (bb.toInt64))), .second, .val (.long wd), .second, .val (.long (own_q wd bb)), .second, .unset, .unset] [])) _
      refine XS.lload X12.here hx rfl (hb hby at_108) rfl ?_
      show Steps p.tables e below (T12.setTop (mkF m 110 #[.val (.long u0), .second, iv u1, iv u2, iv bb, .val (.long ((((((((own_m u2 (0 : Int32)) ||| (own_m u2 (1 : Int32))) ||| (own_m u2 (2 : Int32))) ||| (own_m u2 (3 : Int32))) ||| (own_m u2 (4 : Int32))) ||| (own_m u2 (5 : Int32))) ||| (own_m u2 (6 : Int32))) ||| (own_m u2 (7 : Int32)))), .second, .val (.long ((72340172838076673 : Int64) * (bb.toInt64))), .second, .val (.long wd), .second, .val (.long (own_q wd bb)), .second, .unset, .unset] [(.long wd)])) _
      refine XS.iconst X12.here hx rfl (hb hby at_110) ?_
      show Steps p.tables e below (T12.setTop (mkF m 111 #[.val (.long u0), .second, iv u1, iv u2, iv bb, .val (.long ((((((((own_m u2 (0 : Int32)) ||| (own_m u2 (1 : Int32))) ||| (own_m u2 (2 : Int32))) ||| (own_m u2 (3 : Int32))) ||| (own_m u2 (4 : Int32))) ||| (own_m u2 (5 : Int32))) ||| (own_m u2 (6 : Int32))) ||| (own_m u2 (7 : Int32)))), .second, .val (.long ((72340172838076673 : Int64) * (bb.toInt64))), .second, .val (.long wd), .second, .val (.long (own_q wd bb)), .second, .unset, .unset] [(.int (1 : Int32)), (.long wd)])) _
      refine XS.iload X12.here hx rfl (hb hby at_111) rfl ?_
      show Steps p.tables e below (T12.setTop (mkF m 113 #[.val (.long u0), .second, iv u1, iv u2, iv bb, .val (.long ((((((((own_m u2 (0 : Int32)) ||| (own_m u2 (1 : Int32))) ||| (own_m u2 (2 : Int32))) ||| (own_m u2 (3 : Int32))) ||| (own_m u2 (4 : Int32))) ||| (own_m u2 (5 : Int32))) ||| (own_m u2 (6 : Int32))) ||| (own_m u2 (7 : Int32)))), .second, .val (.long ((72340172838076673 : Int64) * (bb.toInt64))), .second, .val (.long wd), .second, .val (.long (own_q wd bb)), .second, .unset, .unset] [(.int bb), (.int (1 : Int32)), (.long wd)])) _
      refine st15 _ ?_
      exact k
    by_cases hc17 : (own_eq wd (1 : Int32) bb) = (0 : Int32)
    · skip
      obtain ⟨_, _, ⟨T18, L18, k18, n18⟩, -, X18, ⟨Lc18, hQ18, l18, y18, z18⟩, st18⟩ := Jvm.LawKit.callS X15 hx (y := (⟨"com/example/rivanna/rivanna/core/json/EightBytesEqualToPinLaw", "eq", "(JII)Z"⟩ : MethodName)) hown (mvT hZ (hw _ (List.mem_of_getElem? (i := 14) rfl))) (mvT hZ (hw _ (List.mem_of_getElem? (i := 15) rfl))) (mvT hZ (hw _ (List.mem_of_getElem? (i := 2) rfl))) (mvT hZ (hw _ (List.mem_of_getElem? (i := 16) rfl))) (by decide) (backOf (W := 0) (rm3 l Z a0 hw [] wd (2 : Int32) bb h0 n0 Z0) hZ (hw _ (List.mem_of_getElem? (i := 16) rfl)) (hw _ (List.mem_of_getElem? (i := 2) rfl)) (by decide) (by decide)) (g := (mkF m 130 #[.val (.long u0), .second, iv u1, iv u2, iv bb, .val (.long ((((((((own_m u2 (0 : Int32)) ||| (own_m u2 (1 : Int32))) ||| (own_m u2 (2 : Int32))) ||| (own_m u2 (3 : Int32))) ||| (own_m u2 (4 : Int32))) ||| (own_m u2 (5 : Int32))) ||| (own_m u2 (6 : Int32))) ||| (own_m u2 (7 : Int32)))), .second, .val (.long ((72340172838076673 : Int64) * (bb.toInt64))), .second, .val (.long wd), .second, .val (.long (own_q wd bb)), .second, .unset, .unset] [(.int bb), (.int (2 : Int32)), (.long wd)])) rfl (by rw [hml]; rfl) (argsL := [(.long wd), (.int (2 : Int32)), (.int bb)]) (rest := []) (lenOf pd_2 rfl) rfl (by show 2 * 0 + _ ≤ _; exact Nat.le_of_eq rfl) (hb hby at_130) (fun _ _ => ⟨rfl, eq15, (by decide : 0 + 0 ≤ _), (by decide : 0 + 0 ≤ _)⟩)
      dsimp only [Pt.U, Pt.locs, Pt.cells, Pt.slots] at X18 l18 y18 z18 st18 hQ18
      subst l18 y18 z18
      obtain ⟨rfl, Nq18, eq18⟩ := hQ18
      have N18 := Fr.app N15 Nq18
      have S19 : ∀ t, Steps p.tables e below (T18.setTop (mkF m 133 #[.val (.long u0), .second, iv u1, iv u2, iv bb, .val (.long ((((((((own_m u2 (0 : Int32)) ||| (own_m u2 (1 : Int32))) ||| (own_m u2 (2 : Int32))) ||| (own_m u2 (3 : Int32))) ||| (own_m u2 (4 : Int32))) ||| (own_m u2 (5 : Int32))) ||| (own_m u2 (6 : Int32))) ||| (own_m u2 (7 : Int32)))), .second, .val (.long ((72340172838076673 : Int64) * (bb.toInt64))), .second, .val (.long wd), .second, .val (.long (own_q wd bb)), .second, .unset, .unset] [(.int (own_eq wd (2 : Int32) bb))])) t → Steps p.tables e below (s₁.setTop (entryFrame m #[(.long u0), (.int u1), (.int u2)] maxLocals)) t := by
        intro t k
        refine S16 t ?_
        show Steps p.tables e below (T15.setTop (mkF m 116 #[.val (.long u0), .second, iv u1, iv u2, iv bb, .val (.long ((((((((own_m u2 (0 : Int32)) ||| (own_m u2 (1 : Int32))) ||| (own_m u2 (2 : Int32))) ||| (own_m u2 (3 : Int32))) ||| (own_m u2 (4 : Int32))) ||| (own_m u2 (5 : Int32))) ||| (own_m u2 (6 : Int32))) ||| (own_m u2 (7 : Int32)))), .second, .val (.long ((72340172838076673 : Int64) * (bb.toInt64))), .second, .val (.long wd), .second, .val (.long (own_q wd bb)), .second, .unset, .unset] [(.int (own_eq wd (1 : Int32) bb))])) _
        refine XS.ifYes X15.here hx rfl (pc0 := 116) (pc' := 125) rfl (hb hby at_116) rfl ((if0 _ _).trans (teq hc17).1) (by decide) (by decide) ?_
        show Steps p.tables e below (T15.setTop (mkF m 125 #[.val (.long u0), .second, iv u1, iv u2, iv bb, .val (.long ((((((((own_m u2 (0 : Int32)) ||| (own_m u2 (1 : Int32))) ||| (own_m u2 (2 : Int32))) ||| (own_m u2 (3 : Int32))) ||| (own_m u2 (4 : Int32))) ||| (own_m u2 (5 : Int32))) ||| (own_m u2 (6 : Int32))) ||| (own_m u2 (7 : Int32)))), .second, .val (.long ((72340172838076673 : Int64) * (bb.toInt64))), .second, .val (.long wd), .second, .val (.long (own_q wd bb)), .second, .unset, .unset] [])) _
        refine XS.lload X15.here hx rfl (hb hby at_125) rfl ?_
        show Steps p.tables e below (T15.setTop (mkF m 127 #[.val (.long u0), .second, iv u1, iv u2, iv bb, .val (.long ((((((((own_m u2 (0 : Int32)) ||| (own_m u2 (1 : Int32))) ||| (own_m u2 (2 : Int32))) ||| (own_m u2 (3 : Int32))) ||| (own_m u2 (4 : Int32))) ||| (own_m u2 (5 : Int32))) ||| (own_m u2 (6 : Int32))) ||| (own_m u2 (7 : Int32)))), .second, .val (.long ((72340172838076673 : Int64) * (bb.toInt64))), .second, .val (.long wd), .second, .val (.long (own_q wd bb)), .second, .unset, .unset] [(.long wd)])) _
        refine XS.iconst X15.here hx rfl (hb hby at_127) ?_
        show Steps p.tables e below (T15.setTop (mkF m 128 #[.val (.long u0), .second, iv u1, iv u2, iv bb, .val (.long ((((((((own_m u2 (0 : Int32)) ||| (own_m u2 (1 : Int32))) ||| (own_m u2 (2 : Int32))) ||| (own_m u2 (3 : Int32))) ||| (own_m u2 (4 : Int32))) ||| (own_m u2 (5 : Int32))) ||| (own_m u2 (6 : Int32))) ||| (own_m u2 (7 : Int32)))), .second, .val (.long ((72340172838076673 : Int64) * (bb.toInt64))), .second, .val (.long wd), .second, .val (.long (own_q wd bb)), .second, .unset, .unset] [(.int (2 : Int32)), (.long wd)])) _
        refine XS.iload X15.here hx rfl (hb hby at_128) rfl ?_
        show Steps p.tables e below (T15.setTop (mkF m 130 #[.val (.long u0), .second, iv u1, iv u2, iv bb, .val (.long ((((((((own_m u2 (0 : Int32)) ||| (own_m u2 (1 : Int32))) ||| (own_m u2 (2 : Int32))) ||| (own_m u2 (3 : Int32))) ||| (own_m u2 (4 : Int32))) ||| (own_m u2 (5 : Int32))) ||| (own_m u2 (6 : Int32))) ||| (own_m u2 (7 : Int32)))), .second, .val (.long ((72340172838076673 : Int64) * (bb.toInt64))), .second, .val (.long wd), .second, .val (.long (own_q wd bb)), .second, .unset, .unset] [(.int bb), (.int (2 : Int32)), (.long wd)])) _
        refine st18 _ ?_
        exact k
      by_cases hc20 : (own_eq wd (2 : Int32) bb) = (0 : Int32)
      · skip
        obtain ⟨_, _, ⟨T21, L21, k21, n21⟩, -, X21, ⟨Lc21, hQ21, l21, y21, z21⟩, st21⟩ := Jvm.LawKit.callS X18 hx (y := (⟨"com/example/rivanna/rivanna/core/json/EightBytesEqualToPinLaw", "eq", "(JII)Z"⟩ : MethodName)) hown (mvT hZ (hw _ (List.mem_of_getElem? (i := 14) rfl))) (mvT hZ (hw _ (List.mem_of_getElem? (i := 15) rfl))) (mvT hZ (hw _ (List.mem_of_getElem? (i := 2) rfl))) (mvT hZ (hw _ (List.mem_of_getElem? (i := 16) rfl))) (by decide) (backOf (W := 0) (rm3 l Z a0 hw [] wd (3 : Int32) bb h0 n0 Z0) hZ (hw _ (List.mem_of_getElem? (i := 16) rfl)) (hw _ (List.mem_of_getElem? (i := 2) rfl)) (by decide) (by decide)) (g := (mkF m 147 #[.val (.long u0), .second, iv u1, iv u2, iv bb, .val (.long ((((((((own_m u2 (0 : Int32)) ||| (own_m u2 (1 : Int32))) ||| (own_m u2 (2 : Int32))) ||| (own_m u2 (3 : Int32))) ||| (own_m u2 (4 : Int32))) ||| (own_m u2 (5 : Int32))) ||| (own_m u2 (6 : Int32))) ||| (own_m u2 (7 : Int32)))), .second, .val (.long ((72340172838076673 : Int64) * (bb.toInt64))), .second, .val (.long wd), .second, .val (.long (own_q wd bb)), .second, .unset, .unset] [(.int bb), (.int (3 : Int32)), (.long wd)])) rfl (by rw [hml]; rfl) (argsL := [(.long wd), (.int (3 : Int32)), (.int bb)]) (rest := []) (lenOf pd_2 rfl) rfl (by show 2 * 0 + _ ≤ _; exact Nat.le_of_eq rfl) (hb hby at_147) (fun _ _ => ⟨rfl, eq18, (by decide : 0 + 0 ≤ _), (by decide : 0 + 0 ≤ _)⟩)
        dsimp only [Pt.U, Pt.locs, Pt.cells, Pt.slots] at X21 l21 y21 z21 st21 hQ21
        subst l21 y21 z21
        obtain ⟨rfl, Nq21, eq21⟩ := hQ21
        have N21 := Fr.app N18 Nq21
        have S22 : ∀ t, Steps p.tables e below (T21.setTop (mkF m 150 #[.val (.long u0), .second, iv u1, iv u2, iv bb, .val (.long ((((((((own_m u2 (0 : Int32)) ||| (own_m u2 (1 : Int32))) ||| (own_m u2 (2 : Int32))) ||| (own_m u2 (3 : Int32))) ||| (own_m u2 (4 : Int32))) ||| (own_m u2 (5 : Int32))) ||| (own_m u2 (6 : Int32))) ||| (own_m u2 (7 : Int32)))), .second, .val (.long ((72340172838076673 : Int64) * (bb.toInt64))), .second, .val (.long wd), .second, .val (.long (own_q wd bb)), .second, .unset, .unset] [(.int (own_eq wd (3 : Int32) bb))])) t → Steps p.tables e below (s₁.setTop (entryFrame m #[(.long u0), (.int u1), (.int u2)] maxLocals)) t := by
          intro t k
          refine S19 t ?_
          show Steps p.tables e below (T18.setTop (mkF m 133 #[.val (.long u0), .second, iv u1, iv u2, iv bb, .val (.long ((((((((own_m u2 (0 : Int32)) ||| (own_m u2 (1 : Int32))) ||| (own_m u2 (2 : Int32))) ||| (own_m u2 (3 : Int32))) ||| (own_m u2 (4 : Int32))) ||| (own_m u2 (5 : Int32))) ||| (own_m u2 (6 : Int32))) ||| (own_m u2 (7 : Int32)))), .second, .val (.long ((72340172838076673 : Int64) * (bb.toInt64))), .second, .val (.long wd), .second, .val (.long (own_q wd bb)), .second, .unset, .unset] [(.int (own_eq wd (2 : Int32) bb))])) _
          refine XS.ifYes X18.here hx rfl (pc0 := 133) (pc' := 142) rfl (hb hby at_133) rfl ((if0 _ _).trans (teq hc20).1) (by decide) (by decide) ?_
          show Steps p.tables e below (T18.setTop (mkF m 142 #[.val (.long u0), .second, iv u1, iv u2, iv bb, .val (.long ((((((((own_m u2 (0 : Int32)) ||| (own_m u2 (1 : Int32))) ||| (own_m u2 (2 : Int32))) ||| (own_m u2 (3 : Int32))) ||| (own_m u2 (4 : Int32))) ||| (own_m u2 (5 : Int32))) ||| (own_m u2 (6 : Int32))) ||| (own_m u2 (7 : Int32)))), .second, .val (.long ((72340172838076673 : Int64) * (bb.toInt64))), .second, .val (.long wd), .second, .val (.long (own_q wd bb)), .second, .unset, .unset] [])) _
          refine XS.lload X18.here hx rfl (hb hby at_142) rfl ?_
          show Steps p.tables e below (T18.setTop (mkF m 144 #[.val (.long u0), .second, iv u1, iv u2, iv bb, .val (.long ((((((((own_m u2 (0 : Int32)) ||| (own_m u2 (1 : Int32))) ||| (own_m u2 (2 : Int32))) ||| (own_m u2 (3 : Int32))) ||| (own_m u2 (4 : Int32))) ||| (own_m u2 (5 : Int32))) ||| (own_m u2 (6 : Int32))) ||| (own_m u2 (7 : Int32)))), .second, .val (.long ((72340172838076673 : Int64) * (bb.toInt64))), .second, .val (.long wd), .second, .val (.long (own_q wd bb)), .second, .unset, .unset] [(.long wd)])) _
          refine XS.iconst X18.here hx rfl (hb hby at_144) ?_
          show Steps p.tables e below (T18.setTop (mkF m 145 #[.val (.long u0), .second, iv u1, iv u2, iv bb, .val (.long ((((((((own_m u2 (0 : Int32)) ||| (own_m u2 (1 : Int32))) ||| (own_m u2 (2 : Int32))) ||| (own_m u2 (3 : Int32))) ||| (own_m u2 (4 : Int32))) ||| (own_m u2 (5 : Int32))) ||| (own_m u2 (6 : Int32))) ||| (own_m u2 (7 : Int32)))), .second, .val (.long ((72340172838076673 : Int64) * (bb.toInt64))), .second, .val (.long wd), .second, .val (.long (own_q wd bb)), .second, .unset, .unset] [(.int (3 : Int32)), (.long wd)])) _
          refine XS.iload X18.here hx rfl (hb hby at_145) rfl ?_
          show Steps p.tables e below (T18.setTop (mkF m 147 #[.val (.long u0), .second, iv u1, iv u2, iv bb, .val (.long ((((((((own_m u2 (0 : Int32)) ||| (own_m u2 (1 : Int32))) ||| (own_m u2 (2 : Int32))) ||| (own_m u2 (3 : Int32))) ||| (own_m u2 (4 : Int32))) ||| (own_m u2 (5 : Int32))) ||| (own_m u2 (6 : Int32))) ||| (own_m u2 (7 : Int32)))), .second, .val (.long ((72340172838076673 : Int64) * (bb.toInt64))), .second, .val (.long wd), .second, .val (.long (own_q wd bb)), .second, .unset, .unset] [(.int bb), (.int (3 : Int32)), (.long wd)])) _
          refine st21 _ ?_
          exact k
        by_cases hc23 : (own_eq wd (3 : Int32) bb) = (0 : Int32)
        · skip
          obtain ⟨_, _, ⟨T24, L24, k24, n24⟩, -, X24, ⟨Lc24, hQ24, l24, y24, z24⟩, st24⟩ := Jvm.LawKit.callS X21 hx (y := (⟨"com/example/rivanna/rivanna/core/json/EightBytesEqualToPinLaw", "eq", "(JII)Z"⟩ : MethodName)) hown (mvT hZ (hw _ (List.mem_of_getElem? (i := 14) rfl))) (mvT hZ (hw _ (List.mem_of_getElem? (i := 15) rfl))) (mvT hZ (hw _ (List.mem_of_getElem? (i := 2) rfl))) (mvT hZ (hw _ (List.mem_of_getElem? (i := 16) rfl))) (by decide) (backOf (W := 0) (rm3 l Z a0 hw [] wd (4 : Int32) bb h0 n0 Z0) hZ (hw _ (List.mem_of_getElem? (i := 16) rfl)) (hw _ (List.mem_of_getElem? (i := 2) rfl)) (by decide) (by decide)) (g := (mkF m 164 #[.val (.long u0), .second, iv u1, iv u2, iv bb, .val (.long ((((((((own_m u2 (0 : Int32)) ||| (own_m u2 (1 : Int32))) ||| (own_m u2 (2 : Int32))) ||| (own_m u2 (3 : Int32))) ||| (own_m u2 (4 : Int32))) ||| (own_m u2 (5 : Int32))) ||| (own_m u2 (6 : Int32))) ||| (own_m u2 (7 : Int32)))), .second, .val (.long ((72340172838076673 : Int64) * (bb.toInt64))), .second, .val (.long wd), .second, .val (.long (own_q wd bb)), .second, .unset, .unset] [(.int bb), (.int (4 : Int32)), (.long wd)])) rfl (by rw [hml]; rfl) (argsL := [(.long wd), (.int (4 : Int32)), (.int bb)]) (rest := []) (lenOf pd_2 rfl) rfl (by show 2 * 0 + _ ≤ _; exact Nat.le_of_eq rfl) (hb hby at_164) (fun _ _ => ⟨rfl, eq21, (by decide : 0 + 0 ≤ _), (by decide : 0 + 0 ≤ _)⟩)
          dsimp only [Pt.U, Pt.locs, Pt.cells, Pt.slots] at X24 l24 y24 z24 st24 hQ24
          subst l24 y24 z24
          obtain ⟨rfl, Nq24, eq24⟩ := hQ24
          have N24 := Fr.app N21 Nq24
          have S25 : ∀ t, Steps p.tables e below (T24.setTop (mkF m 167 #[.val (.long u0), .second, iv u1, iv u2, iv bb, .val (.long ((((((((own_m u2 (0 : Int32)) ||| (own_m u2 (1 : Int32))) ||| (own_m u2 (2 : Int32))) ||| (own_m u2 (3 : Int32))) ||| (own_m u2 (4 : Int32))) ||| (own_m u2 (5 : Int32))) ||| (own_m u2 (6 : Int32))) ||| (own_m u2 (7 : Int32)))), .second, .val (.long ((72340172838076673 : Int64) * (bb.toInt64))), .second, .val (.long wd), .second, .val (.long (own_q wd bb)), .second, .unset, .unset] [(.int (own_eq wd (4 : Int32) bb))])) t → Steps p.tables e below (s₁.setTop (entryFrame m #[(.long u0), (.int u1), (.int u2)] maxLocals)) t := by
            intro t k
            refine S22 t ?_
            show Steps p.tables e below (T21.setTop (mkF m 150 #[.val (.long u0), .second, iv u1, iv u2, iv bb, .val (.long ((((((((own_m u2 (0 : Int32)) ||| (own_m u2 (1 : Int32))) ||| (own_m u2 (2 : Int32))) ||| (own_m u2 (3 : Int32))) ||| (own_m u2 (4 : Int32))) ||| (own_m u2 (5 : Int32))) ||| (own_m u2 (6 : Int32))) ||| (own_m u2 (7 : Int32)))), .second, .val (.long ((72340172838076673 : Int64) * (bb.toInt64))), .second, .val (.long wd), .second, .val (.long (own_q wd bb)), .second, .unset, .unset] [(.int (own_eq wd (3 : Int32) bb))])) _
            refine XS.ifYes X21.here hx rfl (pc0 := 150) (pc' := 159) rfl (hb hby at_150) rfl ((if0 _ _).trans (teq hc23).1) (by decide) (by decide) ?_
            show Steps p.tables e below (T21.setTop (mkF m 159 #[.val (.long u0), .second, iv u1, iv u2, iv bb, .val (.long ((((((((own_m u2 (0 : Int32)) ||| (own_m u2 (1 : Int32))) ||| (own_m u2 (2 : Int32))) ||| (own_m u2 (3 : Int32))) ||| (own_m u2 (4 : Int32))) ||| (own_m u2 (5 : Int32))) ||| (own_m u2 (6 : Int32))) ||| (own_m u2 (7 : Int32)))), .second, .val (.long ((72340172838076673 : Int64) * (bb.toInt64))), .second, .val (.long wd), .second, .val (.long (own_q wd bb)), .second, .unset, .unset] [])) _
            refine XS.lload X21.here hx rfl (hb hby at_159) rfl ?_
            show Steps p.tables e below (T21.setTop (mkF m 161 #[.val (.long u0), .second, iv u1, iv u2, iv bb, .val (.long ((((((((own_m u2 (0 : Int32)) ||| (own_m u2 (1 : Int32))) ||| (own_m u2 (2 : Int32))) ||| (own_m u2 (3 : Int32))) ||| (own_m u2 (4 : Int32))) ||| (own_m u2 (5 : Int32))) ||| (own_m u2 (6 : Int32))) ||| (own_m u2 (7 : Int32)))), .second, .val (.long ((72340172838076673 : Int64) * (bb.toInt64))), .second, .val (.long wd), .second, .val (.long (own_q wd bb)), .second, .unset, .unset] [(.long wd)])) _
            refine XS.iconst X21.here hx rfl (hb hby at_161) ?_
            show Steps p.tables e below (T21.setTop (mkF m 162 #[.val (.long u0), .second, iv u1, iv u2, iv bb, .val (.long ((((((((own_m u2 (0 : Int32)) ||| (own_m u2 (1 : Int32))) ||| (own_m u2 (2 : Int32))) ||| (own_m u2 (3 : Int32))) ||| (own_m u2 (4 : Int32))) ||| (own_m u2 (5 : Int32))) ||| (own_m u2 (6 : Int32))) ||| (own_m u2 (7 : Int32)))), .second, .val (.long ((72340172838076673 : Int64) * (bb.toInt64))), .second, .val (.long wd), .second, .val (.long (own_q wd bb)), .second, .unset, .unset] [(.int (4 : Int32)), (.long wd)])) _
            refine XS.iload X21.here hx rfl (hb hby at_162) rfl ?_
            show Steps p.tables e below (T21.setTop (mkF m 164 #[.val (.long u0), .second, iv u1, iv u2, iv bb, .val (.long ((((((((own_m u2 (0 : Int32)) ||| (own_m u2 (1 : Int32))) ||| (own_m u2 (2 : Int32))) ||| (own_m u2 (3 : Int32))) ||| (own_m u2 (4 : Int32))) ||| (own_m u2 (5 : Int32))) ||| (own_m u2 (6 : Int32))) ||| (own_m u2 (7 : Int32)))), .second, .val (.long ((72340172838076673 : Int64) * (bb.toInt64))), .second, .val (.long wd), .second, .val (.long (own_q wd bb)), .second, .unset, .unset] [(.int bb), (.int (4 : Int32)), (.long wd)])) _
            refine st24 _ ?_
            exact k
          by_cases hc26 : (own_eq wd (4 : Int32) bb) = (0 : Int32)
          · skip
            obtain ⟨_, _, ⟨T27, L27, k27, n27⟩, -, X27, ⟨Lc27, hQ27, l27, y27, z27⟩, st27⟩ := Jvm.LawKit.callS X24 hx (y := (⟨"com/example/rivanna/rivanna/core/json/EightBytesEqualToPinLaw", "eq", "(JII)Z"⟩ : MethodName)) hown (mvT hZ (hw _ (List.mem_of_getElem? (i := 14) rfl))) (mvT hZ (hw _ (List.mem_of_getElem? (i := 15) rfl))) (mvT hZ (hw _ (List.mem_of_getElem? (i := 2) rfl))) (mvT hZ (hw _ (List.mem_of_getElem? (i := 16) rfl))) (by decide) (backOf (W := 0) (rm3 l Z a0 hw [] wd (5 : Int32) bb h0 n0 Z0) hZ (hw _ (List.mem_of_getElem? (i := 16) rfl)) (hw _ (List.mem_of_getElem? (i := 2) rfl)) (by decide) (by decide)) (g := (mkF m 181 #[.val (.long u0), .second, iv u1, iv u2, iv bb, .val (.long ((((((((own_m u2 (0 : Int32)) ||| (own_m u2 (1 : Int32))) ||| (own_m u2 (2 : Int32))) ||| (own_m u2 (3 : Int32))) ||| (own_m u2 (4 : Int32))) ||| (own_m u2 (5 : Int32))) ||| (own_m u2 (6 : Int32))) ||| (own_m u2 (7 : Int32)))), .second, .val (.long ((72340172838076673 : Int64) * (bb.toInt64))), .second, .val (.long wd), .second, .val (.long (own_q wd bb)), .second, .unset, .unset] [(.int bb), (.int (5 : Int32)), (.long wd)])) rfl (by rw [hml]; rfl) (argsL := [(.long wd), (.int (5 : Int32)), (.int bb)]) (rest := []) (lenOf pd_2 rfl) rfl (by show 2 * 0 + _ ≤ _; exact Nat.le_of_eq rfl) (hb hby at_181) (fun _ _ => ⟨rfl, eq24, (by decide : 0 + 0 ≤ _), (by decide : 0 + 0 ≤ _)⟩)
            dsimp only [Pt.U, Pt.locs, Pt.cells, Pt.slots] at X27 l27 y27 z27 st27 hQ27
            subst l27 y27 z27
            obtain ⟨rfl, Nq27, eq27⟩ := hQ27
            have N27 := Fr.app N24 Nq27
            have S28 : ∀ t, Steps p.tables e below (T27.setTop (mkF m 184 #[.val (.long u0), .second, iv u1, iv u2, iv bb, .val (.long ((((((((own_m u2 (0 : Int32)) ||| (own_m u2 (1 : Int32))) ||| (own_m u2 (2 : Int32))) ||| (own_m u2 (3 : Int32))) ||| (own_m u2 (4 : Int32))) ||| (own_m u2 (5 : Int32))) ||| (own_m u2 (6 : Int32))) ||| (own_m u2 (7 : Int32)))), .second, .val (.long ((72340172838076673 : Int64) * (bb.toInt64))), .second, .val (.long wd), .second, .val (.long (own_q wd bb)), .second, .unset, .unset] [(.int (own_eq wd (5 : Int32) bb))])) t → Steps p.tables e below (s₁.setTop (entryFrame m #[(.long u0), (.int u1), (.int u2)] maxLocals)) t := by
              intro t k
              refine S25 t ?_
              show Steps p.tables e below (T24.setTop (mkF m 167 #[.val (.long u0), .second, iv u1, iv u2, iv bb, .val (.long ((((((((own_m u2 (0 : Int32)) ||| (own_m u2 (1 : Int32))) ||| (own_m u2 (2 : Int32))) ||| (own_m u2 (3 : Int32))) ||| (own_m u2 (4 : Int32))) ||| (own_m u2 (5 : Int32))) ||| (own_m u2 (6 : Int32))) ||| (own_m u2 (7 : Int32)))), .second, .val (.long ((72340172838076673 : Int64) * (bb.toInt64))), .second, .val (.long wd), .second, .val (.long (own_q wd bb)), .second, .unset, .unset] [(.int (own_eq wd (4 : Int32) bb))])) _
              refine XS.ifYes X24.here hx rfl (pc0 := 167) (pc' := 176) rfl (hb hby at_167) rfl ((if0 _ _).trans (teq hc26).1) (by decide) (by decide) ?_
              show Steps p.tables e below (T24.setTop (mkF m 176 #[.val (.long u0), .second, iv u1, iv u2, iv bb, .val (.long ((((((((own_m u2 (0 : Int32)) ||| (own_m u2 (1 : Int32))) ||| (own_m u2 (2 : Int32))) ||| (own_m u2 (3 : Int32))) ||| (own_m u2 (4 : Int32))) ||| (own_m u2 (5 : Int32))) ||| (own_m u2 (6 : Int32))) ||| (own_m u2 (7 : Int32)))), .second, .val (.long ((72340172838076673 : Int64) * (bb.toInt64))), .second, .val (.long wd), .second, .val (.long (own_q wd bb)), .second, .unset, .unset] [])) _
              refine XS.lload X24.here hx rfl (hb hby at_176) rfl ?_
              show Steps p.tables e below (T24.setTop (mkF m 178 #[.val (.long u0), .second, iv u1, iv u2, iv bb, .val (.long ((((((((own_m u2 (0 : Int32)) ||| (own_m u2 (1 : Int32))) ||| (own_m u2 (2 : Int32))) ||| (own_m u2 (3 : Int32))) ||| (own_m u2 (4 : Int32))) ||| (own_m u2 (5 : Int32))) ||| (own_m u2 (6 : Int32))) ||| (own_m u2 (7 : Int32)))), .second, .val (.long ((72340172838076673 : Int64) * (bb.toInt64))), .second, .val (.long wd), .second, .val (.long (own_q wd bb)), .second, .unset, .unset] [(.long wd)])) _
              refine XS.iconst X24.here hx rfl (hb hby at_178) ?_
              show Steps p.tables e below (T24.setTop (mkF m 179 #[.val (.long u0), .second, iv u1, iv u2, iv bb, .val (.long ((((((((own_m u2 (0 : Int32)) ||| (own_m u2 (1 : Int32))) ||| (own_m u2 (2 : Int32))) ||| (own_m u2 (3 : Int32))) ||| (own_m u2 (4 : Int32))) ||| (own_m u2 (5 : Int32))) ||| (own_m u2 (6 : Int32))) ||| (own_m u2 (7 : Int32)))), .second, .val (.long ((72340172838076673 : Int64) * (bb.toInt64))), .second, .val (.long wd), .second, .val (.long (own_q wd bb)), .second, .unset, .unset] [(.int (5 : Int32)), (.long wd)])) _
              refine XS.iload X24.here hx rfl (hb hby at_179) rfl ?_
              show Steps p.tables e below (T24.setTop (mkF m 181 #[.val (.long u0), .second, iv u1, iv u2, iv bb, .val (.long ((((((((own_m u2 (0 : Int32)) ||| (own_m u2 (1 : Int32))) ||| (own_m u2 (2 : Int32))) ||| (own_m u2 (3 : Int32))) ||| (own_m u2 (4 : Int32))) ||| (own_m u2 (5 : Int32))) ||| (own_m u2 (6 : Int32))) ||| (own_m u2 (7 : Int32)))), .second, .val (.long ((72340172838076673 : Int64) * (bb.toInt64))), .second, .val (.long wd), .second, .val (.long (own_q wd bb)), .second, .unset, .unset] [(.int bb), (.int (5 : Int32)), (.long wd)])) _
              refine st27 _ ?_
              exact k
            by_cases hc29 : (own_eq wd (5 : Int32) bb) = (0 : Int32)
            · skip
              obtain ⟨_, _, ⟨T30, L30, k30, n30⟩, -, X30, ⟨Lc30, hQ30, l30, y30, z30⟩, st30⟩ := Jvm.LawKit.callS X27 hx (y := (⟨"com/example/rivanna/rivanna/core/json/EightBytesEqualToPinLaw", "eq", "(JII)Z"⟩ : MethodName)) hown (mvT hZ (hw _ (List.mem_of_getElem? (i := 14) rfl))) (mvT hZ (hw _ (List.mem_of_getElem? (i := 15) rfl))) (mvT hZ (hw _ (List.mem_of_getElem? (i := 2) rfl))) (mvT hZ (hw _ (List.mem_of_getElem? (i := 16) rfl))) (by decide) (backOf (W := 0) (rm3 l Z a0 hw [] wd (6 : Int32) bb h0 n0 Z0) hZ (hw _ (List.mem_of_getElem? (i := 16) rfl)) (hw _ (List.mem_of_getElem? (i := 2) rfl)) (by decide) (by decide)) (g := (mkF m 199 #[.val (.long u0), .second, iv u1, iv u2, iv bb, .val (.long ((((((((own_m u2 (0 : Int32)) ||| (own_m u2 (1 : Int32))) ||| (own_m u2 (2 : Int32))) ||| (own_m u2 (3 : Int32))) ||| (own_m u2 (4 : Int32))) ||| (own_m u2 (5 : Int32))) ||| (own_m u2 (6 : Int32))) ||| (own_m u2 (7 : Int32)))), .second, .val (.long ((72340172838076673 : Int64) * (bb.toInt64))), .second, .val (.long wd), .second, .val (.long (own_q wd bb)), .second, .unset, .unset] [(.int bb), (.int (6 : Int32)), (.long wd)])) rfl (by rw [hml]; rfl) (argsL := [(.long wd), (.int (6 : Int32)), (.int bb)]) (rest := []) (lenOf pd_2 rfl) rfl (by show 2 * 0 + _ ≤ _; exact Nat.le_of_eq rfl) (hb hby at_199) (fun _ _ => ⟨rfl, eq27, (by decide : 0 + 0 ≤ _), (by decide : 0 + 0 ≤ _)⟩)
              dsimp only [Pt.U, Pt.locs, Pt.cells, Pt.slots] at X30 l30 y30 z30 st30 hQ30
              subst l30 y30 z30
              obtain ⟨rfl, Nq30, eq30⟩ := hQ30
              have N30 := Fr.app N27 Nq30
              have S31 : ∀ t, Steps p.tables e below (T30.setTop (mkF m 202 #[.val (.long u0), .second, iv u1, iv u2, iv bb, .val (.long ((((((((own_m u2 (0 : Int32)) ||| (own_m u2 (1 : Int32))) ||| (own_m u2 (2 : Int32))) ||| (own_m u2 (3 : Int32))) ||| (own_m u2 (4 : Int32))) ||| (own_m u2 (5 : Int32))) ||| (own_m u2 (6 : Int32))) ||| (own_m u2 (7 : Int32)))), .second, .val (.long ((72340172838076673 : Int64) * (bb.toInt64))), .second, .val (.long wd), .second, .val (.long (own_q wd bb)), .second, .unset, .unset] [(.int (own_eq wd (6 : Int32) bb))])) t → Steps p.tables e below (s₁.setTop (entryFrame m #[(.long u0), (.int u1), (.int u2)] maxLocals)) t := by
                intro t k
                refine S28 t ?_
                show Steps p.tables e below (T27.setTop (mkF m 184 #[.val (.long u0), .second, iv u1, iv u2, iv bb, .val (.long ((((((((own_m u2 (0 : Int32)) ||| (own_m u2 (1 : Int32))) ||| (own_m u2 (2 : Int32))) ||| (own_m u2 (3 : Int32))) ||| (own_m u2 (4 : Int32))) ||| (own_m u2 (5 : Int32))) ||| (own_m u2 (6 : Int32))) ||| (own_m u2 (7 : Int32)))), .second, .val (.long ((72340172838076673 : Int64) * (bb.toInt64))), .second, .val (.long wd), .second, .val (.long (own_q wd bb)), .second, .unset, .unset] [(.int (own_eq wd (5 : Int32) bb))])) _
                refine XS.ifYes X27.here hx rfl (pc0 := 184) (pc' := 193) rfl (hb hby at_184) rfl ((if0 _ _).trans (teq hc29).1) (by decide) (by decide) ?_
                show Steps p.tables e below (T27.setTop (mkF m 193 #[.val (.long u0), .second, iv u1, iv u2, iv bb, .val (.long ((((((((own_m u2 (0 : Int32)) ||| (own_m u2 (1 : Int32))) ||| (own_m u2 (2 : Int32))) ||| (own_m u2 (3 : Int32))) ||| (own_m u2 (4 : Int32))) ||| (own_m u2 (5 : Int32))) ||| (own_m u2 (6 : Int32))) ||| (own_m u2 (7 : Int32)))), .second, .val (.long ((72340172838076673 : Int64) * (bb.toInt64))), .second, .val (.long wd), .second, .val (.long (own_q wd bb)), .second, .unset, .unset] [])) _
                refine XS.lload X27.here hx rfl (hb hby at_193) rfl ?_
                show Steps p.tables e below (T27.setTop (mkF m 195 #[.val (.long u0), .second, iv u1, iv u2, iv bb, .val (.long ((((((((own_m u2 (0 : Int32)) ||| (own_m u2 (1 : Int32))) ||| (own_m u2 (2 : Int32))) ||| (own_m u2 (3 : Int32))) ||| (own_m u2 (4 : Int32))) ||| (own_m u2 (5 : Int32))) ||| (own_m u2 (6 : Int32))) ||| (own_m u2 (7 : Int32)))), .second, .val (.long ((72340172838076673 : Int64) * (bb.toInt64))), .second, .val (.long wd), .second, .val (.long (own_q wd bb)), .second, .unset, .unset] [(.long wd)])) _
                refine XS.bipush X27.here hx rfl (hb hby at_195) ?_
                show Steps p.tables e below (T27.setTop (mkF m 197 #[.val (.long u0), .second, iv u1, iv u2, iv bb, .val (.long ((((((((own_m u2 (0 : Int32)) ||| (own_m u2 (1 : Int32))) ||| (own_m u2 (2 : Int32))) ||| (own_m u2 (3 : Int32))) ||| (own_m u2 (4 : Int32))) ||| (own_m u2 (5 : Int32))) ||| (own_m u2 (6 : Int32))) ||| (own_m u2 (7 : Int32)))), .second, .val (.long ((72340172838076673 : Int64) * (bb.toInt64))), .second, .val (.long wd), .second, .val (.long (own_q wd bb)), .second, .unset, .unset] [(.int (6 : Int32)), (.long wd)])) _
                refine XS.iload X27.here hx rfl (hb hby at_197) rfl ?_
                show Steps p.tables e below (T27.setTop (mkF m 199 #[.val (.long u0), .second, iv u1, iv u2, iv bb, .val (.long ((((((((own_m u2 (0 : Int32)) ||| (own_m u2 (1 : Int32))) ||| (own_m u2 (2 : Int32))) ||| (own_m u2 (3 : Int32))) ||| (own_m u2 (4 : Int32))) ||| (own_m u2 (5 : Int32))) ||| (own_m u2 (6 : Int32))) ||| (own_m u2 (7 : Int32)))), .second, .val (.long ((72340172838076673 : Int64) * (bb.toInt64))), .second, .val (.long wd), .second, .val (.long (own_q wd bb)), .second, .unset, .unset] [(.int bb), (.int (6 : Int32)), (.long wd)])) _
                refine st30 _ ?_
                exact k
              by_cases hc32 : (own_eq wd (6 : Int32) bb) = (0 : Int32)
              · skip
                obtain ⟨_, _, ⟨T33, L33, k33, n33⟩, -, X33, ⟨Lc33, hQ33, l33, y33, z33⟩, st33⟩ := Jvm.LawKit.callS X30 hx (y := (⟨"com/example/rivanna/rivanna/core/json/EightBytesEqualToPinLaw", "eq", "(JII)Z"⟩ : MethodName)) hown (mvT hZ (hw _ (List.mem_of_getElem? (i := 14) rfl))) (mvT hZ (hw _ (List.mem_of_getElem? (i := 15) rfl))) (mvT hZ (hw _ (List.mem_of_getElem? (i := 2) rfl))) (mvT hZ (hw _ (List.mem_of_getElem? (i := 16) rfl))) (by decide) (backOf (W := 0) (rm3 l Z a0 hw [] wd (7 : Int32) bb h0 n0 Z0) hZ (hw _ (List.mem_of_getElem? (i := 16) rfl)) (hw _ (List.mem_of_getElem? (i := 2) rfl)) (by decide) (by decide)) (g := (mkF m 217 #[.val (.long u0), .second, iv u1, iv u2, iv bb, .val (.long ((((((((own_m u2 (0 : Int32)) ||| (own_m u2 (1 : Int32))) ||| (own_m u2 (2 : Int32))) ||| (own_m u2 (3 : Int32))) ||| (own_m u2 (4 : Int32))) ||| (own_m u2 (5 : Int32))) ||| (own_m u2 (6 : Int32))) ||| (own_m u2 (7 : Int32)))), .second, .val (.long ((72340172838076673 : Int64) * (bb.toInt64))), .second, .val (.long wd), .second, .val (.long (own_q wd bb)), .second, .unset, .unset] [(.int bb), (.int (7 : Int32)), (.long wd)])) rfl (by rw [hml]; rfl) (argsL := [(.long wd), (.int (7 : Int32)), (.int bb)]) (rest := []) (lenOf pd_2 rfl) rfl (by show 2 * 0 + _ ≤ _; exact Nat.le_of_eq rfl) (hb hby at_217) (fun _ _ => ⟨rfl, eq30, (by decide : 0 + 0 ≤ _), (by decide : 0 + 0 ≤ _)⟩)
                dsimp only [Pt.U, Pt.locs, Pt.cells, Pt.slots] at X33 l33 y33 z33 st33 hQ33
                subst l33 y33 z33
                obtain ⟨rfl, Nq33, eq33⟩ := hQ33
                have N33 := Fr.app N30 Nq33
                have S34 : ∀ t, Steps p.tables e below (T33.setTop (mkF m 220 #[.val (.long u0), .second, iv u1, iv u2, iv bb, .val (.long ((((((((own_m u2 (0 : Int32)) ||| (own_m u2 (1 : Int32))) ||| (own_m u2 (2 : Int32))) ||| (own_m u2 (3 : Int32))) ||| (own_m u2 (4 : Int32))) ||| (own_m u2 (5 : Int32))) ||| (own_m u2 (6 : Int32))) ||| (own_m u2 (7 : Int32)))), .second, .val (.long ((72340172838076673 : Int64) * (bb.toInt64))), .second, .val (.long wd), .second, .val (.long (own_q wd bb)), .second, .unset, .unset] [(.int (own_eq wd (7 : Int32) bb))])) t → Steps p.tables e below (s₁.setTop (entryFrame m #[(.long u0), (.int u1), (.int u2)] maxLocals)) t := by
                  intro t k
                  refine S31 t ?_
                  show Steps p.tables e below (T30.setTop (mkF m 202 #[.val (.long u0), .second, iv u1, iv u2, iv bb, .val (.long ((((((((own_m u2 (0 : Int32)) ||| (own_m u2 (1 : Int32))) ||| (own_m u2 (2 : Int32))) ||| (own_m u2 (3 : Int32))) ||| (own_m u2 (4 : Int32))) ||| (own_m u2 (5 : Int32))) ||| (own_m u2 (6 : Int32))) ||| (own_m u2 (7 : Int32)))), .second, .val (.long ((72340172838076673 : Int64) * (bb.toInt64))), .second, .val (.long wd), .second, .val (.long (own_q wd bb)), .second, .unset, .unset] [(.int (own_eq wd (6 : Int32) bb))])) _
                  refine XS.ifYes X30.here hx rfl (pc0 := 202) (pc' := 211) rfl (hb hby at_202) rfl ((if0 _ _).trans (teq hc32).1) (by decide) (by decide) ?_
                  show Steps p.tables e below (T30.setTop (mkF m 211 #[.val (.long u0), .second, iv u1, iv u2, iv bb, .val (.long ((((((((own_m u2 (0 : Int32)) ||| (own_m u2 (1 : Int32))) ||| (own_m u2 (2 : Int32))) ||| (own_m u2 (3 : Int32))) ||| (own_m u2 (4 : Int32))) ||| (own_m u2 (5 : Int32))) ||| (own_m u2 (6 : Int32))) ||| (own_m u2 (7 : Int32)))), .second, .val (.long ((72340172838076673 : Int64) * (bb.toInt64))), .second, .val (.long wd), .second, .val (.long (own_q wd bb)), .second, .unset, .unset] [])) _
                  refine XS.lload X30.here hx rfl (hb hby at_211) rfl ?_
                  show Steps p.tables e below (T30.setTop (mkF m 213 #[.val (.long u0), .second, iv u1, iv u2, iv bb, .val (.long ((((((((own_m u2 (0 : Int32)) ||| (own_m u2 (1 : Int32))) ||| (own_m u2 (2 : Int32))) ||| (own_m u2 (3 : Int32))) ||| (own_m u2 (4 : Int32))) ||| (own_m u2 (5 : Int32))) ||| (own_m u2 (6 : Int32))) ||| (own_m u2 (7 : Int32)))), .second, .val (.long ((72340172838076673 : Int64) * (bb.toInt64))), .second, .val (.long wd), .second, .val (.long (own_q wd bb)), .second, .unset, .unset] [(.long wd)])) _
                  refine XS.bipush X30.here hx rfl (hb hby at_213) ?_
                  show Steps p.tables e below (T30.setTop (mkF m 215 #[.val (.long u0), .second, iv u1, iv u2, iv bb, .val (.long ((((((((own_m u2 (0 : Int32)) ||| (own_m u2 (1 : Int32))) ||| (own_m u2 (2 : Int32))) ||| (own_m u2 (3 : Int32))) ||| (own_m u2 (4 : Int32))) ||| (own_m u2 (5 : Int32))) ||| (own_m u2 (6 : Int32))) ||| (own_m u2 (7 : Int32)))), .second, .val (.long ((72340172838076673 : Int64) * (bb.toInt64))), .second, .val (.long wd), .second, .val (.long (own_q wd bb)), .second, .unset, .unset] [(.int (7 : Int32)), (.long wd)])) _
                  refine XS.iload X30.here hx rfl (hb hby at_215) rfl ?_
                  show Steps p.tables e below (T30.setTop (mkF m 217 #[.val (.long u0), .second, iv u1, iv u2, iv bb, .val (.long ((((((((own_m u2 (0 : Int32)) ||| (own_m u2 (1 : Int32))) ||| (own_m u2 (2 : Int32))) ||| (own_m u2 (3 : Int32))) ||| (own_m u2 (4 : Int32))) ||| (own_m u2 (5 : Int32))) ||| (own_m u2 (6 : Int32))) ||| (own_m u2 (7 : Int32)))), .second, .val (.long ((72340172838076673 : Int64) * (bb.toInt64))), .second, .val (.long wd), .second, .val (.long (own_q wd bb)), .second, .unset, .unset] [(.int bb), (.int (7 : Int32)), (.long wd)])) _
                  refine st33 _ ?_
                  exact k
                by_cases hc35 : (own_eq wd (7 : Int32) bb) = (0 : Int32)
                · skip
                  obtain ⟨fs, hr, hrun, hended, hW, hsame⟩ := X33.leave (v := some (.int (1 : Int32))) (fun h => by rw [Bd.returns] at h; cases h)
                  refine ⟨_, _, S34 _ ?_, hrun, hended, _, _, rfl, ?_, ⟨_, rfl⟩, hW, hsame.mono (by decide) (by decide)⟩
                  · skip
                    show Steps p.tables e below (T33.setTop (mkF m 220 #[.val (.long u0), .second, iv u1, iv u2, iv bb, .val (.long ((((((((own_m u2 (0 : Int32)) ||| (own_m u2 (1 : Int32))) ||| (own_m u2 (2 : Int32))) ||| (own_m u2 (3 : Int32))) ||| (own_m u2 (4 : Int32))) ||| (own_m u2 (5 : Int32))) ||| (own_m u2 (6 : Int32))) ||| (own_m u2 (7 : Int32)))), .second, .val (.long ((72340172838076673 : Int64) * (bb.toInt64))), .second, .val (.long wd), .second, .val (.long (own_q wd bb)), .second, .unset, .unset] [(.int (own_eq wd (7 : Int32) bb))])) _
                    refine XS.ifYes X33.here hx rfl (pc0 := 220) (pc' := 229) rfl (hb hby at_220) rfl ((if0 _ _).trans (teq hc35).1) (by decide) (by decide) ?_
                    show Steps p.tables e below (T33.setTop (mkF m 229 #[.val (.long u0), .second, iv u1, iv u2, iv bb, .val (.long ((((((((own_m u2 (0 : Int32)) ||| (own_m u2 (1 : Int32))) ||| (own_m u2 (2 : Int32))) ||| (own_m u2 (3 : Int32))) ||| (own_m u2 (4 : Int32))) ||| (own_m u2 (5 : Int32))) ||| (own_m u2 (6 : Int32))) ||| (own_m u2 (7 : Int32)))), .second, .val (.long ((72340172838076673 : Int64) * (bb.toInt64))), .second, .val (.long wd), .second, .val (.long (own_q wd bb)), .second, .unset, .unset] [])) _
                    refine XS.lconst X33.here hx rfl (hb hby at_229) ?_
                    show Steps p.tables e below (T33.setTop (mkF m 230 #[.val (.long u0), .second, iv u1, iv u2, iv bb, .val (.long ((((((((own_m u2 (0 : Int32)) ||| (own_m u2 (1 : Int32))) ||| (own_m u2 (2 : Int32))) ||| (own_m u2 (3 : Int32))) ||| (own_m u2 (4 : Int32))) ||| (own_m u2 (5 : Int32))) ||| (own_m u2 (6 : Int32))) ||| (own_m u2 (7 : Int32)))), .second, .val (.long ((72340172838076673 : Int64) * (bb.toInt64))), .second, .val (.long wd), .second, .val (.long (own_q wd bb)), .second, .unset, .unset] [(.long (0 : Int64))])) _
                    refine XS.lstore X33.here hx rfl (hb hby at_230) rfl (l' := #[.val (.long u0), .second, iv u1, iv u2, iv bb, .val (.long ((((((((own_m u2 (0 : Int32)) ||| (own_m u2 (1 : Int32))) ||| (own_m u2 (2 : Int32))) ||| (own_m u2 (3 : Int32))) ||| (own_m u2 (4 : Int32))) ||| (own_m u2 (5 : Int32))) ||| (own_m u2 (6 : Int32))) ||| (own_m u2 (7 : Int32)))), .second, .val (.long ((72340172838076673 : Int64) * (bb.toInt64))), .second, .val (.long wd), .second, .val (.long (own_q wd bb)), .second, .val (.long (0 : Int64)), .second]) rfl ?_
                    show Steps p.tables e below (T33.setTop (mkF m 232 #[.val (.long u0), .second, iv u1, iv u2, iv bb, .val (.long ((((((((own_m u2 (0 : Int32)) ||| (own_m u2 (1 : Int32))) ||| (own_m u2 (2 : Int32))) ||| (own_m u2 (3 : Int32))) ||| (own_m u2 (4 : Int32))) ||| (own_m u2 (5 : Int32))) ||| (own_m u2 (6 : Int32))) ||| (own_m u2 (7 : Int32)))), .second, .val (.long ((72340172838076673 : Int64) * (bb.toInt64))), .second, .val (.long wd), .second, .val (.long (own_q wd bb)), .second, .val (.long (0 : Int64)), .second] [])) _
                    refine XS.lload X33.here hx rfl (hb hby at_232) rfl ?_
                    show Steps p.tables e below (T33.setTop (mkF m 234 #[.val (.long u0), .second, iv u1, iv u2, iv bb, .val (.long ((((((((own_m u2 (0 : Int32)) ||| (own_m u2 (1 : Int32))) ||| (own_m u2 (2 : Int32))) ||| (own_m u2 (3 : Int32))) ||| (own_m u2 (4 : Int32))) ||| (own_m u2 (5 : Int32))) ||| (own_m u2 (6 : Int32))) ||| (own_m u2 (7 : Int32)))), .second, .val (.long ((72340172838076673 : Int64) * (bb.toInt64))), .second, .val (.long wd), .second, .val (.long (own_q wd bb)), .second, .val (.long (0 : Int64)), .second] [(.long (own_q wd bb))])) _
                    refine X33.ldc2Long hx hown (mvT hZ (hw _ (List.mem_of_getElem? (i := 18) rfl))) (g := (mkF m 234 #[.val (.long u0), .second, iv u1, iv u2, iv bb, .val (.long ((((((((own_m u2 (0 : Int32)) ||| (own_m u2 (1 : Int32))) ||| (own_m u2 (2 : Int32))) ||| (own_m u2 (3 : Int32))) ||| (own_m u2 (4 : Int32))) ||| (own_m u2 (5 : Int32))) ||| (own_m u2 (6 : Int32))) ||| (own_m u2 (7 : Int32)))), .second, .val (.long ((72340172838076673 : Int64) * (bb.toInt64))), .second, .val (.long wd), .second, .val (.long (own_q wd bb)), .second, .val (.long (0 : Int64)), .second] [(.long (own_q wd bb))])) rfl (hb hby at_234) _ ?_
                    show Steps p.tables e below (T33.setTop (mkF m 237 #[.val (.long u0), .second, iv u1, iv u2, iv bb, .val (.long ((((((((own_m u2 (0 : Int32)) ||| (own_m u2 (1 : Int32))) ||| (own_m u2 (2 : Int32))) ||| (own_m u2 (3 : Int32))) ||| (own_m u2 (4 : Int32))) ||| (own_m u2 (5 : Int32))) ||| (own_m u2 (6 : Int32))) ||| (own_m u2 (7 : Int32)))), .second, .val (.long ((72340172838076673 : Int64) * (bb.toInt64))), .second, .val (.long wd), .second, .val (.long (own_q wd bb)), .second, .val (.long (0 : Int64)), .second] [(.long (9187201950435737471 : Int64)), (.long (own_q wd bb))])) _
                    refine XS.land X33.here hx rfl (hb hby at_237) rfl ?_
                    show Steps p.tables e below (T33.setTop (mkF m 238 #[.val (.long u0), .second, iv u1, iv u2, iv bb, .val (.long ((((((((own_m u2 (0 : Int32)) ||| (own_m u2 (1 : Int32))) ||| (own_m u2 (2 : Int32))) ||| (own_m u2 (3 : Int32))) ||| (own_m u2 (4 : Int32))) ||| (own_m u2 (5 : Int32))) ||| (own_m u2 (6 : Int32))) ||| (own_m u2 (7 : Int32)))), .second, .val (.long ((72340172838076673 : Int64) * (bb.toInt64))), .second, .val (.long wd), .second, .val (.long (own_q wd bb)), .second, .val (.long (0 : Int64)), .second] [(.long ((own_q wd bb) &&& (9187201950435737471 : Int64)))])) _
                    refine XS.lconst X33.here hx rfl (hb hby at_238) ?_
                    show Steps p.tables e below (T33.setTop (mkF m 239 #[.val (.long u0), .second, iv u1, iv u2, iv bb, .val (.long ((((((((own_m u2 (0 : Int32)) ||| (own_m u2 (1 : Int32))) ||| (own_m u2 (2 : Int32))) ||| (own_m u2 (3 : Int32))) ||| (own_m u2 (4 : Int32))) ||| (own_m u2 (5 : Int32))) ||| (own_m u2 (6 : Int32))) ||| (own_m u2 (7 : Int32)))), .second, .val (.long ((72340172838076673 : Int64) * (bb.toInt64))), .second, .val (.long wd), .second, .val (.long (own_q wd bb)), .second, .val (.long (0 : Int64)), .second] [(.long (0 : Int64)), (.long ((own_q wd bb) &&& (9187201950435737471 : Int64)))])) _
                    refine XS.lcmp X33.here hx rfl (hb hby at_239) rfl ?_
                    show Steps p.tables e below (T33.setTop (mkF m 240 #[.val (.long u0), .second, iv u1, iv u2, iv bb, .val (.long ((((((((own_m u2 (0 : Int32)) ||| (own_m u2 (1 : Int32))) ||| (own_m u2 (2 : Int32))) ||| (own_m u2 (3 : Int32))) ||| (own_m u2 (4 : Int32))) ||| (own_m u2 (5 : Int32))) ||| (own_m u2 (6 : Int32))) ||| (own_m u2 (7 : Int32)))), .second, .val (.long ((72340172838076673 : Int64) * (bb.toInt64))), .second, .val (.long wd), .second, .val (.long (own_q wd bb)), .second, .val (.long (0 : Int64)), .second] [(.int (lcmpW ((own_q wd bb) &&& (9187201950435737471 : Int64)) (0 : Int64)))])) _
                    refine XS.ifNo X33.here hx rfl (hb hby at_240) rfl ((if0 _ _).trans (teq ((lw_eq _ _).mpr (own_qm _ _))).2) ?_
                    show Steps p.tables e below (T33.setTop (mkF m 243 #[.val (.long u0), .second, iv u1, iv u2, iv bb, .val (.long ((((((((own_m u2 (0 : Int32)) ||| (own_m u2 (1 : Int32))) ||| (own_m u2 (2 : Int32))) ||| (own_m u2 (3 : Int32))) ||| (own_m u2 (4 : Int32))) ||| (own_m u2 (5 : Int32))) ||| (own_m u2 (6 : Int32))) ||| (own_m u2 (7 : Int32)))), .second, .val (.long ((72340172838076673 : Int64) * (bb.toInt64))), .second, .val (.long wd), .second, .val (.long (own_q wd bb)), .second, .val (.long (0 : Int64)), .second] [])) _
                    refine XS.lload X33.here hx rfl (hb hby at_243) rfl ?_
                    show Steps p.tables e below (T33.setTop (mkF m 245 #[.val (.long u0), .second, iv u1, iv u2, iv bb, .val (.long ((((((((own_m u2 (0 : Int32)) ||| (own_m u2 (1 : Int32))) ||| (own_m u2 (2 : Int32))) ||| (own_m u2 (3 : Int32))) ||| (own_m u2 (4 : Int32))) ||| (own_m u2 (5 : Int32))) ||| (own_m u2 (6 : Int32))) ||| (own_m u2 (7 : Int32)))), .second, .val (.long ((72340172838076673 : Int64) * (bb.toInt64))), .second, .val (.long wd), .second, .val (.long (own_q wd bb)), .second, .val (.long (0 : Int64)), .second] [(.long (own_q wd bb))])) _
                    refine XS.lload X33.here hx rfl (hb hby at_245) rfl ?_
                    show Steps p.tables e below (T33.setTop (mkF m 247 #[.val (.long u0), .second, iv u1, iv u2, iv bb, .val (.long ((((((((own_m u2 (0 : Int32)) ||| (own_m u2 (1 : Int32))) ||| (own_m u2 (2 : Int32))) ||| (own_m u2 (3 : Int32))) ||| (own_m u2 (4 : Int32))) ||| (own_m u2 (5 : Int32))) ||| (own_m u2 (6 : Int32))) ||| (own_m u2 (7 : Int32)))), .second, .val (.long ((72340172838076673 : Int64) * (bb.toInt64))), .second, .val (.long wd), .second, .val (.long (own_q wd bb)), .second, .val (.long (0 : Int64)), .second] [(.long (own_q wd bb)), (.long (own_q wd bb))])) _
                    refine XS.lneg X33.here hx rfl (hb hby at_247) rfl ?_
                    show Steps p.tables e below (T33.setTop (mkF m 248 #[.val (.long u0), .second, iv u1, iv u2, iv bb, .val (.long ((((((((own_m u2 (0 : Int32)) ||| (own_m u2 (1 : Int32))) ||| (own_m u2 (2 : Int32))) ||| (own_m u2 (3 : Int32))) ||| (own_m u2 (4 : Int32))) ||| (own_m u2 (5 : Int32))) ||| (own_m u2 (6 : Int32))) ||| (own_m u2 (7 : Int32)))), .second, .val (.long ((72340172838076673 : Int64) * (bb.toInt64))), .second, .val (.long wd), .second, .val (.long (own_q wd bb)), .second, .val (.long (0 : Int64)), .second] [(.long (-(own_q wd bb))), (.long (own_q wd bb))])) _
                    refine XS.land X33.here hx rfl (hb hby at_248) rfl ?_
                    show Steps p.tables e below (T33.setTop (mkF m 249 #[.val (.long u0), .second, iv u1, iv u2, iv bb, .val (.long ((((((((own_m u2 (0 : Int32)) ||| (own_m u2 (1 : Int32))) ||| (own_m u2 (2 : Int32))) ||| (own_m u2 (3 : Int32))) ||| (own_m u2 (4 : Int32))) ||| (own_m u2 (5 : Int32))) ||| (own_m u2 (6 : Int32))) ||| (own_m u2 (7 : Int32)))), .second, .val (.long ((72340172838076673 : Int64) * (bb.toInt64))), .second, .val (.long wd), .second, .val (.long (own_q wd bb)), .second, .val (.long (0 : Int64)), .second] [(.long ((own_q wd bb) &&& (-(own_q wd bb))))])) _
                    refine XS.lload X33.here hx rfl (hb hby at_249) rfl ?_
                    show Steps p.tables e below (T33.setTop (mkF m 251 #[.val (.long u0), .second, iv u1, iv u2, iv bb, .val (.long ((((((((own_m u2 (0 : Int32)) ||| (own_m u2 (1 : Int32))) ||| (own_m u2 (2 : Int32))) ||| (own_m u2 (3 : Int32))) ||| (own_m u2 (4 : Int32))) ||| (own_m u2 (5 : Int32))) ||| (own_m u2 (6 : Int32))) ||| (own_m u2 (7 : Int32)))), .second, .val (.long ((72340172838076673 : Int64) * (bb.toInt64))), .second, .val (.long wd), .second, .val (.long (own_q wd bb)), .second, .val (.long (0 : Int64)), .second] [(.long (0 : Int64)), (.long ((own_q wd bb) &&& (-(own_q wd bb))))])) _
                    refine XS.lcmp X33.here hx rfl (hb hby at_251) rfl ?_
                    show Steps p.tables e below (T33.setTop (mkF m 252 #[.val (.long u0), .second, iv u1, iv u2, iv bb, .val (.long ((((((((own_m u2 (0 : Int32)) ||| (own_m u2 (1 : Int32))) ||| (own_m u2 (2 : Int32))) ||| (own_m u2 (3 : Int32))) ||| (own_m u2 (4 : Int32))) ||| (own_m u2 (5 : Int32))) ||| (own_m u2 (6 : Int32))) ||| (own_m u2 (7 : Int32)))), .second, .val (.long ((72340172838076673 : Int64) * (bb.toInt64))), .second, .val (.long wd), .second, .val (.long (own_q wd bb)), .second, .val (.long (0 : Int64)), .second] [(.int (lcmpW ((own_q wd bb) &&& (-(own_q wd bb))) (0 : Int64)))])) _
                    refine XS.ifNo X33.here hx rfl (hb hby at_252) rfl ((if0 _ _).trans (teq ((lw_eq _ _).mpr (own_fin8 wd bb hb7.1 hb7.2 hc14 hc17 hc20 hc23 hc26 hc29 hc32 hc35))).2) ?_
                    show Steps p.tables e below (T33.setTop (mkF m 255 #[.val (.long u0), .second, iv u1, iv u2, iv bb, .val (.long ((((((((own_m u2 (0 : Int32)) ||| (own_m u2 (1 : Int32))) ||| (own_m u2 (2 : Int32))) ||| (own_m u2 (3 : Int32))) ||| (own_m u2 (4 : Int32))) ||| (own_m u2 (5 : Int32))) ||| (own_m u2 (6 : Int32))) ||| (own_m u2 (7 : Int32)))), .second, .val (.long ((72340172838076673 : Int64) * (bb.toInt64))), .second, .val (.long wd), .second, .val (.long (own_q wd bb)), .second, .val (.long (0 : Int64)), .second] [])) _
                    refine XS.iconst X33.here hx rfl (hb hby at_255) ?_
                    show Steps p.tables e below (T33.setTop (mkF m 256 #[.val (.long u0), .second, iv u1, iv u2, iv bb, .val (.long ((((((((own_m u2 (0 : Int32)) ||| (own_m u2 (1 : Int32))) ||| (own_m u2 (2 : Int32))) ||| (own_m u2 (3 : Int32))) ||| (own_m u2 (4 : Int32))) ||| (own_m u2 (5 : Int32))) ||| (own_m u2 (6 : Int32))) ||| (own_m u2 (7 : Int32)))), .second, .val (.long ((72340172838076673 : Int64) * (bb.toInt64))), .second, .val (.long wd), .second, .val (.long (own_q wd bb)), .second, .val (.long (0 : Int64)), .second] [(.int (1 : Int32))])) _
                    refine XS.goto X33.here hx rfl (pc0 := 256) (pc' := 260) rfl (hb hby at_256) (by decide) (by decide) ?_
                    show Steps p.tables e below (T33.setTop (mkF m 260 #[.val (.long u0), .second, iv u1, iv u2, iv bb, .val (.long ((((((((own_m u2 (0 : Int32)) ||| (own_m u2 (1 : Int32))) ||| (own_m u2 (2 : Int32))) ||| (own_m u2 (3 : Int32))) ||| (own_m u2 (4 : Int32))) ||| (own_m u2 (5 : Int32))) ||| (own_m u2 (6 : Int32))) ||| (own_m u2 (7 : Int32)))), .second, .val (.long ((72340172838076673 : Int64) * (bb.toInt64))), .second, .val (.long wd), .second, .val (.long (own_q wd bb)), .second, .val (.long (0 : Int64)), .second] [(.int (1 : Int32))])) _
                    exact retN X33 hx (t := .boolean) Bd.returns (by simp) (hb hby at_260) hr
                  · show Q0 Z u0 u1 u2 h0 n0 _ T33.heap _
                    rw [eq33]
                    exact ⟨rfl, N33⟩
                · skip
                  obtain ⟨fs, hr, hrun, hended, hW, hsame⟩ := X33.leave (v := some (.int (1 : Int32))) (fun h => by rw [Bd.returns] at h; cases h)
                  refine ⟨_, _, S34 _ ?_, hrun, hended, _, _, rfl, ?_, ⟨_, rfl⟩, hW, hsame.mono (by decide) (by decide)⟩
                  · skip
                    show Steps p.tables e below (T33.setTop (mkF m 220 #[.val (.long u0), .second, iv u1, iv u2, iv bb, .val (.long ((((((((own_m u2 (0 : Int32)) ||| (own_m u2 (1 : Int32))) ||| (own_m u2 (2 : Int32))) ||| (own_m u2 (3 : Int32))) ||| (own_m u2 (4 : Int32))) ||| (own_m u2 (5 : Int32))) ||| (own_m u2 (6 : Int32))) ||| (own_m u2 (7 : Int32)))), .second, .val (.long ((72340172838076673 : Int64) * (bb.toInt64))), .second, .val (.long wd), .second, .val (.long (own_q wd bb)), .second, .unset, .unset] [(.int (own_eq wd (7 : Int32) bb))])) _
                    refine XS.ifNo X33.here hx rfl (hb hby at_220) rfl ((if0 _ _).trans (feq hc35).1) ?_
                    show Steps p.tables e below (T33.setTop (mkF m 223 #[.val (.long u0), .second, iv u1, iv u2, iv bb, .val (.long ((((((((own_m u2 (0 : Int32)) ||| (own_m u2 (1 : Int32))) ||| (own_m u2 (2 : Int32))) ||| (own_m u2 (3 : Int32))) ||| (own_m u2 (4 : Int32))) ||| (own_m u2 (5 : Int32))) ||| (own_m u2 (6 : Int32))) ||| (own_m u2 (7 : Int32)))), .second, .val (.long ((72340172838076673 : Int64) * (bb.toInt64))), .second, .val (.long wd), .second, .val (.long (own_q wd bb)), .second, .unset, .unset] [])) _
                    refine X33.ldc2Long hx hown (mvT hZ (hw _ (List.mem_of_getElem? (i := 24) rfl))) (g := (mkF m 223 #[.val (.long u0), .second, iv u1, iv u2, iv bb, .val (.long ((((((((own_m u2 (0 : Int32)) ||| (own_m u2 (1 : Int32))) ||| (own_m u2 (2 : Int32))) ||| (own_m u2 (3 : Int32))) ||| (own_m u2 (4 : Int32))) ||| (own_m u2 (5 : Int32))) ||| (own_m u2 (6 : Int32))) ||| (own_m u2 (7 : Int32)))), .second, .val (.long ((72340172838076673 : Int64) * (bb.toInt64))), .second, .val (.long wd), .second, .val (.long (own_q wd bb)), .second, .unset, .unset] [])) rfl (hb hby at_223) _ ?_
                    show Steps p.tables e below (T33.setTop (mkF m 226 #[.val (.long u0), .second, iv u1, iv u2, iv bb, .val (.long ((((((((own_m u2 (0 : Int32)) ||| (own_m u2 (1 : Int32))) ||| (own_m u2 (2 : Int32))) ||| (own_m u2 (3 : Int32))) ||| (own_m u2 (4 : Int32))) ||| (own_m u2 (5 : Int32))) ||| (own_m u2 (6 : Int32))) ||| (own_m u2 (7 : Int32)))), .second, .val (.long ((72340172838076673 : Int64) * (bb.toInt64))), .second, .val (.long wd), .second, .val (.long (own_q wd bb)), .second, .unset, .unset] [(.long (-9223372036854775808 : Int64))])) _
                    refine XS.goto X33.here hx rfl (pc0 := 226) (pc' := 230) rfl (hb hby at_226) (by decide) (by decide) ?_
                    show Steps p.tables e below (T33.setTop (mkF m 230 #[.val (.long u0), .second, iv u1, iv u2, iv bb, .val (.long ((((((((own_m u2 (0 : Int32)) ||| (own_m u2 (1 : Int32))) ||| (own_m u2 (2 : Int32))) ||| (own_m u2 (3 : Int32))) ||| (own_m u2 (4 : Int32))) ||| (own_m u2 (5 : Int32))) ||| (own_m u2 (6 : Int32))) ||| (own_m u2 (7 : Int32)))), .second, .val (.long ((72340172838076673 : Int64) * (bb.toInt64))), .second, .val (.long wd), .second, .val (.long (own_q wd bb)), .second, .unset, .unset] [(.long (-9223372036854775808 : Int64))])) _
                    refine XS.lstore X33.here hx rfl (hb hby at_230) rfl (l' := #[.val (.long u0), .second, iv u1, iv u2, iv bb, .val (.long ((((((((own_m u2 (0 : Int32)) ||| (own_m u2 (1 : Int32))) ||| (own_m u2 (2 : Int32))) ||| (own_m u2 (3 : Int32))) ||| (own_m u2 (4 : Int32))) ||| (own_m u2 (5 : Int32))) ||| (own_m u2 (6 : Int32))) ||| (own_m u2 (7 : Int32)))), .second, .val (.long ((72340172838076673 : Int64) * (bb.toInt64))), .second, .val (.long wd), .second, .val (.long (own_q wd bb)), .second, .val (.long (-9223372036854775808 : Int64)), .second]) rfl ?_
                    show Steps p.tables e below (T33.setTop (mkF m 232 #[.val (.long u0), .second, iv u1, iv u2, iv bb, .val (.long ((((((((own_m u2 (0 : Int32)) ||| (own_m u2 (1 : Int32))) ||| (own_m u2 (2 : Int32))) ||| (own_m u2 (3 : Int32))) ||| (own_m u2 (4 : Int32))) ||| (own_m u2 (5 : Int32))) ||| (own_m u2 (6 : Int32))) ||| (own_m u2 (7 : Int32)))), .second, .val (.long ((72340172838076673 : Int64) * (bb.toInt64))), .second, .val (.long wd), .second, .val (.long (own_q wd bb)), .second, .val (.long (-9223372036854775808 : Int64)), .second] [])) _
                    refine XS.lload X33.here hx rfl (hb hby at_232) rfl ?_
                    show Steps p.tables e below (T33.setTop (mkF m 234 #[.val (.long u0), .second, iv u1, iv u2, iv bb, .val (.long ((((((((own_m u2 (0 : Int32)) ||| (own_m u2 (1 : Int32))) ||| (own_m u2 (2 : Int32))) ||| (own_m u2 (3 : Int32))) ||| (own_m u2 (4 : Int32))) ||| (own_m u2 (5 : Int32))) ||| (own_m u2 (6 : Int32))) ||| (own_m u2 (7 : Int32)))), .second, .val (.long ((72340172838076673 : Int64) * (bb.toInt64))), .second, .val (.long wd), .second, .val (.long (own_q wd bb)), .second, .val (.long (-9223372036854775808 : Int64)), .second] [(.long (own_q wd bb))])) _
                    refine X33.ldc2Long hx hown (mvT hZ (hw _ (List.mem_of_getElem? (i := 18) rfl))) (g := (mkF m 234 #[.val (.long u0), .second, iv u1, iv u2, iv bb, .val (.long ((((((((own_m u2 (0 : Int32)) ||| (own_m u2 (1 : Int32))) ||| (own_m u2 (2 : Int32))) ||| (own_m u2 (3 : Int32))) ||| (own_m u2 (4 : Int32))) ||| (own_m u2 (5 : Int32))) ||| (own_m u2 (6 : Int32))) ||| (own_m u2 (7 : Int32)))), .second, .val (.long ((72340172838076673 : Int64) * (bb.toInt64))), .second, .val (.long wd), .second, .val (.long (own_q wd bb)), .second, .val (.long (-9223372036854775808 : Int64)), .second] [(.long (own_q wd bb))])) rfl (hb hby at_234) _ ?_
                    show Steps p.tables e below (T33.setTop (mkF m 237 #[.val (.long u0), .second, iv u1, iv u2, iv bb, .val (.long ((((((((own_m u2 (0 : Int32)) ||| (own_m u2 (1 : Int32))) ||| (own_m u2 (2 : Int32))) ||| (own_m u2 (3 : Int32))) ||| (own_m u2 (4 : Int32))) ||| (own_m u2 (5 : Int32))) ||| (own_m u2 (6 : Int32))) ||| (own_m u2 (7 : Int32)))), .second, .val (.long ((72340172838076673 : Int64) * (bb.toInt64))), .second, .val (.long wd), .second, .val (.long (own_q wd bb)), .second, .val (.long (-9223372036854775808 : Int64)), .second] [(.long (9187201950435737471 : Int64)), (.long (own_q wd bb))])) _
                    refine XS.land X33.here hx rfl (hb hby at_237) rfl ?_
                    show Steps p.tables e below (T33.setTop (mkF m 238 #[.val (.long u0), .second, iv u1, iv u2, iv bb, .val (.long ((((((((own_m u2 (0 : Int32)) ||| (own_m u2 (1 : Int32))) ||| (own_m u2 (2 : Int32))) ||| (own_m u2 (3 : Int32))) ||| (own_m u2 (4 : Int32))) ||| (own_m u2 (5 : Int32))) ||| (own_m u2 (6 : Int32))) ||| (own_m u2 (7 : Int32)))), .second, .val (.long ((72340172838076673 : Int64) * (bb.toInt64))), .second, .val (.long wd), .second, .val (.long (own_q wd bb)), .second, .val (.long (-9223372036854775808 : Int64)), .second] [(.long ((own_q wd bb) &&& (9187201950435737471 : Int64)))])) _
                    refine XS.lconst X33.here hx rfl (hb hby at_238) ?_
                    show Steps p.tables e below (T33.setTop (mkF m 239 #[.val (.long u0), .second, iv u1, iv u2, iv bb, .val (.long ((((((((own_m u2 (0 : Int32)) ||| (own_m u2 (1 : Int32))) ||| (own_m u2 (2 : Int32))) ||| (own_m u2 (3 : Int32))) ||| (own_m u2 (4 : Int32))) ||| (own_m u2 (5 : Int32))) ||| (own_m u2 (6 : Int32))) ||| (own_m u2 (7 : Int32)))), .second, .val (.long ((72340172838076673 : Int64) * (bb.toInt64))), .second, .val (.long wd), .second, .val (.long (own_q wd bb)), .second, .val (.long (-9223372036854775808 : Int64)), .second] [(.long (0 : Int64)), (.long ((own_q wd bb) &&& (9187201950435737471 : Int64)))])) _
                    refine XS.lcmp X33.here hx rfl (hb hby at_239) rfl ?_
                    show Steps p.tables e below (T33.setTop (mkF m 240 #[.val (.long u0), .second, iv u1, iv u2, iv bb, .val (.long ((((((((own_m u2 (0 : Int32)) ||| (own_m u2 (1 : Int32))) ||| (own_m u2 (2 : Int32))) ||| (own_m u2 (3 : Int32))) ||| (own_m u2 (4 : Int32))) ||| (own_m u2 (5 : Int32))) ||| (own_m u2 (6 : Int32))) ||| (own_m u2 (7 : Int32)))), .second, .val (.long ((72340172838076673 : Int64) * (bb.toInt64))), .second, .val (.long wd), .second, .val (.long (own_q wd bb)), .second, .val (.long (-9223372036854775808 : Int64)), .second] [(.int (lcmpW ((own_q wd bb) &&& (9187201950435737471 : Int64)) (0 : Int64)))])) _
                    refine XS.ifNo X33.here hx rfl (hb hby at_240) rfl ((if0 _ _).trans (teq ((lw_eq _ _).mpr (own_qm _ _))).2) ?_
                    show Steps p.tables e below (T33.setTop (mkF m 243 #[.val (.long u0), .second, iv u1, iv u2, iv bb, .val (.long ((((((((own_m u2 (0 : Int32)) ||| (own_m u2 (1 : Int32))) ||| (own_m u2 (2 : Int32))) ||| (own_m u2 (3 : Int32))) ||| (own_m u2 (4 : Int32))) ||| (own_m u2 (5 : Int32))) ||| (own_m u2 (6 : Int32))) ||| (own_m u2 (7 : Int32)))), .second, .val (.long ((72340172838076673 : Int64) * (bb.toInt64))), .second, .val (.long wd), .second, .val (.long (own_q wd bb)), .second, .val (.long (-9223372036854775808 : Int64)), .second] [])) _
                    refine XS.lload X33.here hx rfl (hb hby at_243) rfl ?_
                    show Steps p.tables e below (T33.setTop (mkF m 245 #[.val (.long u0), .second, iv u1, iv u2, iv bb, .val (.long ((((((((own_m u2 (0 : Int32)) ||| (own_m u2 (1 : Int32))) ||| (own_m u2 (2 : Int32))) ||| (own_m u2 (3 : Int32))) ||| (own_m u2 (4 : Int32))) ||| (own_m u2 (5 : Int32))) ||| (own_m u2 (6 : Int32))) ||| (own_m u2 (7 : Int32)))), .second, .val (.long ((72340172838076673 : Int64) * (bb.toInt64))), .second, .val (.long wd), .second, .val (.long (own_q wd bb)), .second, .val (.long (-9223372036854775808 : Int64)), .second] [(.long (own_q wd bb))])) _
                    refine XS.lload X33.here hx rfl (hb hby at_245) rfl ?_
                    show Steps p.tables e below (T33.setTop (mkF m 247 #[.val (.long u0), .second, iv u1, iv u2, iv bb, .val (.long ((((((((own_m u2 (0 : Int32)) ||| (own_m u2 (1 : Int32))) ||| (own_m u2 (2 : Int32))) ||| (own_m u2 (3 : Int32))) ||| (own_m u2 (4 : Int32))) ||| (own_m u2 (5 : Int32))) ||| (own_m u2 (6 : Int32))) ||| (own_m u2 (7 : Int32)))), .second, .val (.long ((72340172838076673 : Int64) * (bb.toInt64))), .second, .val (.long wd), .second, .val (.long (own_q wd bb)), .second, .val (.long (-9223372036854775808 : Int64)), .second] [(.long (own_q wd bb)), (.long (own_q wd bb))])) _
                    refine XS.lneg X33.here hx rfl (hb hby at_247) rfl ?_
                    show Steps p.tables e below (T33.setTop (mkF m 248 #[.val (.long u0), .second, iv u1, iv u2, iv bb, .val (.long ((((((((own_m u2 (0 : Int32)) ||| (own_m u2 (1 : Int32))) ||| (own_m u2 (2 : Int32))) ||| (own_m u2 (3 : Int32))) ||| (own_m u2 (4 : Int32))) ||| (own_m u2 (5 : Int32))) ||| (own_m u2 (6 : Int32))) ||| (own_m u2 (7 : Int32)))), .second, .val (.long ((72340172838076673 : Int64) * (bb.toInt64))), .second, .val (.long wd), .second, .val (.long (own_q wd bb)), .second, .val (.long (-9223372036854775808 : Int64)), .second] [(.long (-(own_q wd bb))), (.long (own_q wd bb))])) _
                    refine XS.land X33.here hx rfl (hb hby at_248) rfl ?_
                    show Steps p.tables e below (T33.setTop (mkF m 249 #[.val (.long u0), .second, iv u1, iv u2, iv bb, .val (.long ((((((((own_m u2 (0 : Int32)) ||| (own_m u2 (1 : Int32))) ||| (own_m u2 (2 : Int32))) ||| (own_m u2 (3 : Int32))) ||| (own_m u2 (4 : Int32))) ||| (own_m u2 (5 : Int32))) ||| (own_m u2 (6 : Int32))) ||| (own_m u2 (7 : Int32)))), .second, .val (.long ((72340172838076673 : Int64) * (bb.toInt64))), .second, .val (.long wd), .second, .val (.long (own_q wd bb)), .second, .val (.long (-9223372036854775808 : Int64)), .second] [(.long ((own_q wd bb) &&& (-(own_q wd bb))))])) _
                    refine XS.lload X33.here hx rfl (hb hby at_249) rfl ?_
                    show Steps p.tables e below (T33.setTop (mkF m 251 #[.val (.long u0), .second, iv u1, iv u2, iv bb, .val (.long ((((((((own_m u2 (0 : Int32)) ||| (own_m u2 (1 : Int32))) ||| (own_m u2 (2 : Int32))) ||| (own_m u2 (3 : Int32))) ||| (own_m u2 (4 : Int32))) ||| (own_m u2 (5 : Int32))) ||| (own_m u2 (6 : Int32))) ||| (own_m u2 (7 : Int32)))), .second, .val (.long ((72340172838076673 : Int64) * (bb.toInt64))), .second, .val (.long wd), .second, .val (.long (own_q wd bb)), .second, .val (.long (-9223372036854775808 : Int64)), .second] [(.long (-9223372036854775808 : Int64)), (.long ((own_q wd bb) &&& (-(own_q wd bb))))])) _
                    refine XS.lcmp X33.here hx rfl (hb hby at_251) rfl ?_
                    show Steps p.tables e below (T33.setTop (mkF m 252 #[.val (.long u0), .second, iv u1, iv u2, iv bb, .val (.long ((((((((own_m u2 (0 : Int32)) ||| (own_m u2 (1 : Int32))) ||| (own_m u2 (2 : Int32))) ||| (own_m u2 (3 : Int32))) ||| (own_m u2 (4 : Int32))) ||| (own_m u2 (5 : Int32))) ||| (own_m u2 (6 : Int32))) ||| (own_m u2 (7 : Int32)))), .second, .val (.long ((72340172838076673 : Int64) * (bb.toInt64))), .second, .val (.long wd), .second, .val (.long (own_q wd bb)), .second, .val (.long (-9223372036854775808 : Int64)), .second] [(.int (lcmpW ((own_q wd bb) &&& (-(own_q wd bb))) (-9223372036854775808 : Int64)))])) _
                    refine XS.ifNo X33.here hx rfl (hb hby at_252) rfl ((if0 _ _).trans (teq ((lw_eq _ _).mpr (own_fin7 wd bb hb7.1 hb7.2 hc14 hc17 hc20 hc23 hc26 hc29 hc32 hc35))).2) ?_
                    show Steps p.tables e below (T33.setTop (mkF m 255 #[.val (.long u0), .second, iv u1, iv u2, iv bb, .val (.long ((((((((own_m u2 (0 : Int32)) ||| (own_m u2 (1 : Int32))) ||| (own_m u2 (2 : Int32))) ||| (own_m u2 (3 : Int32))) ||| (own_m u2 (4 : Int32))) ||| (own_m u2 (5 : Int32))) ||| (own_m u2 (6 : Int32))) ||| (own_m u2 (7 : Int32)))), .second, .val (.long ((72340172838076673 : Int64) * (bb.toInt64))), .second, .val (.long wd), .second, .val (.long (own_q wd bb)), .second, .val (.long (-9223372036854775808 : Int64)), .second] [])) _
                    refine XS.iconst X33.here hx rfl (hb hby at_255) ?_
                    show Steps p.tables e below (T33.setTop (mkF m 256 #[.val (.long u0), .second, iv u1, iv u2, iv bb, .val (.long ((((((((own_m u2 (0 : Int32)) ||| (own_m u2 (1 : Int32))) ||| (own_m u2 (2 : Int32))) ||| (own_m u2 (3 : Int32))) ||| (own_m u2 (4 : Int32))) ||| (own_m u2 (5 : Int32))) ||| (own_m u2 (6 : Int32))) ||| (own_m u2 (7 : Int32)))), .second, .val (.long ((72340172838076673 : Int64) * (bb.toInt64))), .second, .val (.long wd), .second, .val (.long (own_q wd bb)), .second, .val (.long (-9223372036854775808 : Int64)), .second] [(.int (1 : Int32))])) _
                    refine XS.goto X33.here hx rfl (pc0 := 256) (pc' := 260) rfl (hb hby at_256) (by decide) (by decide) ?_
                    show Steps p.tables e below (T33.setTop (mkF m 260 #[.val (.long u0), .second, iv u1, iv u2, iv bb, .val (.long ((((((((own_m u2 (0 : Int32)) ||| (own_m u2 (1 : Int32))) ||| (own_m u2 (2 : Int32))) ||| (own_m u2 (3 : Int32))) ||| (own_m u2 (4 : Int32))) ||| (own_m u2 (5 : Int32))) ||| (own_m u2 (6 : Int32))) ||| (own_m u2 (7 : Int32)))), .second, .val (.long ((72340172838076673 : Int64) * (bb.toInt64))), .second, .val (.long wd), .second, .val (.long (own_q wd bb)), .second, .val (.long (-9223372036854775808 : Int64)), .second] [(.int (1 : Int32))])) _
                    exact retN X33 hx (t := .boolean) Bd.returns (by simp) (hb hby at_260) hr
                  · show Q0 Z u0 u1 u2 h0 n0 _ T33.heap _
                    rw [eq33]
                    exact ⟨rfl, N33⟩
              · skip
                obtain ⟨fs, hr, hrun, hended, hW, hsame⟩ := X30.leave (v := some (.int (1 : Int32))) (fun h => by rw [Bd.returns] at h; cases h)
                refine ⟨_, _, S31 _ ?_, hrun, hended, _, _, rfl, ?_, ⟨_, rfl⟩, hW, hsame.mono (by decide) (by decide)⟩
                · skip
                  show Steps p.tables e below (T30.setTop (mkF m 202 #[.val (.long u0), .second, iv u1, iv u2, iv bb, .val (.long ((((((((own_m u2 (0 : Int32)) ||| (own_m u2 (1 : Int32))) ||| (own_m u2 (2 : Int32))) ||| (own_m u2 (3 : Int32))) ||| (own_m u2 (4 : Int32))) ||| (own_m u2 (5 : Int32))) ||| (own_m u2 (6 : Int32))) ||| (own_m u2 (7 : Int32)))), .second, .val (.long ((72340172838076673 : Int64) * (bb.toInt64))), .second, .val (.long wd), .second, .val (.long (own_q wd bb)), .second, .unset, .unset] [(.int (own_eq wd (6 : Int32) bb))])) _
                  refine XS.ifNo X30.here hx rfl (hb hby at_202) rfl ((if0 _ _).trans (feq hc32).1) ?_
                  show Steps p.tables e below (T30.setTop (mkF m 205 #[.val (.long u0), .second, iv u1, iv u2, iv bb, .val (.long ((((((((own_m u2 (0 : Int32)) ||| (own_m u2 (1 : Int32))) ||| (own_m u2 (2 : Int32))) ||| (own_m u2 (3 : Int32))) ||| (own_m u2 (4 : Int32))) ||| (own_m u2 (5 : Int32))) ||| (own_m u2 (6 : Int32))) ||| (own_m u2 (7 : Int32)))), .second, .val (.long ((72340172838076673 : Int64) * (bb.toInt64))), .second, .val (.long wd), .second, .val (.long (own_q wd bb)), .second, .unset, .unset] [])) _
                  refine X30.ldc2Long hx hown (mvT hZ (hw _ (List.mem_of_getElem? (i := 19) rfl))) (g := (mkF m 205 #[.val (.long u0), .second, iv u1, iv u2, iv bb, .val (.long ((((((((own_m u2 (0 : Int32)) ||| (own_m u2 (1 : Int32))) ||| (own_m u2 (2 : Int32))) ||| (own_m u2 (3 : Int32))) ||| (own_m u2 (4 : Int32))) ||| (own_m u2 (5 : Int32))) ||| (own_m u2 (6 : Int32))) ||| (own_m u2 (7 : Int32)))), .second, .val (.long ((72340172838076673 : Int64) * (bb.toInt64))), .second, .val (.long wd), .second, .val (.long (own_q wd bb)), .second, .unset, .unset] [])) rfl (hb hby at_205) _ ?_
                  show Steps p.tables e below (T30.setTop (mkF m 208 #[.val (.long u0), .second, iv u1, iv u2, iv bb, .val (.long ((((((((own_m u2 (0 : Int32)) ||| (own_m u2 (1 : Int32))) ||| (own_m u2 (2 : Int32))) ||| (own_m u2 (3 : Int32))) ||| (own_m u2 (4 : Int32))) ||| (own_m u2 (5 : Int32))) ||| (own_m u2 (6 : Int32))) ||| (own_m u2 (7 : Int32)))), .second, .val (.long ((72340172838076673 : Int64) * (bb.toInt64))), .second, .val (.long wd), .second, .val (.long (own_q wd bb)), .second, .unset, .unset] [(.long (36028797018963968 : Int64))])) _
                  refine XS.goto X30.here hx rfl (pc0 := 208) (pc' := 230) rfl (hb hby at_208) (by decide) (by decide) ?_
                  show Steps p.tables e below (T30.setTop (mkF m 230 #[.val (.long u0), .second, iv u1, iv u2, iv bb, .val (.long ((((((((own_m u2 (0 : Int32)) ||| (own_m u2 (1 : Int32))) ||| (own_m u2 (2 : Int32))) ||| (own_m u2 (3 : Int32))) ||| (own_m u2 (4 : Int32))) ||| (own_m u2 (5 : Int32))) ||| (own_m u2 (6 : Int32))) ||| (own_m u2 (7 : Int32)))), .second, .val (.long ((72340172838076673 : Int64) * (bb.toInt64))), .second, .val (.long wd), .second, .val (.long (own_q wd bb)), .second, .unset, .unset] [(.long (36028797018963968 : Int64))])) _
                  refine XS.lstore X30.here hx rfl (hb hby at_230) rfl (l' := #[.val (.long u0), .second, iv u1, iv u2, iv bb, .val (.long ((((((((own_m u2 (0 : Int32)) ||| (own_m u2 (1 : Int32))) ||| (own_m u2 (2 : Int32))) ||| (own_m u2 (3 : Int32))) ||| (own_m u2 (4 : Int32))) ||| (own_m u2 (5 : Int32))) ||| (own_m u2 (6 : Int32))) ||| (own_m u2 (7 : Int32)))), .second, .val (.long ((72340172838076673 : Int64) * (bb.toInt64))), .second, .val (.long wd), .second, .val (.long (own_q wd bb)), .second, .val (.long (36028797018963968 : Int64)), .second]) rfl ?_
                  show Steps p.tables e below (T30.setTop (mkF m 232 #[.val (.long u0), .second, iv u1, iv u2, iv bb, .val (.long ((((((((own_m u2 (0 : Int32)) ||| (own_m u2 (1 : Int32))) ||| (own_m u2 (2 : Int32))) ||| (own_m u2 (3 : Int32))) ||| (own_m u2 (4 : Int32))) ||| (own_m u2 (5 : Int32))) ||| (own_m u2 (6 : Int32))) ||| (own_m u2 (7 : Int32)))), .second, .val (.long ((72340172838076673 : Int64) * (bb.toInt64))), .second, .val (.long wd), .second, .val (.long (own_q wd bb)), .second, .val (.long (36028797018963968 : Int64)), .second] [])) _
                  refine XS.lload X30.here hx rfl (hb hby at_232) rfl ?_
                  show Steps p.tables e below (T30.setTop (mkF m 234 #[.val (.long u0), .second, iv u1, iv u2, iv bb, .val (.long ((((((((own_m u2 (0 : Int32)) ||| (own_m u2 (1 : Int32))) ||| (own_m u2 (2 : Int32))) ||| (own_m u2 (3 : Int32))) ||| (own_m u2 (4 : Int32))) ||| (own_m u2 (5 : Int32))) ||| (own_m u2 (6 : Int32))) ||| (own_m u2 (7 : Int32)))), .second, .val (.long ((72340172838076673 : Int64) * (bb.toInt64))), .second, .val (.long wd), .second, .val (.long (own_q wd bb)), .second, .val (.long (36028797018963968 : Int64)), .second] [(.long (own_q wd bb))])) _
                  refine X30.ldc2Long hx hown (mvT hZ (hw _ (List.mem_of_getElem? (i := 18) rfl))) (g := (mkF m 234 #[.val (.long u0), .second, iv u1, iv u2, iv bb, .val (.long ((((((((own_m u2 (0 : Int32)) ||| (own_m u2 (1 : Int32))) ||| (own_m u2 (2 : Int32))) ||| (own_m u2 (3 : Int32))) ||| (own_m u2 (4 : Int32))) ||| (own_m u2 (5 : Int32))) ||| (own_m u2 (6 : Int32))) ||| (own_m u2 (7 : Int32)))), .second, .val (.long ((72340172838076673 : Int64) * (bb.toInt64))), .second, .val (.long wd), .second, .val (.long (own_q wd bb)), .second, .val (.long (36028797018963968 : Int64)), .second] [(.long (own_q wd bb))])) rfl (hb hby at_234) _ ?_
                  show Steps p.tables e below (T30.setTop (mkF m 237 #[.val (.long u0), .second, iv u1, iv u2, iv bb, .val (.long ((((((((own_m u2 (0 : Int32)) ||| (own_m u2 (1 : Int32))) ||| (own_m u2 (2 : Int32))) ||| (own_m u2 (3 : Int32))) ||| (own_m u2 (4 : Int32))) ||| (own_m u2 (5 : Int32))) ||| (own_m u2 (6 : Int32))) ||| (own_m u2 (7 : Int32)))), .second, .val (.long ((72340172838076673 : Int64) * (bb.toInt64))), .second, .val (.long wd), .second, .val (.long (own_q wd bb)), .second, .val (.long (36028797018963968 : Int64)), .second] [(.long (9187201950435737471 : Int64)), (.long (own_q wd bb))])) _
                  refine XS.land X30.here hx rfl (hb hby at_237) rfl ?_
                  show Steps p.tables e below (T30.setTop (mkF m 238 #[.val (.long u0), .second, iv u1, iv u2, iv bb, .val (.long ((((((((own_m u2 (0 : Int32)) ||| (own_m u2 (1 : Int32))) ||| (own_m u2 (2 : Int32))) ||| (own_m u2 (3 : Int32))) ||| (own_m u2 (4 : Int32))) ||| (own_m u2 (5 : Int32))) ||| (own_m u2 (6 : Int32))) ||| (own_m u2 (7 : Int32)))), .second, .val (.long ((72340172838076673 : Int64) * (bb.toInt64))), .second, .val (.long wd), .second, .val (.long (own_q wd bb)), .second, .val (.long (36028797018963968 : Int64)), .second] [(.long ((own_q wd bb) &&& (9187201950435737471 : Int64)))])) _
                  refine XS.lconst X30.here hx rfl (hb hby at_238) ?_
                  show Steps p.tables e below (T30.setTop (mkF m 239 #[.val (.long u0), .second, iv u1, iv u2, iv bb, .val (.long ((((((((own_m u2 (0 : Int32)) ||| (own_m u2 (1 : Int32))) ||| (own_m u2 (2 : Int32))) ||| (own_m u2 (3 : Int32))) ||| (own_m u2 (4 : Int32))) ||| (own_m u2 (5 : Int32))) ||| (own_m u2 (6 : Int32))) ||| (own_m u2 (7 : Int32)))), .second, .val (.long ((72340172838076673 : Int64) * (bb.toInt64))), .second, .val (.long wd), .second, .val (.long (own_q wd bb)), .second, .val (.long (36028797018963968 : Int64)), .second] [(.long (0 : Int64)), (.long ((own_q wd bb) &&& (9187201950435737471 : Int64)))])) _
                  refine XS.lcmp X30.here hx rfl (hb hby at_239) rfl ?_
                  show Steps p.tables e below (T30.setTop (mkF m 240 #[.val (.long u0), .second, iv u1, iv u2, iv bb, .val (.long ((((((((own_m u2 (0 : Int32)) ||| (own_m u2 (1 : Int32))) ||| (own_m u2 (2 : Int32))) ||| (own_m u2 (3 : Int32))) ||| (own_m u2 (4 : Int32))) ||| (own_m u2 (5 : Int32))) ||| (own_m u2 (6 : Int32))) ||| (own_m u2 (7 : Int32)))), .second, .val (.long ((72340172838076673 : Int64) * (bb.toInt64))), .second, .val (.long wd), .second, .val (.long (own_q wd bb)), .second, .val (.long (36028797018963968 : Int64)), .second] [(.int (lcmpW ((own_q wd bb) &&& (9187201950435737471 : Int64)) (0 : Int64)))])) _
                  refine XS.ifNo X30.here hx rfl (hb hby at_240) rfl ((if0 _ _).trans (teq ((lw_eq _ _).mpr (own_qm _ _))).2) ?_
                  show Steps p.tables e below (T30.setTop (mkF m 243 #[.val (.long u0), .second, iv u1, iv u2, iv bb, .val (.long ((((((((own_m u2 (0 : Int32)) ||| (own_m u2 (1 : Int32))) ||| (own_m u2 (2 : Int32))) ||| (own_m u2 (3 : Int32))) ||| (own_m u2 (4 : Int32))) ||| (own_m u2 (5 : Int32))) ||| (own_m u2 (6 : Int32))) ||| (own_m u2 (7 : Int32)))), .second, .val (.long ((72340172838076673 : Int64) * (bb.toInt64))), .second, .val (.long wd), .second, .val (.long (own_q wd bb)), .second, .val (.long (36028797018963968 : Int64)), .second] [])) _
                  refine XS.lload X30.here hx rfl (hb hby at_243) rfl ?_
                  show Steps p.tables e below (T30.setTop (mkF m 245 #[.val (.long u0), .second, iv u1, iv u2, iv bb, .val (.long ((((((((own_m u2 (0 : Int32)) ||| (own_m u2 (1 : Int32))) ||| (own_m u2 (2 : Int32))) ||| (own_m u2 (3 : Int32))) ||| (own_m u2 (4 : Int32))) ||| (own_m u2 (5 : Int32))) ||| (own_m u2 (6 : Int32))) ||| (own_m u2 (7 : Int32)))), .second, .val (.long ((72340172838076673 : Int64) * (bb.toInt64))), .second, .val (.long wd), .second, .val (.long (own_q wd bb)), .second, .val (.long (36028797018963968 : Int64)), .second] [(.long (own_q wd bb))])) _
                  refine XS.lload X30.here hx rfl (hb hby at_245) rfl ?_
                  show Steps p.tables e below (T30.setTop (mkF m 247 #[.val (.long u0), .second, iv u1, iv u2, iv bb, .val (.long ((((((((own_m u2 (0 : Int32)) ||| (own_m u2 (1 : Int32))) ||| (own_m u2 (2 : Int32))) ||| (own_m u2 (3 : Int32))) ||| (own_m u2 (4 : Int32))) ||| (own_m u2 (5 : Int32))) ||| (own_m u2 (6 : Int32))) ||| (own_m u2 (7 : Int32)))), .second, .val (.long ((72340172838076673 : Int64) * (bb.toInt64))), .second, .val (.long wd), .second, .val (.long (own_q wd bb)), .second, .val (.long (36028797018963968 : Int64)), .second] [(.long (own_q wd bb)), (.long (own_q wd bb))])) _
                  refine XS.lneg X30.here hx rfl (hb hby at_247) rfl ?_
                  show Steps p.tables e below (T30.setTop (mkF m 248 #[.val (.long u0), .second, iv u1, iv u2, iv bb, .val (.long ((((((((own_m u2 (0 : Int32)) ||| (own_m u2 (1 : Int32))) ||| (own_m u2 (2 : Int32))) ||| (own_m u2 (3 : Int32))) ||| (own_m u2 (4 : Int32))) ||| (own_m u2 (5 : Int32))) ||| (own_m u2 (6 : Int32))) ||| (own_m u2 (7 : Int32)))), .second, .val (.long ((72340172838076673 : Int64) * (bb.toInt64))), .second, .val (.long wd), .second, .val (.long (own_q wd bb)), .second, .val (.long (36028797018963968 : Int64)), .second] [(.long (-(own_q wd bb))), (.long (own_q wd bb))])) _
                  refine XS.land X30.here hx rfl (hb hby at_248) rfl ?_
                  show Steps p.tables e below (T30.setTop (mkF m 249 #[.val (.long u0), .second, iv u1, iv u2, iv bb, .val (.long ((((((((own_m u2 (0 : Int32)) ||| (own_m u2 (1 : Int32))) ||| (own_m u2 (2 : Int32))) ||| (own_m u2 (3 : Int32))) ||| (own_m u2 (4 : Int32))) ||| (own_m u2 (5 : Int32))) ||| (own_m u2 (6 : Int32))) ||| (own_m u2 (7 : Int32)))), .second, .val (.long ((72340172838076673 : Int64) * (bb.toInt64))), .second, .val (.long wd), .second, .val (.long (own_q wd bb)), .second, .val (.long (36028797018963968 : Int64)), .second] [(.long ((own_q wd bb) &&& (-(own_q wd bb))))])) _
                  refine XS.lload X30.here hx rfl (hb hby at_249) rfl ?_
                  show Steps p.tables e below (T30.setTop (mkF m 251 #[.val (.long u0), .second, iv u1, iv u2, iv bb, .val (.long ((((((((own_m u2 (0 : Int32)) ||| (own_m u2 (1 : Int32))) ||| (own_m u2 (2 : Int32))) ||| (own_m u2 (3 : Int32))) ||| (own_m u2 (4 : Int32))) ||| (own_m u2 (5 : Int32))) ||| (own_m u2 (6 : Int32))) ||| (own_m u2 (7 : Int32)))), .second, .val (.long ((72340172838076673 : Int64) * (bb.toInt64))), .second, .val (.long wd), .second, .val (.long (own_q wd bb)), .second, .val (.long (36028797018963968 : Int64)), .second] [(.long (36028797018963968 : Int64)), (.long ((own_q wd bb) &&& (-(own_q wd bb))))])) _
                  refine XS.lcmp X30.here hx rfl (hb hby at_251) rfl ?_
                  show Steps p.tables e below (T30.setTop (mkF m 252 #[.val (.long u0), .second, iv u1, iv u2, iv bb, .val (.long ((((((((own_m u2 (0 : Int32)) ||| (own_m u2 (1 : Int32))) ||| (own_m u2 (2 : Int32))) ||| (own_m u2 (3 : Int32))) ||| (own_m u2 (4 : Int32))) ||| (own_m u2 (5 : Int32))) ||| (own_m u2 (6 : Int32))) ||| (own_m u2 (7 : Int32)))), .second, .val (.long ((72340172838076673 : Int64) * (bb.toInt64))), .second, .val (.long wd), .second, .val (.long (own_q wd bb)), .second, .val (.long (36028797018963968 : Int64)), .second] [(.int (lcmpW ((own_q wd bb) &&& (-(own_q wd bb))) (36028797018963968 : Int64)))])) _
                  refine XS.ifNo X30.here hx rfl (hb hby at_252) rfl ((if0 _ _).trans (teq ((lw_eq _ _).mpr (own_fin6 wd bb hb7.1 hb7.2 hc14 hc17 hc20 hc23 hc26 hc29 hc32))).2) ?_
                  show Steps p.tables e below (T30.setTop (mkF m 255 #[.val (.long u0), .second, iv u1, iv u2, iv bb, .val (.long ((((((((own_m u2 (0 : Int32)) ||| (own_m u2 (1 : Int32))) ||| (own_m u2 (2 : Int32))) ||| (own_m u2 (3 : Int32))) ||| (own_m u2 (4 : Int32))) ||| (own_m u2 (5 : Int32))) ||| (own_m u2 (6 : Int32))) ||| (own_m u2 (7 : Int32)))), .second, .val (.long ((72340172838076673 : Int64) * (bb.toInt64))), .second, .val (.long wd), .second, .val (.long (own_q wd bb)), .second, .val (.long (36028797018963968 : Int64)), .second] [])) _
                  refine XS.iconst X30.here hx rfl (hb hby at_255) ?_
                  show Steps p.tables e below (T30.setTop (mkF m 256 #[.val (.long u0), .second, iv u1, iv u2, iv bb, .val (.long ((((((((own_m u2 (0 : Int32)) ||| (own_m u2 (1 : Int32))) ||| (own_m u2 (2 : Int32))) ||| (own_m u2 (3 : Int32))) ||| (own_m u2 (4 : Int32))) ||| (own_m u2 (5 : Int32))) ||| (own_m u2 (6 : Int32))) ||| (own_m u2 (7 : Int32)))), .second, .val (.long ((72340172838076673 : Int64) * (bb.toInt64))), .second, .val (.long wd), .second, .val (.long (own_q wd bb)), .second, .val (.long (36028797018963968 : Int64)), .second] [(.int (1 : Int32))])) _
                  refine XS.goto X30.here hx rfl (pc0 := 256) (pc' := 260) rfl (hb hby at_256) (by decide) (by decide) ?_
                  show Steps p.tables e below (T30.setTop (mkF m 260 #[.val (.long u0), .second, iv u1, iv u2, iv bb, .val (.long ((((((((own_m u2 (0 : Int32)) ||| (own_m u2 (1 : Int32))) ||| (own_m u2 (2 : Int32))) ||| (own_m u2 (3 : Int32))) ||| (own_m u2 (4 : Int32))) ||| (own_m u2 (5 : Int32))) ||| (own_m u2 (6 : Int32))) ||| (own_m u2 (7 : Int32)))), .second, .val (.long ((72340172838076673 : Int64) * (bb.toInt64))), .second, .val (.long wd), .second, .val (.long (own_q wd bb)), .second, .val (.long (36028797018963968 : Int64)), .second] [(.int (1 : Int32))])) _
                  exact retN X30 hx (t := .boolean) Bd.returns (by simp) (hb hby at_260) hr
                · show Q0 Z u0 u1 u2 h0 n0 _ T30.heap _
                  rw [eq30]
                  exact ⟨rfl, N30⟩
            · skip
              obtain ⟨fs, hr, hrun, hended, hW, hsame⟩ := X27.leave (v := some (.int (1 : Int32))) (fun h => by rw [Bd.returns] at h; cases h)
              refine ⟨_, _, S28 _ ?_, hrun, hended, _, _, rfl, ?_, ⟨_, rfl⟩, hW, hsame.mono (by decide) (by decide)⟩
              · skip
                show Steps p.tables e below (T27.setTop (mkF m 184 #[.val (.long u0), .second, iv u1, iv u2, iv bb, .val (.long ((((((((own_m u2 (0 : Int32)) ||| (own_m u2 (1 : Int32))) ||| (own_m u2 (2 : Int32))) ||| (own_m u2 (3 : Int32))) ||| (own_m u2 (4 : Int32))) ||| (own_m u2 (5 : Int32))) ||| (own_m u2 (6 : Int32))) ||| (own_m u2 (7 : Int32)))), .second, .val (.long ((72340172838076673 : Int64) * (bb.toInt64))), .second, .val (.long wd), .second, .val (.long (own_q wd bb)), .second, .unset, .unset] [(.int (own_eq wd (5 : Int32) bb))])) _
                refine XS.ifNo X27.here hx rfl (hb hby at_184) rfl ((if0 _ _).trans (feq hc29).1) ?_
                show Steps p.tables e below (T27.setTop (mkF m 187 #[.val (.long u0), .second, iv u1, iv u2, iv bb, .val (.long ((((((((own_m u2 (0 : Int32)) ||| (own_m u2 (1 : Int32))) ||| (own_m u2 (2 : Int32))) ||| (own_m u2 (3 : Int32))) ||| (own_m u2 (4 : Int32))) ||| (own_m u2 (5 : Int32))) ||| (own_m u2 (6 : Int32))) ||| (own_m u2 (7 : Int32)))), .second, .val (.long ((72340172838076673 : Int64) * (bb.toInt64))), .second, .val (.long wd), .second, .val (.long (own_q wd bb)), .second, .unset, .unset] [])) _
                refine X27.ldc2Long hx hown (mvT hZ (hw _ (List.mem_of_getElem? (i := 25) rfl))) (g := (mkF m 187 #[.val (.long u0), .second, iv u1, iv u2, iv bb, .val (.long ((((((((own_m u2 (0 : Int32)) ||| (own_m u2 (1 : Int32))) ||| (own_m u2 (2 : Int32))) ||| (own_m u2 (3 : Int32))) ||| (own_m u2 (4 : Int32))) ||| (own_m u2 (5 : Int32))) ||| (own_m u2 (6 : Int32))) ||| (own_m u2 (7 : Int32)))), .second, .val (.long ((72340172838076673 : Int64) * (bb.toInt64))), .second, .val (.long wd), .second, .val (.long (own_q wd bb)), .second, .unset, .unset] [])) rfl (hb hby at_187) _ ?_
                show Steps p.tables e below (T27.setTop (mkF m 190 #[.val (.long u0), .second, iv u1, iv u2, iv bb, .val (.long ((((((((own_m u2 (0 : Int32)) ||| (own_m u2 (1 : Int32))) ||| (own_m u2 (2 : Int32))) ||| (own_m u2 (3 : Int32))) ||| (own_m u2 (4 : Int32))) ||| (own_m u2 (5 : Int32))) ||| (own_m u2 (6 : Int32))) ||| (own_m u2 (7 : Int32)))), .second, .val (.long ((72340172838076673 : Int64) * (bb.toInt64))), .second, .val (.long wd), .second, .val (.long (own_q wd bb)), .second, .unset, .unset] [(.long (140737488355328 : Int64))])) _
                refine XS.goto X27.here hx rfl (pc0 := 190) (pc' := 230) rfl (hb hby at_190) (by decide) (by decide) ?_
                show Steps p.tables e below (T27.setTop (mkF m 230 #[.val (.long u0), .second, iv u1, iv u2, iv bb, .val (.long ((((((((own_m u2 (0 : Int32)) ||| (own_m u2 (1 : Int32))) ||| (own_m u2 (2 : Int32))) ||| (own_m u2 (3 : Int32))) ||| (own_m u2 (4 : Int32))) ||| (own_m u2 (5 : Int32))) ||| (own_m u2 (6 : Int32))) ||| (own_m u2 (7 : Int32)))), .second, .val (.long ((72340172838076673 : Int64) * (bb.toInt64))), .second, .val (.long wd), .second, .val (.long (own_q wd bb)), .second, .unset, .unset] [(.long (140737488355328 : Int64))])) _
                refine XS.lstore X27.here hx rfl (hb hby at_230) rfl (l' := #[.val (.long u0), .second, iv u1, iv u2, iv bb, .val (.long ((((((((own_m u2 (0 : Int32)) ||| (own_m u2 (1 : Int32))) ||| (own_m u2 (2 : Int32))) ||| (own_m u2 (3 : Int32))) ||| (own_m u2 (4 : Int32))) ||| (own_m u2 (5 : Int32))) ||| (own_m u2 (6 : Int32))) ||| (own_m u2 (7 : Int32)))), .second, .val (.long ((72340172838076673 : Int64) * (bb.toInt64))), .second, .val (.long wd), .second, .val (.long (own_q wd bb)), .second, .val (.long (140737488355328 : Int64)), .second]) rfl ?_
                show Steps p.tables e below (T27.setTop (mkF m 232 #[.val (.long u0), .second, iv u1, iv u2, iv bb, .val (.long ((((((((own_m u2 (0 : Int32)) ||| (own_m u2 (1 : Int32))) ||| (own_m u2 (2 : Int32))) ||| (own_m u2 (3 : Int32))) ||| (own_m u2 (4 : Int32))) ||| (own_m u2 (5 : Int32))) ||| (own_m u2 (6 : Int32))) ||| (own_m u2 (7 : Int32)))), .second, .val (.long ((72340172838076673 : Int64) * (bb.toInt64))), .second, .val (.long wd), .second, .val (.long (own_q wd bb)), .second, .val (.long (140737488355328 : Int64)), .second] [])) _
                refine XS.lload X27.here hx rfl (hb hby at_232) rfl ?_
                show Steps p.tables e below (T27.setTop (mkF m 234 #[.val (.long u0), .second, iv u1, iv u2, iv bb, .val (.long ((((((((own_m u2 (0 : Int32)) ||| (own_m u2 (1 : Int32))) ||| (own_m u2 (2 : Int32))) ||| (own_m u2 (3 : Int32))) ||| (own_m u2 (4 : Int32))) ||| (own_m u2 (5 : Int32))) ||| (own_m u2 (6 : Int32))) ||| (own_m u2 (7 : Int32)))), .second, .val (.long ((72340172838076673 : Int64) * (bb.toInt64))), .second, .val (.long wd), .second, .val (.long (own_q wd bb)), .second, .val (.long (140737488355328 : Int64)), .second] [(.long (own_q wd bb))])) _
                refine X27.ldc2Long hx hown (mvT hZ (hw _ (List.mem_of_getElem? (i := 18) rfl))) (g := (mkF m 234 #[.val (.long u0), .second, iv u1, iv u2, iv bb, .val (.long ((((((((own_m u2 (0 : Int32)) ||| (own_m u2 (1 : Int32))) ||| (own_m u2 (2 : Int32))) ||| (own_m u2 (3 : Int32))) ||| (own_m u2 (4 : Int32))) ||| (own_m u2 (5 : Int32))) ||| (own_m u2 (6 : Int32))) ||| (own_m u2 (7 : Int32)))), .second, .val (.long ((72340172838076673 : Int64) * (bb.toInt64))), .second, .val (.long wd), .second, .val (.long (own_q wd bb)), .second, .val (.long (140737488355328 : Int64)), .second] [(.long (own_q wd bb))])) rfl (hb hby at_234) _ ?_
                show Steps p.tables e below (T27.setTop (mkF m 237 #[.val (.long u0), .second, iv u1, iv u2, iv bb, .val (.long ((((((((own_m u2 (0 : Int32)) ||| (own_m u2 (1 : Int32))) ||| (own_m u2 (2 : Int32))) ||| (own_m u2 (3 : Int32))) ||| (own_m u2 (4 : Int32))) ||| (own_m u2 (5 : Int32))) ||| (own_m u2 (6 : Int32))) ||| (own_m u2 (7 : Int32)))), .second, .val (.long ((72340172838076673 : Int64) * (bb.toInt64))), .second, .val (.long wd), .second, .val (.long (own_q wd bb)), .second, .val (.long (140737488355328 : Int64)), .second] [(.long (9187201950435737471 : Int64)), (.long (own_q wd bb))])) _
                refine XS.land X27.here hx rfl (hb hby at_237) rfl ?_
                show Steps p.tables e below (T27.setTop (mkF m 238 #[.val (.long u0), .second, iv u1, iv u2, iv bb, .val (.long ((((((((own_m u2 (0 : Int32)) ||| (own_m u2 (1 : Int32))) ||| (own_m u2 (2 : Int32))) ||| (own_m u2 (3 : Int32))) ||| (own_m u2 (4 : Int32))) ||| (own_m u2 (5 : Int32))) ||| (own_m u2 (6 : Int32))) ||| (own_m u2 (7 : Int32)))), .second, .val (.long ((72340172838076673 : Int64) * (bb.toInt64))), .second, .val (.long wd), .second, .val (.long (own_q wd bb)), .second, .val (.long (140737488355328 : Int64)), .second] [(.long ((own_q wd bb) &&& (9187201950435737471 : Int64)))])) _
                refine XS.lconst X27.here hx rfl (hb hby at_238) ?_
                show Steps p.tables e below (T27.setTop (mkF m 239 #[.val (.long u0), .second, iv u1, iv u2, iv bb, .val (.long ((((((((own_m u2 (0 : Int32)) ||| (own_m u2 (1 : Int32))) ||| (own_m u2 (2 : Int32))) ||| (own_m u2 (3 : Int32))) ||| (own_m u2 (4 : Int32))) ||| (own_m u2 (5 : Int32))) ||| (own_m u2 (6 : Int32))) ||| (own_m u2 (7 : Int32)))), .second, .val (.long ((72340172838076673 : Int64) * (bb.toInt64))), .second, .val (.long wd), .second, .val (.long (own_q wd bb)), .second, .val (.long (140737488355328 : Int64)), .second] [(.long (0 : Int64)), (.long ((own_q wd bb) &&& (9187201950435737471 : Int64)))])) _
                refine XS.lcmp X27.here hx rfl (hb hby at_239) rfl ?_
                show Steps p.tables e below (T27.setTop (mkF m 240 #[.val (.long u0), .second, iv u1, iv u2, iv bb, .val (.long ((((((((own_m u2 (0 : Int32)) ||| (own_m u2 (1 : Int32))) ||| (own_m u2 (2 : Int32))) ||| (own_m u2 (3 : Int32))) ||| (own_m u2 (4 : Int32))) ||| (own_m u2 (5 : Int32))) ||| (own_m u2 (6 : Int32))) ||| (own_m u2 (7 : Int32)))), .second, .val (.long ((72340172838076673 : Int64) * (bb.toInt64))), .second, .val (.long wd), .second, .val (.long (own_q wd bb)), .second, .val (.long (140737488355328 : Int64)), .second] [(.int (lcmpW ((own_q wd bb) &&& (9187201950435737471 : Int64)) (0 : Int64)))])) _
                refine XS.ifNo X27.here hx rfl (hb hby at_240) rfl ((if0 _ _).trans (teq ((lw_eq _ _).mpr (own_qm _ _))).2) ?_
                show Steps p.tables e below (T27.setTop (mkF m 243 #[.val (.long u0), .second, iv u1, iv u2, iv bb, .val (.long ((((((((own_m u2 (0 : Int32)) ||| (own_m u2 (1 : Int32))) ||| (own_m u2 (2 : Int32))) ||| (own_m u2 (3 : Int32))) ||| (own_m u2 (4 : Int32))) ||| (own_m u2 (5 : Int32))) ||| (own_m u2 (6 : Int32))) ||| (own_m u2 (7 : Int32)))), .second, .val (.long ((72340172838076673 : Int64) * (bb.toInt64))), .second, .val (.long wd), .second, .val (.long (own_q wd bb)), .second, .val (.long (140737488355328 : Int64)), .second] [])) _
                refine XS.lload X27.here hx rfl (hb hby at_243) rfl ?_
                show Steps p.tables e below (T27.setTop (mkF m 245 #[.val (.long u0), .second, iv u1, iv u2, iv bb, .val (.long ((((((((own_m u2 (0 : Int32)) ||| (own_m u2 (1 : Int32))) ||| (own_m u2 (2 : Int32))) ||| (own_m u2 (3 : Int32))) ||| (own_m u2 (4 : Int32))) ||| (own_m u2 (5 : Int32))) ||| (own_m u2 (6 : Int32))) ||| (own_m u2 (7 : Int32)))), .second, .val (.long ((72340172838076673 : Int64) * (bb.toInt64))), .second, .val (.long wd), .second, .val (.long (own_q wd bb)), .second, .val (.long (140737488355328 : Int64)), .second] [(.long (own_q wd bb))])) _
                refine XS.lload X27.here hx rfl (hb hby at_245) rfl ?_
                show Steps p.tables e below (T27.setTop (mkF m 247 #[.val (.long u0), .second, iv u1, iv u2, iv bb, .val (.long ((((((((own_m u2 (0 : Int32)) ||| (own_m u2 (1 : Int32))) ||| (own_m u2 (2 : Int32))) ||| (own_m u2 (3 : Int32))) ||| (own_m u2 (4 : Int32))) ||| (own_m u2 (5 : Int32))) ||| (own_m u2 (6 : Int32))) ||| (own_m u2 (7 : Int32)))), .second, .val (.long ((72340172838076673 : Int64) * (bb.toInt64))), .second, .val (.long wd), .second, .val (.long (own_q wd bb)), .second, .val (.long (140737488355328 : Int64)), .second] [(.long (own_q wd bb)), (.long (own_q wd bb))])) _
                refine XS.lneg X27.here hx rfl (hb hby at_247) rfl ?_
                show Steps p.tables e below (T27.setTop (mkF m 248 #[.val (.long u0), .second, iv u1, iv u2, iv bb, .val (.long ((((((((own_m u2 (0 : Int32)) ||| (own_m u2 (1 : Int32))) ||| (own_m u2 (2 : Int32))) ||| (own_m u2 (3 : Int32))) ||| (own_m u2 (4 : Int32))) ||| (own_m u2 (5 : Int32))) ||| (own_m u2 (6 : Int32))) ||| (own_m u2 (7 : Int32)))), .second, .val (.long ((72340172838076673 : Int64) * (bb.toInt64))), .second, .val (.long wd), .second, .val (.long (own_q wd bb)), .second, .val (.long (140737488355328 : Int64)), .second] [(.long (-(own_q wd bb))), (.long (own_q wd bb))])) _
                refine XS.land X27.here hx rfl (hb hby at_248) rfl ?_
                show Steps p.tables e below (T27.setTop (mkF m 249 #[.val (.long u0), .second, iv u1, iv u2, iv bb, .val (.long ((((((((own_m u2 (0 : Int32)) ||| (own_m u2 (1 : Int32))) ||| (own_m u2 (2 : Int32))) ||| (own_m u2 (3 : Int32))) ||| (own_m u2 (4 : Int32))) ||| (own_m u2 (5 : Int32))) ||| (own_m u2 (6 : Int32))) ||| (own_m u2 (7 : Int32)))), .second, .val (.long ((72340172838076673 : Int64) * (bb.toInt64))), .second, .val (.long wd), .second, .val (.long (own_q wd bb)), .second, .val (.long (140737488355328 : Int64)), .second] [(.long ((own_q wd bb) &&& (-(own_q wd bb))))])) _
                refine XS.lload X27.here hx rfl (hb hby at_249) rfl ?_
                show Steps p.tables e below (T27.setTop (mkF m 251 #[.val (.long u0), .second, iv u1, iv u2, iv bb, .val (.long ((((((((own_m u2 (0 : Int32)) ||| (own_m u2 (1 : Int32))) ||| (own_m u2 (2 : Int32))) ||| (own_m u2 (3 : Int32))) ||| (own_m u2 (4 : Int32))) ||| (own_m u2 (5 : Int32))) ||| (own_m u2 (6 : Int32))) ||| (own_m u2 (7 : Int32)))), .second, .val (.long ((72340172838076673 : Int64) * (bb.toInt64))), .second, .val (.long wd), .second, .val (.long (own_q wd bb)), .second, .val (.long (140737488355328 : Int64)), .second] [(.long (140737488355328 : Int64)), (.long ((own_q wd bb) &&& (-(own_q wd bb))))])) _
                refine XS.lcmp X27.here hx rfl (hb hby at_251) rfl ?_
                show Steps p.tables e below (T27.setTop (mkF m 252 #[.val (.long u0), .second, iv u1, iv u2, iv bb, .val (.long ((((((((own_m u2 (0 : Int32)) ||| (own_m u2 (1 : Int32))) ||| (own_m u2 (2 : Int32))) ||| (own_m u2 (3 : Int32))) ||| (own_m u2 (4 : Int32))) ||| (own_m u2 (5 : Int32))) ||| (own_m u2 (6 : Int32))) ||| (own_m u2 (7 : Int32)))), .second, .val (.long ((72340172838076673 : Int64) * (bb.toInt64))), .second, .val (.long wd), .second, .val (.long (own_q wd bb)), .second, .val (.long (140737488355328 : Int64)), .second] [(.int (lcmpW ((own_q wd bb) &&& (-(own_q wd bb))) (140737488355328 : Int64)))])) _
                refine XS.ifNo X27.here hx rfl (hb hby at_252) rfl ((if0 _ _).trans (teq ((lw_eq _ _).mpr (own_fin5 wd bb hb7.1 hb7.2 hc14 hc17 hc20 hc23 hc26 hc29))).2) ?_
                show Steps p.tables e below (T27.setTop (mkF m 255 #[.val (.long u0), .second, iv u1, iv u2, iv bb, .val (.long ((((((((own_m u2 (0 : Int32)) ||| (own_m u2 (1 : Int32))) ||| (own_m u2 (2 : Int32))) ||| (own_m u2 (3 : Int32))) ||| (own_m u2 (4 : Int32))) ||| (own_m u2 (5 : Int32))) ||| (own_m u2 (6 : Int32))) ||| (own_m u2 (7 : Int32)))), .second, .val (.long ((72340172838076673 : Int64) * (bb.toInt64))), .second, .val (.long wd), .second, .val (.long (own_q wd bb)), .second, .val (.long (140737488355328 : Int64)), .second] [])) _
                refine XS.iconst X27.here hx rfl (hb hby at_255) ?_
                show Steps p.tables e below (T27.setTop (mkF m 256 #[.val (.long u0), .second, iv u1, iv u2, iv bb, .val (.long ((((((((own_m u2 (0 : Int32)) ||| (own_m u2 (1 : Int32))) ||| (own_m u2 (2 : Int32))) ||| (own_m u2 (3 : Int32))) ||| (own_m u2 (4 : Int32))) ||| (own_m u2 (5 : Int32))) ||| (own_m u2 (6 : Int32))) ||| (own_m u2 (7 : Int32)))), .second, .val (.long ((72340172838076673 : Int64) * (bb.toInt64))), .second, .val (.long wd), .second, .val (.long (own_q wd bb)), .second, .val (.long (140737488355328 : Int64)), .second] [(.int (1 : Int32))])) _
                refine XS.goto X27.here hx rfl (pc0 := 256) (pc' := 260) rfl (hb hby at_256) (by decide) (by decide) ?_
                show Steps p.tables e below (T27.setTop (mkF m 260 #[.val (.long u0), .second, iv u1, iv u2, iv bb, .val (.long ((((((((own_m u2 (0 : Int32)) ||| (own_m u2 (1 : Int32))) ||| (own_m u2 (2 : Int32))) ||| (own_m u2 (3 : Int32))) ||| (own_m u2 (4 : Int32))) ||| (own_m u2 (5 : Int32))) ||| (own_m u2 (6 : Int32))) ||| (own_m u2 (7 : Int32)))), .second, .val (.long ((72340172838076673 : Int64) * (bb.toInt64))), .second, .val (.long wd), .second, .val (.long (own_q wd bb)), .second, .val (.long (140737488355328 : Int64)), .second] [(.int (1 : Int32))])) _
                exact retN X27 hx (t := .boolean) Bd.returns (by simp) (hb hby at_260) hr
              · show Q0 Z u0 u1 u2 h0 n0 _ T27.heap _
                rw [eq27]
                exact ⟨rfl, N27⟩
          · skip
            obtain ⟨fs, hr, hrun, hended, hW, hsame⟩ := X24.leave (v := some (.int (1 : Int32))) (fun h => by rw [Bd.returns] at h; cases h)
            refine ⟨_, _, S25 _ ?_, hrun, hended, _, _, rfl, ?_, ⟨_, rfl⟩, hW, hsame.mono (by decide) (by decide)⟩
            · skip
              show Steps p.tables e below (T24.setTop (mkF m 167 #[.val (.long u0), .second, iv u1, iv u2, iv bb, .val (.long ((((((((own_m u2 (0 : Int32)) ||| (own_m u2 (1 : Int32))) ||| (own_m u2 (2 : Int32))) ||| (own_m u2 (3 : Int32))) ||| (own_m u2 (4 : Int32))) ||| (own_m u2 (5 : Int32))) ||| (own_m u2 (6 : Int32))) ||| (own_m u2 (7 : Int32)))), .second, .val (.long ((72340172838076673 : Int64) * (bb.toInt64))), .second, .val (.long wd), .second, .val (.long (own_q wd bb)), .second, .unset, .unset] [(.int (own_eq wd (4 : Int32) bb))])) _
              refine XS.ifNo X24.here hx rfl (hb hby at_167) rfl ((if0 _ _).trans (feq hc26).1) ?_
              show Steps p.tables e below (T24.setTop (mkF m 170 #[.val (.long u0), .second, iv u1, iv u2, iv bb, .val (.long ((((((((own_m u2 (0 : Int32)) ||| (own_m u2 (1 : Int32))) ||| (own_m u2 (2 : Int32))) ||| (own_m u2 (3 : Int32))) ||| (own_m u2 (4 : Int32))) ||| (own_m u2 (5 : Int32))) ||| (own_m u2 (6 : Int32))) ||| (own_m u2 (7 : Int32)))), .second, .val (.long ((72340172838076673 : Int64) * (bb.toInt64))), .second, .val (.long wd), .second, .val (.long (own_q wd bb)), .second, .unset, .unset] [])) _
              refine X24.ldc2Long hx hown (mvT hZ (hw _ (List.mem_of_getElem? (i := 23) rfl))) (g := (mkF m 170 #[.val (.long u0), .second, iv u1, iv u2, iv bb, .val (.long ((((((((own_m u2 (0 : Int32)) ||| (own_m u2 (1 : Int32))) ||| (own_m u2 (2 : Int32))) ||| (own_m u2 (3 : Int32))) ||| (own_m u2 (4 : Int32))) ||| (own_m u2 (5 : Int32))) ||| (own_m u2 (6 : Int32))) ||| (own_m u2 (7 : Int32)))), .second, .val (.long ((72340172838076673 : Int64) * (bb.toInt64))), .second, .val (.long wd), .second, .val (.long (own_q wd bb)), .second, .unset, .unset] [])) rfl (hb hby at_170) _ ?_
              show Steps p.tables e below (T24.setTop (mkF m 173 #[.val (.long u0), .second, iv u1, iv u2, iv bb, .val (.long ((((((((own_m u2 (0 : Int32)) ||| (own_m u2 (1 : Int32))) ||| (own_m u2 (2 : Int32))) ||| (own_m u2 (3 : Int32))) ||| (own_m u2 (4 : Int32))) ||| (own_m u2 (5 : Int32))) ||| (own_m u2 (6 : Int32))) ||| (own_m u2 (7 : Int32)))), .second, .val (.long ((72340172838076673 : Int64) * (bb.toInt64))), .second, .val (.long wd), .second, .val (.long (own_q wd bb)), .second, .unset, .unset] [(.long (549755813888 : Int64))])) _
              refine XS.goto X24.here hx rfl (pc0 := 173) (pc' := 230) rfl (hb hby at_173) (by decide) (by decide) ?_
              show Steps p.tables e below (T24.setTop (mkF m 230 #[.val (.long u0), .second, iv u1, iv u2, iv bb, .val (.long ((((((((own_m u2 (0 : Int32)) ||| (own_m u2 (1 : Int32))) ||| (own_m u2 (2 : Int32))) ||| (own_m u2 (3 : Int32))) ||| (own_m u2 (4 : Int32))) ||| (own_m u2 (5 : Int32))) ||| (own_m u2 (6 : Int32))) ||| (own_m u2 (7 : Int32)))), .second, .val (.long ((72340172838076673 : Int64) * (bb.toInt64))), .second, .val (.long wd), .second, .val (.long (own_q wd bb)), .second, .unset, .unset] [(.long (549755813888 : Int64))])) _
              refine XS.lstore X24.here hx rfl (hb hby at_230) rfl (l' := #[.val (.long u0), .second, iv u1, iv u2, iv bb, .val (.long ((((((((own_m u2 (0 : Int32)) ||| (own_m u2 (1 : Int32))) ||| (own_m u2 (2 : Int32))) ||| (own_m u2 (3 : Int32))) ||| (own_m u2 (4 : Int32))) ||| (own_m u2 (5 : Int32))) ||| (own_m u2 (6 : Int32))) ||| (own_m u2 (7 : Int32)))), .second, .val (.long ((72340172838076673 : Int64) * (bb.toInt64))), .second, .val (.long wd), .second, .val (.long (own_q wd bb)), .second, .val (.long (549755813888 : Int64)), .second]) rfl ?_
              show Steps p.tables e below (T24.setTop (mkF m 232 #[.val (.long u0), .second, iv u1, iv u2, iv bb, .val (.long ((((((((own_m u2 (0 : Int32)) ||| (own_m u2 (1 : Int32))) ||| (own_m u2 (2 : Int32))) ||| (own_m u2 (3 : Int32))) ||| (own_m u2 (4 : Int32))) ||| (own_m u2 (5 : Int32))) ||| (own_m u2 (6 : Int32))) ||| (own_m u2 (7 : Int32)))), .second, .val (.long ((72340172838076673 : Int64) * (bb.toInt64))), .second, .val (.long wd), .second, .val (.long (own_q wd bb)), .second, .val (.long (549755813888 : Int64)), .second] [])) _
              refine XS.lload X24.here hx rfl (hb hby at_232) rfl ?_
              show Steps p.tables e below (T24.setTop (mkF m 234 #[.val (.long u0), .second, iv u1, iv u2, iv bb, .val (.long ((((((((own_m u2 (0 : Int32)) ||| (own_m u2 (1 : Int32))) ||| (own_m u2 (2 : Int32))) ||| (own_m u2 (3 : Int32))) ||| (own_m u2 (4 : Int32))) ||| (own_m u2 (5 : Int32))) ||| (own_m u2 (6 : Int32))) ||| (own_m u2 (7 : Int32)))), .second, .val (.long ((72340172838076673 : Int64) * (bb.toInt64))), .second, .val (.long wd), .second, .val (.long (own_q wd bb)), .second, .val (.long (549755813888 : Int64)), .second] [(.long (own_q wd bb))])) _
              refine X24.ldc2Long hx hown (mvT hZ (hw _ (List.mem_of_getElem? (i := 18) rfl))) (g := (mkF m 234 #[.val (.long u0), .second, iv u1, iv u2, iv bb, .val (.long ((((((((own_m u2 (0 : Int32)) ||| (own_m u2 (1 : Int32))) ||| (own_m u2 (2 : Int32))) ||| (own_m u2 (3 : Int32))) ||| (own_m u2 (4 : Int32))) ||| (own_m u2 (5 : Int32))) ||| (own_m u2 (6 : Int32))) ||| (own_m u2 (7 : Int32)))), .second, .val (.long ((72340172838076673 : Int64) * (bb.toInt64))), .second, .val (.long wd), .second, .val (.long (own_q wd bb)), .second, .val (.long (549755813888 : Int64)), .second] [(.long (own_q wd bb))])) rfl (hb hby at_234) _ ?_
              show Steps p.tables e below (T24.setTop (mkF m 237 #[.val (.long u0), .second, iv u1, iv u2, iv bb, .val (.long ((((((((own_m u2 (0 : Int32)) ||| (own_m u2 (1 : Int32))) ||| (own_m u2 (2 : Int32))) ||| (own_m u2 (3 : Int32))) ||| (own_m u2 (4 : Int32))) ||| (own_m u2 (5 : Int32))) ||| (own_m u2 (6 : Int32))) ||| (own_m u2 (7 : Int32)))), .second, .val (.long ((72340172838076673 : Int64) * (bb.toInt64))), .second, .val (.long wd), .second, .val (.long (own_q wd bb)), .second, .val (.long (549755813888 : Int64)), .second] [(.long (9187201950435737471 : Int64)), (.long (own_q wd bb))])) _
              refine XS.land X24.here hx rfl (hb hby at_237) rfl ?_
              show Steps p.tables e below (T24.setTop (mkF m 238 #[.val (.long u0), .second, iv u1, iv u2, iv bb, .val (.long ((((((((own_m u2 (0 : Int32)) ||| (own_m u2 (1 : Int32))) ||| (own_m u2 (2 : Int32))) ||| (own_m u2 (3 : Int32))) ||| (own_m u2 (4 : Int32))) ||| (own_m u2 (5 : Int32))) ||| (own_m u2 (6 : Int32))) ||| (own_m u2 (7 : Int32)))), .second, .val (.long ((72340172838076673 : Int64) * (bb.toInt64))), .second, .val (.long wd), .second, .val (.long (own_q wd bb)), .second, .val (.long (549755813888 : Int64)), .second] [(.long ((own_q wd bb) &&& (9187201950435737471 : Int64)))])) _
              refine XS.lconst X24.here hx rfl (hb hby at_238) ?_
              show Steps p.tables e below (T24.setTop (mkF m 239 #[.val (.long u0), .second, iv u1, iv u2, iv bb, .val (.long ((((((((own_m u2 (0 : Int32)) ||| (own_m u2 (1 : Int32))) ||| (own_m u2 (2 : Int32))) ||| (own_m u2 (3 : Int32))) ||| (own_m u2 (4 : Int32))) ||| (own_m u2 (5 : Int32))) ||| (own_m u2 (6 : Int32))) ||| (own_m u2 (7 : Int32)))), .second, .val (.long ((72340172838076673 : Int64) * (bb.toInt64))), .second, .val (.long wd), .second, .val (.long (own_q wd bb)), .second, .val (.long (549755813888 : Int64)), .second] [(.long (0 : Int64)), (.long ((own_q wd bb) &&& (9187201950435737471 : Int64)))])) _
              refine XS.lcmp X24.here hx rfl (hb hby at_239) rfl ?_
              show Steps p.tables e below (T24.setTop (mkF m 240 #[.val (.long u0), .second, iv u1, iv u2, iv bb, .val (.long ((((((((own_m u2 (0 : Int32)) ||| (own_m u2 (1 : Int32))) ||| (own_m u2 (2 : Int32))) ||| (own_m u2 (3 : Int32))) ||| (own_m u2 (4 : Int32))) ||| (own_m u2 (5 : Int32))) ||| (own_m u2 (6 : Int32))) ||| (own_m u2 (7 : Int32)))), .second, .val (.long ((72340172838076673 : Int64) * (bb.toInt64))), .second, .val (.long wd), .second, .val (.long (own_q wd bb)), .second, .val (.long (549755813888 : Int64)), .second] [(.int (lcmpW ((own_q wd bb) &&& (9187201950435737471 : Int64)) (0 : Int64)))])) _
              refine XS.ifNo X24.here hx rfl (hb hby at_240) rfl ((if0 _ _).trans (teq ((lw_eq _ _).mpr (own_qm _ _))).2) ?_
              show Steps p.tables e below (T24.setTop (mkF m 243 #[.val (.long u0), .second, iv u1, iv u2, iv bb, .val (.long ((((((((own_m u2 (0 : Int32)) ||| (own_m u2 (1 : Int32))) ||| (own_m u2 (2 : Int32))) ||| (own_m u2 (3 : Int32))) ||| (own_m u2 (4 : Int32))) ||| (own_m u2 (5 : Int32))) ||| (own_m u2 (6 : Int32))) ||| (own_m u2 (7 : Int32)))), .second, .val (.long ((72340172838076673 : Int64) * (bb.toInt64))), .second, .val (.long wd), .second, .val (.long (own_q wd bb)), .second, .val (.long (549755813888 : Int64)), .second] [])) _
              refine XS.lload X24.here hx rfl (hb hby at_243) rfl ?_
              show Steps p.tables e below (T24.setTop (mkF m 245 #[.val (.long u0), .second, iv u1, iv u2, iv bb, .val (.long ((((((((own_m u2 (0 : Int32)) ||| (own_m u2 (1 : Int32))) ||| (own_m u2 (2 : Int32))) ||| (own_m u2 (3 : Int32))) ||| (own_m u2 (4 : Int32))) ||| (own_m u2 (5 : Int32))) ||| (own_m u2 (6 : Int32))) ||| (own_m u2 (7 : Int32)))), .second, .val (.long ((72340172838076673 : Int64) * (bb.toInt64))), .second, .val (.long wd), .second, .val (.long (own_q wd bb)), .second, .val (.long (549755813888 : Int64)), .second] [(.long (own_q wd bb))])) _
              refine XS.lload X24.here hx rfl (hb hby at_245) rfl ?_
              show Steps p.tables e below (T24.setTop (mkF m 247 #[.val (.long u0), .second, iv u1, iv u2, iv bb, .val (.long ((((((((own_m u2 (0 : Int32)) ||| (own_m u2 (1 : Int32))) ||| (own_m u2 (2 : Int32))) ||| (own_m u2 (3 : Int32))) ||| (own_m u2 (4 : Int32))) ||| (own_m u2 (5 : Int32))) ||| (own_m u2 (6 : Int32))) ||| (own_m u2 (7 : Int32)))), .second, .val (.long ((72340172838076673 : Int64) * (bb.toInt64))), .second, .val (.long wd), .second, .val (.long (own_q wd bb)), .second, .val (.long (549755813888 : Int64)), .second] [(.long (own_q wd bb)), (.long (own_q wd bb))])) _
              refine XS.lneg X24.here hx rfl (hb hby at_247) rfl ?_
              show Steps p.tables e below (T24.setTop (mkF m 248 #[.val (.long u0), .second, iv u1, iv u2, iv bb, .val (.long ((((((((own_m u2 (0 : Int32)) ||| (own_m u2 (1 : Int32))) ||| (own_m u2 (2 : Int32))) ||| (own_m u2 (3 : Int32))) ||| (own_m u2 (4 : Int32))) ||| (own_m u2 (5 : Int32))) ||| (own_m u2 (6 : Int32))) ||| (own_m u2 (7 : Int32)))), .second, .val (.long ((72340172838076673 : Int64) * (bb.toInt64))), .second, .val (.long wd), .second, .val (.long (own_q wd bb)), .second, .val (.long (549755813888 : Int64)), .second] [(.long (-(own_q wd bb))), (.long (own_q wd bb))])) _
              refine XS.land X24.here hx rfl (hb hby at_248) rfl ?_
              show Steps p.tables e below (T24.setTop (mkF m 249 #[.val (.long u0), .second, iv u1, iv u2, iv bb, .val (.long ((((((((own_m u2 (0 : Int32)) ||| (own_m u2 (1 : Int32))) ||| (own_m u2 (2 : Int32))) ||| (own_m u2 (3 : Int32))) ||| (own_m u2 (4 : Int32))) ||| (own_m u2 (5 : Int32))) ||| (own_m u2 (6 : Int32))) ||| (own_m u2 (7 : Int32)))), .second, .val (.long ((72340172838076673 : Int64) * (bb.toInt64))), .second, .val (.long wd), .second, .val (.long (own_q wd bb)), .second, .val (.long (549755813888 : Int64)), .second] [(.long ((own_q wd bb) &&& (-(own_q wd bb))))])) _
              refine XS.lload X24.here hx rfl (hb hby at_249) rfl ?_
              show Steps p.tables e below (T24.setTop (mkF m 251 #[.val (.long u0), .second, iv u1, iv u2, iv bb, .val (.long ((((((((own_m u2 (0 : Int32)) ||| (own_m u2 (1 : Int32))) ||| (own_m u2 (2 : Int32))) ||| (own_m u2 (3 : Int32))) ||| (own_m u2 (4 : Int32))) ||| (own_m u2 (5 : Int32))) ||| (own_m u2 (6 : Int32))) ||| (own_m u2 (7 : Int32)))), .second, .val (.long ((72340172838076673 : Int64) * (bb.toInt64))), .second, .val (.long wd), .second, .val (.long (own_q wd bb)), .second, .val (.long (549755813888 : Int64)), .second] [(.long (549755813888 : Int64)), (.long ((own_q wd bb) &&& (-(own_q wd bb))))])) _
              refine XS.lcmp X24.here hx rfl (hb hby at_251) rfl ?_
              show Steps p.tables e below (T24.setTop (mkF m 252 #[.val (.long u0), .second, iv u1, iv u2, iv bb, .val (.long ((((((((own_m u2 (0 : Int32)) ||| (own_m u2 (1 : Int32))) ||| (own_m u2 (2 : Int32))) ||| (own_m u2 (3 : Int32))) ||| (own_m u2 (4 : Int32))) ||| (own_m u2 (5 : Int32))) ||| (own_m u2 (6 : Int32))) ||| (own_m u2 (7 : Int32)))), .second, .val (.long ((72340172838076673 : Int64) * (bb.toInt64))), .second, .val (.long wd), .second, .val (.long (own_q wd bb)), .second, .val (.long (549755813888 : Int64)), .second] [(.int (lcmpW ((own_q wd bb) &&& (-(own_q wd bb))) (549755813888 : Int64)))])) _
              refine XS.ifNo X24.here hx rfl (hb hby at_252) rfl ((if0 _ _).trans (teq ((lw_eq _ _).mpr (own_fin4 wd bb hb7.1 hb7.2 hc14 hc17 hc20 hc23 hc26))).2) ?_
              show Steps p.tables e below (T24.setTop (mkF m 255 #[.val (.long u0), .second, iv u1, iv u2, iv bb, .val (.long ((((((((own_m u2 (0 : Int32)) ||| (own_m u2 (1 : Int32))) ||| (own_m u2 (2 : Int32))) ||| (own_m u2 (3 : Int32))) ||| (own_m u2 (4 : Int32))) ||| (own_m u2 (5 : Int32))) ||| (own_m u2 (6 : Int32))) ||| (own_m u2 (7 : Int32)))), .second, .val (.long ((72340172838076673 : Int64) * (bb.toInt64))), .second, .val (.long wd), .second, .val (.long (own_q wd bb)), .second, .val (.long (549755813888 : Int64)), .second] [])) _
              refine XS.iconst X24.here hx rfl (hb hby at_255) ?_
              show Steps p.tables e below (T24.setTop (mkF m 256 #[.val (.long u0), .second, iv u1, iv u2, iv bb, .val (.long ((((((((own_m u2 (0 : Int32)) ||| (own_m u2 (1 : Int32))) ||| (own_m u2 (2 : Int32))) ||| (own_m u2 (3 : Int32))) ||| (own_m u2 (4 : Int32))) ||| (own_m u2 (5 : Int32))) ||| (own_m u2 (6 : Int32))) ||| (own_m u2 (7 : Int32)))), .second, .val (.long ((72340172838076673 : Int64) * (bb.toInt64))), .second, .val (.long wd), .second, .val (.long (own_q wd bb)), .second, .val (.long (549755813888 : Int64)), .second] [(.int (1 : Int32))])) _
              refine XS.goto X24.here hx rfl (pc0 := 256) (pc' := 260) rfl (hb hby at_256) (by decide) (by decide) ?_
              show Steps p.tables e below (T24.setTop (mkF m 260 #[.val (.long u0), .second, iv u1, iv u2, iv bb, .val (.long ((((((((own_m u2 (0 : Int32)) ||| (own_m u2 (1 : Int32))) ||| (own_m u2 (2 : Int32))) ||| (own_m u2 (3 : Int32))) ||| (own_m u2 (4 : Int32))) ||| (own_m u2 (5 : Int32))) ||| (own_m u2 (6 : Int32))) ||| (own_m u2 (7 : Int32)))), .second, .val (.long ((72340172838076673 : Int64) * (bb.toInt64))), .second, .val (.long wd), .second, .val (.long (own_q wd bb)), .second, .val (.long (549755813888 : Int64)), .second] [(.int (1 : Int32))])) _
              exact retN X24 hx (t := .boolean) Bd.returns (by simp) (hb hby at_260) hr
            · show Q0 Z u0 u1 u2 h0 n0 _ T24.heap _
              rw [eq24]
              exact ⟨rfl, N24⟩
        · skip
          obtain ⟨fs, hr, hrun, hended, hW, hsame⟩ := X21.leave (v := some (.int (1 : Int32))) (fun h => by rw [Bd.returns] at h; cases h)
          refine ⟨_, _, S22 _ ?_, hrun, hended, _, _, rfl, ?_, ⟨_, rfl⟩, hW, hsame.mono (by decide) (by decide)⟩
          · skip
            show Steps p.tables e below (T21.setTop (mkF m 150 #[.val (.long u0), .second, iv u1, iv u2, iv bb, .val (.long ((((((((own_m u2 (0 : Int32)) ||| (own_m u2 (1 : Int32))) ||| (own_m u2 (2 : Int32))) ||| (own_m u2 (3 : Int32))) ||| (own_m u2 (4 : Int32))) ||| (own_m u2 (5 : Int32))) ||| (own_m u2 (6 : Int32))) ||| (own_m u2 (7 : Int32)))), .second, .val (.long ((72340172838076673 : Int64) * (bb.toInt64))), .second, .val (.long wd), .second, .val (.long (own_q wd bb)), .second, .unset, .unset] [(.int (own_eq wd (3 : Int32) bb))])) _
            refine XS.ifNo X21.here hx rfl (hb hby at_150) rfl ((if0 _ _).trans (feq hc23).1) ?_
            show Steps p.tables e below (T21.setTop (mkF m 153 #[.val (.long u0), .second, iv u1, iv u2, iv bb, .val (.long ((((((((own_m u2 (0 : Int32)) ||| (own_m u2 (1 : Int32))) ||| (own_m u2 (2 : Int32))) ||| (own_m u2 (3 : Int32))) ||| (own_m u2 (4 : Int32))) ||| (own_m u2 (5 : Int32))) ||| (own_m u2 (6 : Int32))) ||| (own_m u2 (7 : Int32)))), .second, .val (.long ((72340172838076673 : Int64) * (bb.toInt64))), .second, .val (.long wd), .second, .val (.long (own_q wd bb)), .second, .unset, .unset] [])) _
            refine X21.ldc2Long hx hown (mvT hZ (hw _ (List.mem_of_getElem? (i := 22) rfl))) (g := (mkF m 153 #[.val (.long u0), .second, iv u1, iv u2, iv bb, .val (.long ((((((((own_m u2 (0 : Int32)) ||| (own_m u2 (1 : Int32))) ||| (own_m u2 (2 : Int32))) ||| (own_m u2 (3 : Int32))) ||| (own_m u2 (4 : Int32))) ||| (own_m u2 (5 : Int32))) ||| (own_m u2 (6 : Int32))) ||| (own_m u2 (7 : Int32)))), .second, .val (.long ((72340172838076673 : Int64) * (bb.toInt64))), .second, .val (.long wd), .second, .val (.long (own_q wd bb)), .second, .unset, .unset] [])) rfl (hb hby at_153) _ ?_
            show Steps p.tables e below (T21.setTop (mkF m 156 #[.val (.long u0), .second, iv u1, iv u2, iv bb, .val (.long ((((((((own_m u2 (0 : Int32)) ||| (own_m u2 (1 : Int32))) ||| (own_m u2 (2 : Int32))) ||| (own_m u2 (3 : Int32))) ||| (own_m u2 (4 : Int32))) ||| (own_m u2 (5 : Int32))) ||| (own_m u2 (6 : Int32))) ||| (own_m u2 (7 : Int32)))), .second, .val (.long ((72340172838076673 : Int64) * (bb.toInt64))), .second, .val (.long wd), .second, .val (.long (own_q wd bb)), .second, .unset, .unset] [(.long (2147483648 : Int64))])) _
            refine XS.goto X21.here hx rfl (pc0 := 156) (pc' := 230) rfl (hb hby at_156) (by decide) (by decide) ?_
            show Steps p.tables e below (T21.setTop (mkF m 230 #[.val (.long u0), .second, iv u1, iv u2, iv bb, .val (.long ((((((((own_m u2 (0 : Int32)) ||| (own_m u2 (1 : Int32))) ||| (own_m u2 (2 : Int32))) ||| (own_m u2 (3 : Int32))) ||| (own_m u2 (4 : Int32))) ||| (own_m u2 (5 : Int32))) ||| (own_m u2 (6 : Int32))) ||| (own_m u2 (7 : Int32)))), .second, .val (.long ((72340172838076673 : Int64) * (bb.toInt64))), .second, .val (.long wd), .second, .val (.long (own_q wd bb)), .second, .unset, .unset] [(.long (2147483648 : Int64))])) _
            refine XS.lstore X21.here hx rfl (hb hby at_230) rfl (l' := #[.val (.long u0), .second, iv u1, iv u2, iv bb, .val (.long ((((((((own_m u2 (0 : Int32)) ||| (own_m u2 (1 : Int32))) ||| (own_m u2 (2 : Int32))) ||| (own_m u2 (3 : Int32))) ||| (own_m u2 (4 : Int32))) ||| (own_m u2 (5 : Int32))) ||| (own_m u2 (6 : Int32))) ||| (own_m u2 (7 : Int32)))), .second, .val (.long ((72340172838076673 : Int64) * (bb.toInt64))), .second, .val (.long wd), .second, .val (.long (own_q wd bb)), .second, .val (.long (2147483648 : Int64)), .second]) rfl ?_
            show Steps p.tables e below (T21.setTop (mkF m 232 #[.val (.long u0), .second, iv u1, iv u2, iv bb, .val (.long ((((((((own_m u2 (0 : Int32)) ||| (own_m u2 (1 : Int32))) ||| (own_m u2 (2 : Int32))) ||| (own_m u2 (3 : Int32))) ||| (own_m u2 (4 : Int32))) ||| (own_m u2 (5 : Int32))) ||| (own_m u2 (6 : Int32))) ||| (own_m u2 (7 : Int32)))), .second, .val (.long ((72340172838076673 : Int64) * (bb.toInt64))), .second, .val (.long wd), .second, .val (.long (own_q wd bb)), .second, .val (.long (2147483648 : Int64)), .second] [])) _
            refine XS.lload X21.here hx rfl (hb hby at_232) rfl ?_
            show Steps p.tables e below (T21.setTop (mkF m 234 #[.val (.long u0), .second, iv u1, iv u2, iv bb, .val (.long ((((((((own_m u2 (0 : Int32)) ||| (own_m u2 (1 : Int32))) ||| (own_m u2 (2 : Int32))) ||| (own_m u2 (3 : Int32))) ||| (own_m u2 (4 : Int32))) ||| (own_m u2 (5 : Int32))) ||| (own_m u2 (6 : Int32))) ||| (own_m u2 (7 : Int32)))), .second, .val (.long ((72340172838076673 : Int64) * (bb.toInt64))), .second, .val (.long wd), .second, .val (.long (own_q wd bb)), .second, .val (.long (2147483648 : Int64)), .second] [(.long (own_q wd bb))])) _
            refine X21.ldc2Long hx hown (mvT hZ (hw _ (List.mem_of_getElem? (i := 18) rfl))) (g := (mkF m 234 #[.val (.long u0), .second, iv u1, iv u2, iv bb, .val (.long ((((((((own_m u2 (0 : Int32)) ||| (own_m u2 (1 : Int32))) ||| (own_m u2 (2 : Int32))) ||| (own_m u2 (3 : Int32))) ||| (own_m u2 (4 : Int32))) ||| (own_m u2 (5 : Int32))) ||| (own_m u2 (6 : Int32))) ||| (own_m u2 (7 : Int32)))), .second, .val (.long ((72340172838076673 : Int64) * (bb.toInt64))), .second, .val (.long wd), .second, .val (.long (own_q wd bb)), .second, .val (.long (2147483648 : Int64)), .second] [(.long (own_q wd bb))])) rfl (hb hby at_234) _ ?_
            show Steps p.tables e below (T21.setTop (mkF m 237 #[.val (.long u0), .second, iv u1, iv u2, iv bb, .val (.long ((((((((own_m u2 (0 : Int32)) ||| (own_m u2 (1 : Int32))) ||| (own_m u2 (2 : Int32))) ||| (own_m u2 (3 : Int32))) ||| (own_m u2 (4 : Int32))) ||| (own_m u2 (5 : Int32))) ||| (own_m u2 (6 : Int32))) ||| (own_m u2 (7 : Int32)))), .second, .val (.long ((72340172838076673 : Int64) * (bb.toInt64))), .second, .val (.long wd), .second, .val (.long (own_q wd bb)), .second, .val (.long (2147483648 : Int64)), .second] [(.long (9187201950435737471 : Int64)), (.long (own_q wd bb))])) _
            refine XS.land X21.here hx rfl (hb hby at_237) rfl ?_
            show Steps p.tables e below (T21.setTop (mkF m 238 #[.val (.long u0), .second, iv u1, iv u2, iv bb, .val (.long ((((((((own_m u2 (0 : Int32)) ||| (own_m u2 (1 : Int32))) ||| (own_m u2 (2 : Int32))) ||| (own_m u2 (3 : Int32))) ||| (own_m u2 (4 : Int32))) ||| (own_m u2 (5 : Int32))) ||| (own_m u2 (6 : Int32))) ||| (own_m u2 (7 : Int32)))), .second, .val (.long ((72340172838076673 : Int64) * (bb.toInt64))), .second, .val (.long wd), .second, .val (.long (own_q wd bb)), .second, .val (.long (2147483648 : Int64)), .second] [(.long ((own_q wd bb) &&& (9187201950435737471 : Int64)))])) _
            refine XS.lconst X21.here hx rfl (hb hby at_238) ?_
            show Steps p.tables e below (T21.setTop (mkF m 239 #[.val (.long u0), .second, iv u1, iv u2, iv bb, .val (.long ((((((((own_m u2 (0 : Int32)) ||| (own_m u2 (1 : Int32))) ||| (own_m u2 (2 : Int32))) ||| (own_m u2 (3 : Int32))) ||| (own_m u2 (4 : Int32))) ||| (own_m u2 (5 : Int32))) ||| (own_m u2 (6 : Int32))) ||| (own_m u2 (7 : Int32)))), .second, .val (.long ((72340172838076673 : Int64) * (bb.toInt64))), .second, .val (.long wd), .second, .val (.long (own_q wd bb)), .second, .val (.long (2147483648 : Int64)), .second] [(.long (0 : Int64)), (.long ((own_q wd bb) &&& (9187201950435737471 : Int64)))])) _
            refine XS.lcmp X21.here hx rfl (hb hby at_239) rfl ?_
            show Steps p.tables e below (T21.setTop (mkF m 240 #[.val (.long u0), .second, iv u1, iv u2, iv bb, .val (.long ((((((((own_m u2 (0 : Int32)) ||| (own_m u2 (1 : Int32))) ||| (own_m u2 (2 : Int32))) ||| (own_m u2 (3 : Int32))) ||| (own_m u2 (4 : Int32))) ||| (own_m u2 (5 : Int32))) ||| (own_m u2 (6 : Int32))) ||| (own_m u2 (7 : Int32)))), .second, .val (.long ((72340172838076673 : Int64) * (bb.toInt64))), .second, .val (.long wd), .second, .val (.long (own_q wd bb)), .second, .val (.long (2147483648 : Int64)), .second] [(.int (lcmpW ((own_q wd bb) &&& (9187201950435737471 : Int64)) (0 : Int64)))])) _
            refine XS.ifNo X21.here hx rfl (hb hby at_240) rfl ((if0 _ _).trans (teq ((lw_eq _ _).mpr (own_qm _ _))).2) ?_
            show Steps p.tables e below (T21.setTop (mkF m 243 #[.val (.long u0), .second, iv u1, iv u2, iv bb, .val (.long ((((((((own_m u2 (0 : Int32)) ||| (own_m u2 (1 : Int32))) ||| (own_m u2 (2 : Int32))) ||| (own_m u2 (3 : Int32))) ||| (own_m u2 (4 : Int32))) ||| (own_m u2 (5 : Int32))) ||| (own_m u2 (6 : Int32))) ||| (own_m u2 (7 : Int32)))), .second, .val (.long ((72340172838076673 : Int64) * (bb.toInt64))), .second, .val (.long wd), .second, .val (.long (own_q wd bb)), .second, .val (.long (2147483648 : Int64)), .second] [])) _
            refine XS.lload X21.here hx rfl (hb hby at_243) rfl ?_
            show Steps p.tables e below (T21.setTop (mkF m 245 #[.val (.long u0), .second, iv u1, iv u2, iv bb, .val (.long ((((((((own_m u2 (0 : Int32)) ||| (own_m u2 (1 : Int32))) ||| (own_m u2 (2 : Int32))) ||| (own_m u2 (3 : Int32))) ||| (own_m u2 (4 : Int32))) ||| (own_m u2 (5 : Int32))) ||| (own_m u2 (6 : Int32))) ||| (own_m u2 (7 : Int32)))), .second, .val (.long ((72340172838076673 : Int64) * (bb.toInt64))), .second, .val (.long wd), .second, .val (.long (own_q wd bb)), .second, .val (.long (2147483648 : Int64)), .second] [(.long (own_q wd bb))])) _
            refine XS.lload X21.here hx rfl (hb hby at_245) rfl ?_
            show Steps p.tables e below (T21.setTop (mkF m 247 #[.val (.long u0), .second, iv u1, iv u2, iv bb, .val (.long ((((((((own_m u2 (0 : Int32)) ||| (own_m u2 (1 : Int32))) ||| (own_m u2 (2 : Int32))) ||| (own_m u2 (3 : Int32))) ||| (own_m u2 (4 : Int32))) ||| (own_m u2 (5 : Int32))) ||| (own_m u2 (6 : Int32))) ||| (own_m u2 (7 : Int32)))), .second, .val (.long ((72340172838076673 : Int64) * (bb.toInt64))), .second, .val (.long wd), .second, .val (.long (own_q wd bb)), .second, .val (.long (2147483648 : Int64)), .second] [(.long (own_q wd bb)), (.long (own_q wd bb))])) _
            refine XS.lneg X21.here hx rfl (hb hby at_247) rfl ?_
            show Steps p.tables e below (T21.setTop (mkF m 248 #[.val (.long u0), .second, iv u1, iv u2, iv bb, .val (.long ((((((((own_m u2 (0 : Int32)) ||| (own_m u2 (1 : Int32))) ||| (own_m u2 (2 : Int32))) ||| (own_m u2 (3 : Int32))) ||| (own_m u2 (4 : Int32))) ||| (own_m u2 (5 : Int32))) ||| (own_m u2 (6 : Int32))) ||| (own_m u2 (7 : Int32)))), .second, .val (.long ((72340172838076673 : Int64) * (bb.toInt64))), .second, .val (.long wd), .second, .val (.long (own_q wd bb)), .second, .val (.long (2147483648 : Int64)), .second] [(.long (-(own_q wd bb))), (.long (own_q wd bb))])) _
            refine XS.land X21.here hx rfl (hb hby at_248) rfl ?_
            show Steps p.tables e below (T21.setTop (mkF m 249 #[.val (.long u0), .second, iv u1, iv u2, iv bb, .val (.long ((((((((own_m u2 (0 : Int32)) ||| (own_m u2 (1 : Int32))) ||| (own_m u2 (2 : Int32))) ||| (own_m u2 (3 : Int32))) ||| (own_m u2 (4 : Int32))) ||| (own_m u2 (5 : Int32))) ||| (own_m u2 (6 : Int32))) ||| (own_m u2 (7 : Int32)))), .second, .val (.long ((72340172838076673 : Int64) * (bb.toInt64))), .second, .val (.long wd), .second, .val (.long (own_q wd bb)), .second, .val (.long (2147483648 : Int64)), .second] [(.long ((own_q wd bb) &&& (-(own_q wd bb))))])) _
            refine XS.lload X21.here hx rfl (hb hby at_249) rfl ?_
            show Steps p.tables e below (T21.setTop (mkF m 251 #[.val (.long u0), .second, iv u1, iv u2, iv bb, .val (.long ((((((((own_m u2 (0 : Int32)) ||| (own_m u2 (1 : Int32))) ||| (own_m u2 (2 : Int32))) ||| (own_m u2 (3 : Int32))) ||| (own_m u2 (4 : Int32))) ||| (own_m u2 (5 : Int32))) ||| (own_m u2 (6 : Int32))) ||| (own_m u2 (7 : Int32)))), .second, .val (.long ((72340172838076673 : Int64) * (bb.toInt64))), .second, .val (.long wd), .second, .val (.long (own_q wd bb)), .second, .val (.long (2147483648 : Int64)), .second] [(.long (2147483648 : Int64)), (.long ((own_q wd bb) &&& (-(own_q wd bb))))])) _
            refine XS.lcmp X21.here hx rfl (hb hby at_251) rfl ?_
            show Steps p.tables e below (T21.setTop (mkF m 252 #[.val (.long u0), .second, iv u1, iv u2, iv bb, .val (.long ((((((((own_m u2 (0 : Int32)) ||| (own_m u2 (1 : Int32))) ||| (own_m u2 (2 : Int32))) ||| (own_m u2 (3 : Int32))) ||| (own_m u2 (4 : Int32))) ||| (own_m u2 (5 : Int32))) ||| (own_m u2 (6 : Int32))) ||| (own_m u2 (7 : Int32)))), .second, .val (.long ((72340172838076673 : Int64) * (bb.toInt64))), .second, .val (.long wd), .second, .val (.long (own_q wd bb)), .second, .val (.long (2147483648 : Int64)), .second] [(.int (lcmpW ((own_q wd bb) &&& (-(own_q wd bb))) (2147483648 : Int64)))])) _
            refine XS.ifNo X21.here hx rfl (hb hby at_252) rfl ((if0 _ _).trans (teq ((lw_eq _ _).mpr (own_fin3 wd bb hb7.1 hb7.2 hc14 hc17 hc20 hc23))).2) ?_
            show Steps p.tables e below (T21.setTop (mkF m 255 #[.val (.long u0), .second, iv u1, iv u2, iv bb, .val (.long ((((((((own_m u2 (0 : Int32)) ||| (own_m u2 (1 : Int32))) ||| (own_m u2 (2 : Int32))) ||| (own_m u2 (3 : Int32))) ||| (own_m u2 (4 : Int32))) ||| (own_m u2 (5 : Int32))) ||| (own_m u2 (6 : Int32))) ||| (own_m u2 (7 : Int32)))), .second, .val (.long ((72340172838076673 : Int64) * (bb.toInt64))), .second, .val (.long wd), .second, .val (.long (own_q wd bb)), .second, .val (.long (2147483648 : Int64)), .second] [])) _
            refine XS.iconst X21.here hx rfl (hb hby at_255) ?_
            show Steps p.tables e below (T21.setTop (mkF m 256 #[.val (.long u0), .second, iv u1, iv u2, iv bb, .val (.long ((((((((own_m u2 (0 : Int32)) ||| (own_m u2 (1 : Int32))) ||| (own_m u2 (2 : Int32))) ||| (own_m u2 (3 : Int32))) ||| (own_m u2 (4 : Int32))) ||| (own_m u2 (5 : Int32))) ||| (own_m u2 (6 : Int32))) ||| (own_m u2 (7 : Int32)))), .second, .val (.long ((72340172838076673 : Int64) * (bb.toInt64))), .second, .val (.long wd), .second, .val (.long (own_q wd bb)), .second, .val (.long (2147483648 : Int64)), .second] [(.int (1 : Int32))])) _
            refine XS.goto X21.here hx rfl (pc0 := 256) (pc' := 260) rfl (hb hby at_256) (by decide) (by decide) ?_
            show Steps p.tables e below (T21.setTop (mkF m 260 #[.val (.long u0), .second, iv u1, iv u2, iv bb, .val (.long ((((((((own_m u2 (0 : Int32)) ||| (own_m u2 (1 : Int32))) ||| (own_m u2 (2 : Int32))) ||| (own_m u2 (3 : Int32))) ||| (own_m u2 (4 : Int32))) ||| (own_m u2 (5 : Int32))) ||| (own_m u2 (6 : Int32))) ||| (own_m u2 (7 : Int32)))), .second, .val (.long ((72340172838076673 : Int64) * (bb.toInt64))), .second, .val (.long wd), .second, .val (.long (own_q wd bb)), .second, .val (.long (2147483648 : Int64)), .second] [(.int (1 : Int32))])) _
            exact retN X21 hx (t := .boolean) Bd.returns (by simp) (hb hby at_260) hr
          · show Q0 Z u0 u1 u2 h0 n0 _ T21.heap _
            rw [eq21]
            exact ⟨rfl, N21⟩
      · skip
        obtain ⟨fs, hr, hrun, hended, hW, hsame⟩ := X18.leave (v := some (.int (1 : Int32))) (fun h => by rw [Bd.returns] at h; cases h)
        refine ⟨_, _, S19 _ ?_, hrun, hended, _, _, rfl, ?_, ⟨_, rfl⟩, hW, hsame.mono (by decide) (by decide)⟩
        · skip
          show Steps p.tables e below (T18.setTop (mkF m 133 #[.val (.long u0), .second, iv u1, iv u2, iv bb, .val (.long ((((((((own_m u2 (0 : Int32)) ||| (own_m u2 (1 : Int32))) ||| (own_m u2 (2 : Int32))) ||| (own_m u2 (3 : Int32))) ||| (own_m u2 (4 : Int32))) ||| (own_m u2 (5 : Int32))) ||| (own_m u2 (6 : Int32))) ||| (own_m u2 (7 : Int32)))), .second, .val (.long ((72340172838076673 : Int64) * (bb.toInt64))), .second, .val (.long wd), .second, .val (.long (own_q wd bb)), .second, .unset, .unset] [(.int (own_eq wd (2 : Int32) bb))])) _
          refine XS.ifNo X18.here hx rfl (hb hby at_133) rfl ((if0 _ _).trans (feq hc20).1) ?_
          show Steps p.tables e below (T18.setTop (mkF m 136 #[.val (.long u0), .second, iv u1, iv u2, iv bb, .val (.long ((((((((own_m u2 (0 : Int32)) ||| (own_m u2 (1 : Int32))) ||| (own_m u2 (2 : Int32))) ||| (own_m u2 (3 : Int32))) ||| (own_m u2 (4 : Int32))) ||| (own_m u2 (5 : Int32))) ||| (own_m u2 (6 : Int32))) ||| (own_m u2 (7 : Int32)))), .second, .val (.long ((72340172838076673 : Int64) * (bb.toInt64))), .second, .val (.long wd), .second, .val (.long (own_q wd bb)), .second, .unset, .unset] [])) _
          refine X18.ldc2Long hx hown (mvT hZ (hw _ (List.mem_of_getElem? (i := 21) rfl))) (g := (mkF m 136 #[.val (.long u0), .second, iv u1, iv u2, iv bb, .val (.long ((((((((own_m u2 (0 : Int32)) ||| (own_m u2 (1 : Int32))) ||| (own_m u2 (2 : Int32))) ||| (own_m u2 (3 : Int32))) ||| (own_m u2 (4 : Int32))) ||| (own_m u2 (5 : Int32))) ||| (own_m u2 (6 : Int32))) ||| (own_m u2 (7 : Int32)))), .second, .val (.long ((72340172838076673 : Int64) * (bb.toInt64))), .second, .val (.long wd), .second, .val (.long (own_q wd bb)), .second, .unset, .unset] [])) rfl (hb hby at_136) _ ?_
          show Steps p.tables e below (T18.setTop (mkF m 139 #[.val (.long u0), .second, iv u1, iv u2, iv bb, .val (.long ((((((((own_m u2 (0 : Int32)) ||| (own_m u2 (1 : Int32))) ||| (own_m u2 (2 : Int32))) ||| (own_m u2 (3 : Int32))) ||| (own_m u2 (4 : Int32))) ||| (own_m u2 (5 : Int32))) ||| (own_m u2 (6 : Int32))) ||| (own_m u2 (7 : Int32)))), .second, .val (.long ((72340172838076673 : Int64) * (bb.toInt64))), .second, .val (.long wd), .second, .val (.long (own_q wd bb)), .second, .unset, .unset] [(.long (8388608 : Int64))])) _
          refine XS.goto X18.here hx rfl (pc0 := 139) (pc' := 230) rfl (hb hby at_139) (by decide) (by decide) ?_
          show Steps p.tables e below (T18.setTop (mkF m 230 #[.val (.long u0), .second, iv u1, iv u2, iv bb, .val (.long ((((((((own_m u2 (0 : Int32)) ||| (own_m u2 (1 : Int32))) ||| (own_m u2 (2 : Int32))) ||| (own_m u2 (3 : Int32))) ||| (own_m u2 (4 : Int32))) ||| (own_m u2 (5 : Int32))) ||| (own_m u2 (6 : Int32))) ||| (own_m u2 (7 : Int32)))), .second, .val (.long ((72340172838076673 : Int64) * (bb.toInt64))), .second, .val (.long wd), .second, .val (.long (own_q wd bb)), .second, .unset, .unset] [(.long (8388608 : Int64))])) _
          refine XS.lstore X18.here hx rfl (hb hby at_230) rfl (l' := #[.val (.long u0), .second, iv u1, iv u2, iv bb, .val (.long ((((((((own_m u2 (0 : Int32)) ||| (own_m u2 (1 : Int32))) ||| (own_m u2 (2 : Int32))) ||| (own_m u2 (3 : Int32))) ||| (own_m u2 (4 : Int32))) ||| (own_m u2 (5 : Int32))) ||| (own_m u2 (6 : Int32))) ||| (own_m u2 (7 : Int32)))), .second, .val (.long ((72340172838076673 : Int64) * (bb.toInt64))), .second, .val (.long wd), .second, .val (.long (own_q wd bb)), .second, .val (.long (8388608 : Int64)), .second]) rfl ?_
          show Steps p.tables e below (T18.setTop (mkF m 232 #[.val (.long u0), .second, iv u1, iv u2, iv bb, .val (.long ((((((((own_m u2 (0 : Int32)) ||| (own_m u2 (1 : Int32))) ||| (own_m u2 (2 : Int32))) ||| (own_m u2 (3 : Int32))) ||| (own_m u2 (4 : Int32))) ||| (own_m u2 (5 : Int32))) ||| (own_m u2 (6 : Int32))) ||| (own_m u2 (7 : Int32)))), .second, .val (.long ((72340172838076673 : Int64) * (bb.toInt64))), .second, .val (.long wd), .second, .val (.long (own_q wd bb)), .second, .val (.long (8388608 : Int64)), .second] [])) _
          refine XS.lload X18.here hx rfl (hb hby at_232) rfl ?_
          show Steps p.tables e below (T18.setTop (mkF m 234 #[.val (.long u0), .second, iv u1, iv u2, iv bb, .val (.long ((((((((own_m u2 (0 : Int32)) ||| (own_m u2 (1 : Int32))) ||| (own_m u2 (2 : Int32))) ||| (own_m u2 (3 : Int32))) ||| (own_m u2 (4 : Int32))) ||| (own_m u2 (5 : Int32))) ||| (own_m u2 (6 : Int32))) ||| (own_m u2 (7 : Int32)))), .second, .val (.long ((72340172838076673 : Int64) * (bb.toInt64))), .second, .val (.long wd), .second, .val (.long (own_q wd bb)), .second, .val (.long (8388608 : Int64)), .second] [(.long (own_q wd bb))])) _
          refine X18.ldc2Long hx hown (mvT hZ (hw _ (List.mem_of_getElem? (i := 18) rfl))) (g := (mkF m 234 #[.val (.long u0), .second, iv u1, iv u2, iv bb, .val (.long ((((((((own_m u2 (0 : Int32)) ||| (own_m u2 (1 : Int32))) ||| (own_m u2 (2 : Int32))) ||| (own_m u2 (3 : Int32))) ||| (own_m u2 (4 : Int32))) ||| (own_m u2 (5 : Int32))) ||| (own_m u2 (6 : Int32))) ||| (own_m u2 (7 : Int32)))), .second, .val (.long ((72340172838076673 : Int64) * (bb.toInt64))), .second, .val (.long wd), .second, .val (.long (own_q wd bb)), .second, .val (.long (8388608 : Int64)), .second] [(.long (own_q wd bb))])) rfl (hb hby at_234) _ ?_
          show Steps p.tables e below (T18.setTop (mkF m 237 #[.val (.long u0), .second, iv u1, iv u2, iv bb, .val (.long ((((((((own_m u2 (0 : Int32)) ||| (own_m u2 (1 : Int32))) ||| (own_m u2 (2 : Int32))) ||| (own_m u2 (3 : Int32))) ||| (own_m u2 (4 : Int32))) ||| (own_m u2 (5 : Int32))) ||| (own_m u2 (6 : Int32))) ||| (own_m u2 (7 : Int32)))), .second, .val (.long ((72340172838076673 : Int64) * (bb.toInt64))), .second, .val (.long wd), .second, .val (.long (own_q wd bb)), .second, .val (.long (8388608 : Int64)), .second] [(.long (9187201950435737471 : Int64)), (.long (own_q wd bb))])) _
          refine XS.land X18.here hx rfl (hb hby at_237) rfl ?_
          show Steps p.tables e below (T18.setTop (mkF m 238 #[.val (.long u0), .second, iv u1, iv u2, iv bb, .val (.long ((((((((own_m u2 (0 : Int32)) ||| (own_m u2 (1 : Int32))) ||| (own_m u2 (2 : Int32))) ||| (own_m u2 (3 : Int32))) ||| (own_m u2 (4 : Int32))) ||| (own_m u2 (5 : Int32))) ||| (own_m u2 (6 : Int32))) ||| (own_m u2 (7 : Int32)))), .second, .val (.long ((72340172838076673 : Int64) * (bb.toInt64))), .second, .val (.long wd), .second, .val (.long (own_q wd bb)), .second, .val (.long (8388608 : Int64)), .second] [(.long ((own_q wd bb) &&& (9187201950435737471 : Int64)))])) _
          refine XS.lconst X18.here hx rfl (hb hby at_238) ?_
          show Steps p.tables e below (T18.setTop (mkF m 239 #[.val (.long u0), .second, iv u1, iv u2, iv bb, .val (.long ((((((((own_m u2 (0 : Int32)) ||| (own_m u2 (1 : Int32))) ||| (own_m u2 (2 : Int32))) ||| (own_m u2 (3 : Int32))) ||| (own_m u2 (4 : Int32))) ||| (own_m u2 (5 : Int32))) ||| (own_m u2 (6 : Int32))) ||| (own_m u2 (7 : Int32)))), .second, .val (.long ((72340172838076673 : Int64) * (bb.toInt64))), .second, .val (.long wd), .second, .val (.long (own_q wd bb)), .second, .val (.long (8388608 : Int64)), .second] [(.long (0 : Int64)), (.long ((own_q wd bb) &&& (9187201950435737471 : Int64)))])) _
          refine XS.lcmp X18.here hx rfl (hb hby at_239) rfl ?_
          show Steps p.tables e below (T18.setTop (mkF m 240 #[.val (.long u0), .second, iv u1, iv u2, iv bb, .val (.long ((((((((own_m u2 (0 : Int32)) ||| (own_m u2 (1 : Int32))) ||| (own_m u2 (2 : Int32))) ||| (own_m u2 (3 : Int32))) ||| (own_m u2 (4 : Int32))) ||| (own_m u2 (5 : Int32))) ||| (own_m u2 (6 : Int32))) ||| (own_m u2 (7 : Int32)))), .second, .val (.long ((72340172838076673 : Int64) * (bb.toInt64))), .second, .val (.long wd), .second, .val (.long (own_q wd bb)), .second, .val (.long (8388608 : Int64)), .second] [(.int (lcmpW ((own_q wd bb) &&& (9187201950435737471 : Int64)) (0 : Int64)))])) _
          refine XS.ifNo X18.here hx rfl (hb hby at_240) rfl ((if0 _ _).trans (teq ((lw_eq _ _).mpr (own_qm _ _))).2) ?_
          show Steps p.tables e below (T18.setTop (mkF m 243 #[.val (.long u0), .second, iv u1, iv u2, iv bb, .val (.long ((((((((own_m u2 (0 : Int32)) ||| (own_m u2 (1 : Int32))) ||| (own_m u2 (2 : Int32))) ||| (own_m u2 (3 : Int32))) ||| (own_m u2 (4 : Int32))) ||| (own_m u2 (5 : Int32))) ||| (own_m u2 (6 : Int32))) ||| (own_m u2 (7 : Int32)))), .second, .val (.long ((72340172838076673 : Int64) * (bb.toInt64))), .second, .val (.long wd), .second, .val (.long (own_q wd bb)), .second, .val (.long (8388608 : Int64)), .second] [])) _
          refine XS.lload X18.here hx rfl (hb hby at_243) rfl ?_
          show Steps p.tables e below (T18.setTop (mkF m 245 #[.val (.long u0), .second, iv u1, iv u2, iv bb, .val (.long ((((((((own_m u2 (0 : Int32)) ||| (own_m u2 (1 : Int32))) ||| (own_m u2 (2 : Int32))) ||| (own_m u2 (3 : Int32))) ||| (own_m u2 (4 : Int32))) ||| (own_m u2 (5 : Int32))) ||| (own_m u2 (6 : Int32))) ||| (own_m u2 (7 : Int32)))), .second, .val (.long ((72340172838076673 : Int64) * (bb.toInt64))), .second, .val (.long wd), .second, .val (.long (own_q wd bb)), .second, .val (.long (8388608 : Int64)), .second] [(.long (own_q wd bb))])) _
          refine XS.lload X18.here hx rfl (hb hby at_245) rfl ?_
          show Steps p.tables e below (T18.setTop (mkF m 247 #[.val (.long u0), .second, iv u1, iv u2, iv bb, .val (.long ((((((((own_m u2 (0 : Int32)) ||| (own_m u2 (1 : Int32))) ||| (own_m u2 (2 : Int32))) ||| (own_m u2 (3 : Int32))) ||| (own_m u2 (4 : Int32))) ||| (own_m u2 (5 : Int32))) ||| (own_m u2 (6 : Int32))) ||| (own_m u2 (7 : Int32)))), .second, .val (.long ((72340172838076673 : Int64) * (bb.toInt64))), .second, .val (.long wd), .second, .val (.long (own_q wd bb)), .second, .val (.long (8388608 : Int64)), .second] [(.long (own_q wd bb)), (.long (own_q wd bb))])) _
          refine XS.lneg X18.here hx rfl (hb hby at_247) rfl ?_
          show Steps p.tables e below (T18.setTop (mkF m 248 #[.val (.long u0), .second, iv u1, iv u2, iv bb, .val (.long ((((((((own_m u2 (0 : Int32)) ||| (own_m u2 (1 : Int32))) ||| (own_m u2 (2 : Int32))) ||| (own_m u2 (3 : Int32))) ||| (own_m u2 (4 : Int32))) ||| (own_m u2 (5 : Int32))) ||| (own_m u2 (6 : Int32))) ||| (own_m u2 (7 : Int32)))), .second, .val (.long ((72340172838076673 : Int64) * (bb.toInt64))), .second, .val (.long wd), .second, .val (.long (own_q wd bb)), .second, .val (.long (8388608 : Int64)), .second] [(.long (-(own_q wd bb))), (.long (own_q wd bb))])) _
          refine XS.land X18.here hx rfl (hb hby at_248) rfl ?_
          show Steps p.tables e below (T18.setTop (mkF m 249 #[.val (.long u0), .second, iv u1, iv u2, iv bb, .val (.long ((((((((own_m u2 (0 : Int32)) ||| (own_m u2 (1 : Int32))) ||| (own_m u2 (2 : Int32))) ||| (own_m u2 (3 : Int32))) ||| (own_m u2 (4 : Int32))) ||| (own_m u2 (5 : Int32))) ||| (own_m u2 (6 : Int32))) ||| (own_m u2 (7 : Int32)))), .second, .val (.long ((72340172838076673 : Int64) * (bb.toInt64))), .second, .val (.long wd), .second, .val (.long (own_q wd bb)), .second, .val (.long (8388608 : Int64)), .second] [(.long ((own_q wd bb) &&& (-(own_q wd bb))))])) _
          refine XS.lload X18.here hx rfl (hb hby at_249) rfl ?_
          show Steps p.tables e below (T18.setTop (mkF m 251 #[.val (.long u0), .second, iv u1, iv u2, iv bb, .val (.long ((((((((own_m u2 (0 : Int32)) ||| (own_m u2 (1 : Int32))) ||| (own_m u2 (2 : Int32))) ||| (own_m u2 (3 : Int32))) ||| (own_m u2 (4 : Int32))) ||| (own_m u2 (5 : Int32))) ||| (own_m u2 (6 : Int32))) ||| (own_m u2 (7 : Int32)))), .second, .val (.long ((72340172838076673 : Int64) * (bb.toInt64))), .second, .val (.long wd), .second, .val (.long (own_q wd bb)), .second, .val (.long (8388608 : Int64)), .second] [(.long (8388608 : Int64)), (.long ((own_q wd bb) &&& (-(own_q wd bb))))])) _
          refine XS.lcmp X18.here hx rfl (hb hby at_251) rfl ?_
          show Steps p.tables e below (T18.setTop (mkF m 252 #[.val (.long u0), .second, iv u1, iv u2, iv bb, .val (.long ((((((((own_m u2 (0 : Int32)) ||| (own_m u2 (1 : Int32))) ||| (own_m u2 (2 : Int32))) ||| (own_m u2 (3 : Int32))) ||| (own_m u2 (4 : Int32))) ||| (own_m u2 (5 : Int32))) ||| (own_m u2 (6 : Int32))) ||| (own_m u2 (7 : Int32)))), .second, .val (.long ((72340172838076673 : Int64) * (bb.toInt64))), .second, .val (.long wd), .second, .val (.long (own_q wd bb)), .second, .val (.long (8388608 : Int64)), .second] [(.int (lcmpW ((own_q wd bb) &&& (-(own_q wd bb))) (8388608 : Int64)))])) _
          refine XS.ifNo X18.here hx rfl (hb hby at_252) rfl ((if0 _ _).trans (teq ((lw_eq _ _).mpr (own_fin2 wd bb hb7.1 hb7.2 hc14 hc17 hc20))).2) ?_
          show Steps p.tables e below (T18.setTop (mkF m 255 #[.val (.long u0), .second, iv u1, iv u2, iv bb, .val (.long ((((((((own_m u2 (0 : Int32)) ||| (own_m u2 (1 : Int32))) ||| (own_m u2 (2 : Int32))) ||| (own_m u2 (3 : Int32))) ||| (own_m u2 (4 : Int32))) ||| (own_m u2 (5 : Int32))) ||| (own_m u2 (6 : Int32))) ||| (own_m u2 (7 : Int32)))), .second, .val (.long ((72340172838076673 : Int64) * (bb.toInt64))), .second, .val (.long wd), .second, .val (.long (own_q wd bb)), .second, .val (.long (8388608 : Int64)), .second] [])) _
          refine XS.iconst X18.here hx rfl (hb hby at_255) ?_
          show Steps p.tables e below (T18.setTop (mkF m 256 #[.val (.long u0), .second, iv u1, iv u2, iv bb, .val (.long ((((((((own_m u2 (0 : Int32)) ||| (own_m u2 (1 : Int32))) ||| (own_m u2 (2 : Int32))) ||| (own_m u2 (3 : Int32))) ||| (own_m u2 (4 : Int32))) ||| (own_m u2 (5 : Int32))) ||| (own_m u2 (6 : Int32))) ||| (own_m u2 (7 : Int32)))), .second, .val (.long ((72340172838076673 : Int64) * (bb.toInt64))), .second, .val (.long wd), .second, .val (.long (own_q wd bb)), .second, .val (.long (8388608 : Int64)), .second] [(.int (1 : Int32))])) _
          refine XS.goto X18.here hx rfl (pc0 := 256) (pc' := 260) rfl (hb hby at_256) (by decide) (by decide) ?_
          show Steps p.tables e below (T18.setTop (mkF m 260 #[.val (.long u0), .second, iv u1, iv u2, iv bb, .val (.long ((((((((own_m u2 (0 : Int32)) ||| (own_m u2 (1 : Int32))) ||| (own_m u2 (2 : Int32))) ||| (own_m u2 (3 : Int32))) ||| (own_m u2 (4 : Int32))) ||| (own_m u2 (5 : Int32))) ||| (own_m u2 (6 : Int32))) ||| (own_m u2 (7 : Int32)))), .second, .val (.long ((72340172838076673 : Int64) * (bb.toInt64))), .second, .val (.long wd), .second, .val (.long (own_q wd bb)), .second, .val (.long (8388608 : Int64)), .second] [(.int (1 : Int32))])) _
          exact retN X18 hx (t := .boolean) Bd.returns (by simp) (hb hby at_260) hr
        · show Q0 Z u0 u1 u2 h0 n0 _ T18.heap _
          rw [eq18]
          exact ⟨rfl, N18⟩
    · skip
      obtain ⟨fs, hr, hrun, hended, hW, hsame⟩ := X15.leave (v := some (.int (1 : Int32))) (fun h => by rw [Bd.returns] at h; cases h)
      refine ⟨_, _, S16 _ ?_, hrun, hended, _, _, rfl, ?_, ⟨_, rfl⟩, hW, hsame.mono (by decide) (by decide)⟩
      · skip
        show Steps p.tables e below (T15.setTop (mkF m 116 #[.val (.long u0), .second, iv u1, iv u2, iv bb, .val (.long ((((((((own_m u2 (0 : Int32)) ||| (own_m u2 (1 : Int32))) ||| (own_m u2 (2 : Int32))) ||| (own_m u2 (3 : Int32))) ||| (own_m u2 (4 : Int32))) ||| (own_m u2 (5 : Int32))) ||| (own_m u2 (6 : Int32))) ||| (own_m u2 (7 : Int32)))), .second, .val (.long ((72340172838076673 : Int64) * (bb.toInt64))), .second, .val (.long wd), .second, .val (.long (own_q wd bb)), .second, .unset, .unset] [(.int (own_eq wd (1 : Int32) bb))])) _
        refine XS.ifNo X15.here hx rfl (hb hby at_116) rfl ((if0 _ _).trans (feq hc17).1) ?_
        show Steps p.tables e below (T15.setTop (mkF m 119 #[.val (.long u0), .second, iv u1, iv u2, iv bb, .val (.long ((((((((own_m u2 (0 : Int32)) ||| (own_m u2 (1 : Int32))) ||| (own_m u2 (2 : Int32))) ||| (own_m u2 (3 : Int32))) ||| (own_m u2 (4 : Int32))) ||| (own_m u2 (5 : Int32))) ||| (own_m u2 (6 : Int32))) ||| (own_m u2 (7 : Int32)))), .second, .val (.long ((72340172838076673 : Int64) * (bb.toInt64))), .second, .val (.long wd), .second, .val (.long (own_q wd bb)), .second, .unset, .unset] [])) _
        refine X15.ldc2Long hx hown (mvT hZ (hw _ (List.mem_of_getElem? (i := 20) rfl))) (g := (mkF m 119 #[.val (.long u0), .second, iv u1, iv u2, iv bb, .val (.long ((((((((own_m u2 (0 : Int32)) ||| (own_m u2 (1 : Int32))) ||| (own_m u2 (2 : Int32))) ||| (own_m u2 (3 : Int32))) ||| (own_m u2 (4 : Int32))) ||| (own_m u2 (5 : Int32))) ||| (own_m u2 (6 : Int32))) ||| (own_m u2 (7 : Int32)))), .second, .val (.long ((72340172838076673 : Int64) * (bb.toInt64))), .second, .val (.long wd), .second, .val (.long (own_q wd bb)), .second, .unset, .unset] [])) rfl (hb hby at_119) _ ?_
        show Steps p.tables e below (T15.setTop (mkF m 122 #[.val (.long u0), .second, iv u1, iv u2, iv bb, .val (.long ((((((((own_m u2 (0 : Int32)) ||| (own_m u2 (1 : Int32))) ||| (own_m u2 (2 : Int32))) ||| (own_m u2 (3 : Int32))) ||| (own_m u2 (4 : Int32))) ||| (own_m u2 (5 : Int32))) ||| (own_m u2 (6 : Int32))) ||| (own_m u2 (7 : Int32)))), .second, .val (.long ((72340172838076673 : Int64) * (bb.toInt64))), .second, .val (.long wd), .second, .val (.long (own_q wd bb)), .second, .unset, .unset] [(.long (32768 : Int64))])) _
        refine XS.goto X15.here hx rfl (pc0 := 122) (pc' := 230) rfl (hb hby at_122) (by decide) (by decide) ?_
        show Steps p.tables e below (T15.setTop (mkF m 230 #[.val (.long u0), .second, iv u1, iv u2, iv bb, .val (.long ((((((((own_m u2 (0 : Int32)) ||| (own_m u2 (1 : Int32))) ||| (own_m u2 (2 : Int32))) ||| (own_m u2 (3 : Int32))) ||| (own_m u2 (4 : Int32))) ||| (own_m u2 (5 : Int32))) ||| (own_m u2 (6 : Int32))) ||| (own_m u2 (7 : Int32)))), .second, .val (.long ((72340172838076673 : Int64) * (bb.toInt64))), .second, .val (.long wd), .second, .val (.long (own_q wd bb)), .second, .unset, .unset] [(.long (32768 : Int64))])) _
        refine XS.lstore X15.here hx rfl (hb hby at_230) rfl (l' := #[.val (.long u0), .second, iv u1, iv u2, iv bb, .val (.long ((((((((own_m u2 (0 : Int32)) ||| (own_m u2 (1 : Int32))) ||| (own_m u2 (2 : Int32))) ||| (own_m u2 (3 : Int32))) ||| (own_m u2 (4 : Int32))) ||| (own_m u2 (5 : Int32))) ||| (own_m u2 (6 : Int32))) ||| (own_m u2 (7 : Int32)))), .second, .val (.long ((72340172838076673 : Int64) * (bb.toInt64))), .second, .val (.long wd), .second, .val (.long (own_q wd bb)), .second, .val (.long (32768 : Int64)), .second]) rfl ?_
        show Steps p.tables e below (T15.setTop (mkF m 232 #[.val (.long u0), .second, iv u1, iv u2, iv bb, .val (.long ((((((((own_m u2 (0 : Int32)) ||| (own_m u2 (1 : Int32))) ||| (own_m u2 (2 : Int32))) ||| (own_m u2 (3 : Int32))) ||| (own_m u2 (4 : Int32))) ||| (own_m u2 (5 : Int32))) ||| (own_m u2 (6 : Int32))) ||| (own_m u2 (7 : Int32)))), .second, .val (.long ((72340172838076673 : Int64) * (bb.toInt64))), .second, .val (.long wd), .second, .val (.long (own_q wd bb)), .second, .val (.long (32768 : Int64)), .second] [])) _
        refine XS.lload X15.here hx rfl (hb hby at_232) rfl ?_
        show Steps p.tables e below (T15.setTop (mkF m 234 #[.val (.long u0), .second, iv u1, iv u2, iv bb, .val (.long ((((((((own_m u2 (0 : Int32)) ||| (own_m u2 (1 : Int32))) ||| (own_m u2 (2 : Int32))) ||| (own_m u2 (3 : Int32))) ||| (own_m u2 (4 : Int32))) ||| (own_m u2 (5 : Int32))) ||| (own_m u2 (6 : Int32))) ||| (own_m u2 (7 : Int32)))), .second, .val (.long ((72340172838076673 : Int64) * (bb.toInt64))), .second, .val (.long wd), .second, .val (.long (own_q wd bb)), .second, .val (.long (32768 : Int64)), .second] [(.long (own_q wd bb))])) _
        refine X15.ldc2Long hx hown (mvT hZ (hw _ (List.mem_of_getElem? (i := 18) rfl))) (g := (mkF m 234 #[.val (.long u0), .second, iv u1, iv u2, iv bb, .val (.long ((((((((own_m u2 (0 : Int32)) ||| (own_m u2 (1 : Int32))) ||| (own_m u2 (2 : Int32))) ||| (own_m u2 (3 : Int32))) ||| (own_m u2 (4 : Int32))) ||| (own_m u2 (5 : Int32))) ||| (own_m u2 (6 : Int32))) ||| (own_m u2 (7 : Int32)))), .second, .val (.long ((72340172838076673 : Int64) * (bb.toInt64))), .second, .val (.long wd), .second, .val (.long (own_q wd bb)), .second, .val (.long (32768 : Int64)), .second] [(.long (own_q wd bb))])) rfl (hb hby at_234) _ ?_
        show Steps p.tables e below (T15.setTop (mkF m 237 #[.val (.long u0), .second, iv u1, iv u2, iv bb, .val (.long ((((((((own_m u2 (0 : Int32)) ||| (own_m u2 (1 : Int32))) ||| (own_m u2 (2 : Int32))) ||| (own_m u2 (3 : Int32))) ||| (own_m u2 (4 : Int32))) ||| (own_m u2 (5 : Int32))) ||| (own_m u2 (6 : Int32))) ||| (own_m u2 (7 : Int32)))), .second, .val (.long ((72340172838076673 : Int64) * (bb.toInt64))), .second, .val (.long wd), .second, .val (.long (own_q wd bb)), .second, .val (.long (32768 : Int64)), .second] [(.long (9187201950435737471 : Int64)), (.long (own_q wd bb))])) _
        refine XS.land X15.here hx rfl (hb hby at_237) rfl ?_
        show Steps p.tables e below (T15.setTop (mkF m 238 #[.val (.long u0), .second, iv u1, iv u2, iv bb, .val (.long ((((((((own_m u2 (0 : Int32)) ||| (own_m u2 (1 : Int32))) ||| (own_m u2 (2 : Int32))) ||| (own_m u2 (3 : Int32))) ||| (own_m u2 (4 : Int32))) ||| (own_m u2 (5 : Int32))) ||| (own_m u2 (6 : Int32))) ||| (own_m u2 (7 : Int32)))), .second, .val (.long ((72340172838076673 : Int64) * (bb.toInt64))), .second, .val (.long wd), .second, .val (.long (own_q wd bb)), .second, .val (.long (32768 : Int64)), .second] [(.long ((own_q wd bb) &&& (9187201950435737471 : Int64)))])) _
        refine XS.lconst X15.here hx rfl (hb hby at_238) ?_
        show Steps p.tables e below (T15.setTop (mkF m 239 #[.val (.long u0), .second, iv u1, iv u2, iv bb, .val (.long ((((((((own_m u2 (0 : Int32)) ||| (own_m u2 (1 : Int32))) ||| (own_m u2 (2 : Int32))) ||| (own_m u2 (3 : Int32))) ||| (own_m u2 (4 : Int32))) ||| (own_m u2 (5 : Int32))) ||| (own_m u2 (6 : Int32))) ||| (own_m u2 (7 : Int32)))), .second, .val (.long ((72340172838076673 : Int64) * (bb.toInt64))), .second, .val (.long wd), .second, .val (.long (own_q wd bb)), .second, .val (.long (32768 : Int64)), .second] [(.long (0 : Int64)), (.long ((own_q wd bb) &&& (9187201950435737471 : Int64)))])) _
        refine XS.lcmp X15.here hx rfl (hb hby at_239) rfl ?_
        show Steps p.tables e below (T15.setTop (mkF m 240 #[.val (.long u0), .second, iv u1, iv u2, iv bb, .val (.long ((((((((own_m u2 (0 : Int32)) ||| (own_m u2 (1 : Int32))) ||| (own_m u2 (2 : Int32))) ||| (own_m u2 (3 : Int32))) ||| (own_m u2 (4 : Int32))) ||| (own_m u2 (5 : Int32))) ||| (own_m u2 (6 : Int32))) ||| (own_m u2 (7 : Int32)))), .second, .val (.long ((72340172838076673 : Int64) * (bb.toInt64))), .second, .val (.long wd), .second, .val (.long (own_q wd bb)), .second, .val (.long (32768 : Int64)), .second] [(.int (lcmpW ((own_q wd bb) &&& (9187201950435737471 : Int64)) (0 : Int64)))])) _
        refine XS.ifNo X15.here hx rfl (hb hby at_240) rfl ((if0 _ _).trans (teq ((lw_eq _ _).mpr (own_qm _ _))).2) ?_
        show Steps p.tables e below (T15.setTop (mkF m 243 #[.val (.long u0), .second, iv u1, iv u2, iv bb, .val (.long ((((((((own_m u2 (0 : Int32)) ||| (own_m u2 (1 : Int32))) ||| (own_m u2 (2 : Int32))) ||| (own_m u2 (3 : Int32))) ||| (own_m u2 (4 : Int32))) ||| (own_m u2 (5 : Int32))) ||| (own_m u2 (6 : Int32))) ||| (own_m u2 (7 : Int32)))), .second, .val (.long ((72340172838076673 : Int64) * (bb.toInt64))), .second, .val (.long wd), .second, .val (.long (own_q wd bb)), .second, .val (.long (32768 : Int64)), .second] [])) _
        refine XS.lload X15.here hx rfl (hb hby at_243) rfl ?_
        show Steps p.tables e below (T15.setTop (mkF m 245 #[.val (.long u0), .second, iv u1, iv u2, iv bb, .val (.long ((((((((own_m u2 (0 : Int32)) ||| (own_m u2 (1 : Int32))) ||| (own_m u2 (2 : Int32))) ||| (own_m u2 (3 : Int32))) ||| (own_m u2 (4 : Int32))) ||| (own_m u2 (5 : Int32))) ||| (own_m u2 (6 : Int32))) ||| (own_m u2 (7 : Int32)))), .second, .val (.long ((72340172838076673 : Int64) * (bb.toInt64))), .second, .val (.long wd), .second, .val (.long (own_q wd bb)), .second, .val (.long (32768 : Int64)), .second] [(.long (own_q wd bb))])) _
        refine XS.lload X15.here hx rfl (hb hby at_245) rfl ?_
        show Steps p.tables e below (T15.setTop (mkF m 247 #[.val (.long u0), .second, iv u1, iv u2, iv bb, .val (.long ((((((((own_m u2 (0 : Int32)) ||| (own_m u2 (1 : Int32))) ||| (own_m u2 (2 : Int32))) ||| (own_m u2 (3 : Int32))) ||| (own_m u2 (4 : Int32))) ||| (own_m u2 (5 : Int32))) ||| (own_m u2 (6 : Int32))) ||| (own_m u2 (7 : Int32)))), .second, .val (.long ((72340172838076673 : Int64) * (bb.toInt64))), .second, .val (.long wd), .second, .val (.long (own_q wd bb)), .second, .val (.long (32768 : Int64)), .second] [(.long (own_q wd bb)), (.long (own_q wd bb))])) _
        refine XS.lneg X15.here hx rfl (hb hby at_247) rfl ?_
        show Steps p.tables e below (T15.setTop (mkF m 248 #[.val (.long u0), .second, iv u1, iv u2, iv bb, .val (.long ((((((((own_m u2 (0 : Int32)) ||| (own_m u2 (1 : Int32))) ||| (own_m u2 (2 : Int32))) ||| (own_m u2 (3 : Int32))) ||| (own_m u2 (4 : Int32))) ||| (own_m u2 (5 : Int32))) ||| (own_m u2 (6 : Int32))) ||| (own_m u2 (7 : Int32)))), .second, .val (.long ((72340172838076673 : Int64) * (bb.toInt64))), .second, .val (.long wd), .second, .val (.long (own_q wd bb)), .second, .val (.long (32768 : Int64)), .second] [(.long (-(own_q wd bb))), (.long (own_q wd bb))])) _
        refine XS.land X15.here hx rfl (hb hby at_248) rfl ?_
        show Steps p.tables e below (T15.setTop (mkF m 249 #[.val (.long u0), .second, iv u1, iv u2, iv bb, .val (.long ((((((((own_m u2 (0 : Int32)) ||| (own_m u2 (1 : Int32))) ||| (own_m u2 (2 : Int32))) ||| (own_m u2 (3 : Int32))) ||| (own_m u2 (4 : Int32))) ||| (own_m u2 (5 : Int32))) ||| (own_m u2 (6 : Int32))) ||| (own_m u2 (7 : Int32)))), .second, .val (.long ((72340172838076673 : Int64) * (bb.toInt64))), .second, .val (.long wd), .second, .val (.long (own_q wd bb)), .second, .val (.long (32768 : Int64)), .second] [(.long ((own_q wd bb) &&& (-(own_q wd bb))))])) _
        refine XS.lload X15.here hx rfl (hb hby at_249) rfl ?_
        show Steps p.tables e below (T15.setTop (mkF m 251 #[.val (.long u0), .second, iv u1, iv u2, iv bb, .val (.long ((((((((own_m u2 (0 : Int32)) ||| (own_m u2 (1 : Int32))) ||| (own_m u2 (2 : Int32))) ||| (own_m u2 (3 : Int32))) ||| (own_m u2 (4 : Int32))) ||| (own_m u2 (5 : Int32))) ||| (own_m u2 (6 : Int32))) ||| (own_m u2 (7 : Int32)))), .second, .val (.long ((72340172838076673 : Int64) * (bb.toInt64))), .second, .val (.long wd), .second, .val (.long (own_q wd bb)), .second, .val (.long (32768 : Int64)), .second] [(.long (32768 : Int64)), (.long ((own_q wd bb) &&& (-(own_q wd bb))))])) _
        refine XS.lcmp X15.here hx rfl (hb hby at_251) rfl ?_
        show Steps p.tables e below (T15.setTop (mkF m 252 #[.val (.long u0), .second, iv u1, iv u2, iv bb, .val (.long ((((((((own_m u2 (0 : Int32)) ||| (own_m u2 (1 : Int32))) ||| (own_m u2 (2 : Int32))) ||| (own_m u2 (3 : Int32))) ||| (own_m u2 (4 : Int32))) ||| (own_m u2 (5 : Int32))) ||| (own_m u2 (6 : Int32))) ||| (own_m u2 (7 : Int32)))), .second, .val (.long ((72340172838076673 : Int64) * (bb.toInt64))), .second, .val (.long wd), .second, .val (.long (own_q wd bb)), .second, .val (.long (32768 : Int64)), .second] [(.int (lcmpW ((own_q wd bb) &&& (-(own_q wd bb))) (32768 : Int64)))])) _
        refine XS.ifNo X15.here hx rfl (hb hby at_252) rfl ((if0 _ _).trans (teq ((lw_eq _ _).mpr (own_fin1 wd bb hb7.1 hb7.2 hc14 hc17))).2) ?_
        show Steps p.tables e below (T15.setTop (mkF m 255 #[.val (.long u0), .second, iv u1, iv u2, iv bb, .val (.long ((((((((own_m u2 (0 : Int32)) ||| (own_m u2 (1 : Int32))) ||| (own_m u2 (2 : Int32))) ||| (own_m u2 (3 : Int32))) ||| (own_m u2 (4 : Int32))) ||| (own_m u2 (5 : Int32))) ||| (own_m u2 (6 : Int32))) ||| (own_m u2 (7 : Int32)))), .second, .val (.long ((72340172838076673 : Int64) * (bb.toInt64))), .second, .val (.long wd), .second, .val (.long (own_q wd bb)), .second, .val (.long (32768 : Int64)), .second] [])) _
        refine XS.iconst X15.here hx rfl (hb hby at_255) ?_
        show Steps p.tables e below (T15.setTop (mkF m 256 #[.val (.long u0), .second, iv u1, iv u2, iv bb, .val (.long ((((((((own_m u2 (0 : Int32)) ||| (own_m u2 (1 : Int32))) ||| (own_m u2 (2 : Int32))) ||| (own_m u2 (3 : Int32))) ||| (own_m u2 (4 : Int32))) ||| (own_m u2 (5 : Int32))) ||| (own_m u2 (6 : Int32))) ||| (own_m u2 (7 : Int32)))), .second, .val (.long ((72340172838076673 : Int64) * (bb.toInt64))), .second, .val (.long wd), .second, .val (.long (own_q wd bb)), .second, .val (.long (32768 : Int64)), .second] [(.int (1 : Int32))])) _
        refine XS.goto X15.here hx rfl (pc0 := 256) (pc' := 260) rfl (hb hby at_256) (by decide) (by decide) ?_
        show Steps p.tables e below (T15.setTop (mkF m 260 #[.val (.long u0), .second, iv u1, iv u2, iv bb, .val (.long ((((((((own_m u2 (0 : Int32)) ||| (own_m u2 (1 : Int32))) ||| (own_m u2 (2 : Int32))) ||| (own_m u2 (3 : Int32))) ||| (own_m u2 (4 : Int32))) ||| (own_m u2 (5 : Int32))) ||| (own_m u2 (6 : Int32))) ||| (own_m u2 (7 : Int32)))), .second, .val (.long ((72340172838076673 : Int64) * (bb.toInt64))), .second, .val (.long wd), .second, .val (.long (own_q wd bb)), .second, .val (.long (32768 : Int64)), .second] [(.int (1 : Int32))])) _
        exact retN X15 hx (t := .boolean) Bd.returns (by simp) (hb hby at_260) hr
      · show Q0 Z u0 u1 u2 h0 n0 _ T15.heap _
        rw [eq15]
        exact ⟨rfl, N15⟩
  · skip
    obtain ⟨fs, hr, hrun, hended, hW, hsame⟩ := X12.leave (v := some (.int (1 : Int32))) (fun h => by rw [Bd.returns] at h; cases h)
    refine ⟨_, _, S13 _ ?_, hrun, hended, _, _, rfl, ?_, ⟨_, rfl⟩, hW, hsame.mono (by decide) (by decide)⟩
    · skip
      show Steps p.tables e below (T12.setTop (mkF m 99 #[.val (.long u0), .second, iv u1, iv u2, iv bb, .val (.long ((((((((own_m u2 (0 : Int32)) ||| (own_m u2 (1 : Int32))) ||| (own_m u2 (2 : Int32))) ||| (own_m u2 (3 : Int32))) ||| (own_m u2 (4 : Int32))) ||| (own_m u2 (5 : Int32))) ||| (own_m u2 (6 : Int32))) ||| (own_m u2 (7 : Int32)))), .second, .val (.long ((72340172838076673 : Int64) * (bb.toInt64))), .second, .val (.long wd), .second, .val (.long (own_q wd bb)), .second, .unset, .unset] [(.int (own_eq wd (0 : Int32) bb))])) _
      refine XS.ifNo X12.here hx rfl (hb hby at_99) rfl ((if0 _ _).trans (feq hc14).1) ?_
      show Steps p.tables e below (T12.setTop (mkF m 102 #[.val (.long u0), .second, iv u1, iv u2, iv bb, .val (.long ((((((((own_m u2 (0 : Int32)) ||| (own_m u2 (1 : Int32))) ||| (own_m u2 (2 : Int32))) ||| (own_m u2 (3 : Int32))) ||| (own_m u2 (4 : Int32))) ||| (own_m u2 (5 : Int32))) ||| (own_m u2 (6 : Int32))) ||| (own_m u2 (7 : Int32)))), .second, .val (.long ((72340172838076673 : Int64) * (bb.toInt64))), .second, .val (.long wd), .second, .val (.long (own_q wd bb)), .second, .unset, .unset] [])) _
      refine X12.ldc2Long hx hown (mvT hZ (hw _ (List.mem_of_getElem? (i := 17) rfl))) (g := (mkF m 102 #[.val (.long u0), .second, iv u1, iv u2, iv bb, .val (.long ((((((((own_m u2 (0 : Int32)) ||| (own_m u2 (1 : Int32))) ||| (own_m u2 (2 : Int32))) ||| (own_m u2 (3 : Int32))) ||| (own_m u2 (4 : Int32))) ||| (own_m u2 (5 : Int32))) ||| (own_m u2 (6 : Int32))) ||| (own_m u2 (7 : Int32)))), .second, .val (.long ((72340172838076673 : Int64) * (bb.toInt64))), .second, .val (.long wd), .second, .val (.long (own_q wd bb)), .second, .unset, .unset] [])) rfl (hb hby at_102) _ ?_
      show Steps p.tables e below (T12.setTop (mkF m 105 #[.val (.long u0), .second, iv u1, iv u2, iv bb, .val (.long ((((((((own_m u2 (0 : Int32)) ||| (own_m u2 (1 : Int32))) ||| (own_m u2 (2 : Int32))) ||| (own_m u2 (3 : Int32))) ||| (own_m u2 (4 : Int32))) ||| (own_m u2 (5 : Int32))) ||| (own_m u2 (6 : Int32))) ||| (own_m u2 (7 : Int32)))), .second, .val (.long ((72340172838076673 : Int64) * (bb.toInt64))), .second, .val (.long wd), .second, .val (.long (own_q wd bb)), .second, .unset, .unset] [(.long (128 : Int64))])) _
      refine XS.goto X12.here hx rfl (pc0 := 105) (pc' := 230) rfl (hb hby at_105) (by decide) (by decide) ?_
      show Steps p.tables e below (T12.setTop (mkF m 230 #[.val (.long u0), .second, iv u1, iv u2, iv bb, .val (.long ((((((((own_m u2 (0 : Int32)) ||| (own_m u2 (1 : Int32))) ||| (own_m u2 (2 : Int32))) ||| (own_m u2 (3 : Int32))) ||| (own_m u2 (4 : Int32))) ||| (own_m u2 (5 : Int32))) ||| (own_m u2 (6 : Int32))) ||| (own_m u2 (7 : Int32)))), .second, .val (.long ((72340172838076673 : Int64) * (bb.toInt64))), .second, .val (.long wd), .second, .val (.long (own_q wd bb)), .second, .unset, .unset] [(.long (128 : Int64))])) _
      refine XS.lstore X12.here hx rfl (hb hby at_230) rfl (l' := #[.val (.long u0), .second, iv u1, iv u2, iv bb, .val (.long ((((((((own_m u2 (0 : Int32)) ||| (own_m u2 (1 : Int32))) ||| (own_m u2 (2 : Int32))) ||| (own_m u2 (3 : Int32))) ||| (own_m u2 (4 : Int32))) ||| (own_m u2 (5 : Int32))) ||| (own_m u2 (6 : Int32))) ||| (own_m u2 (7 : Int32)))), .second, .val (.long ((72340172838076673 : Int64) * (bb.toInt64))), .second, .val (.long wd), .second, .val (.long (own_q wd bb)), .second, .val (.long (128 : Int64)), .second]) rfl ?_
      show Steps p.tables e below (T12.setTop (mkF m 232 #[.val (.long u0), .second, iv u1, iv u2, iv bb, .val (.long ((((((((own_m u2 (0 : Int32)) ||| (own_m u2 (1 : Int32))) ||| (own_m u2 (2 : Int32))) ||| (own_m u2 (3 : Int32))) ||| (own_m u2 (4 : Int32))) ||| (own_m u2 (5 : Int32))) ||| (own_m u2 (6 : Int32))) ||| (own_m u2 (7 : Int32)))), .second, .val (.long ((72340172838076673 : Int64) * (bb.toInt64))), .second, .val (.long wd), .second, .val (.long (own_q wd bb)), .second, .val (.long (128 : Int64)), .second] [])) _
      refine XS.lload X12.here hx rfl (hb hby at_232) rfl ?_
      show Steps p.tables e below (T12.setTop (mkF m 234 #[.val (.long u0), .second, iv u1, iv u2, iv bb, .val (.long ((((((((own_m u2 (0 : Int32)) ||| (own_m u2 (1 : Int32))) ||| (own_m u2 (2 : Int32))) ||| (own_m u2 (3 : Int32))) ||| (own_m u2 (4 : Int32))) ||| (own_m u2 (5 : Int32))) ||| (own_m u2 (6 : Int32))) ||| (own_m u2 (7 : Int32)))), .second, .val (.long ((72340172838076673 : Int64) * (bb.toInt64))), .second, .val (.long wd), .second, .val (.long (own_q wd bb)), .second, .val (.long (128 : Int64)), .second] [(.long (own_q wd bb))])) _
      refine X12.ldc2Long hx hown (mvT hZ (hw _ (List.mem_of_getElem? (i := 18) rfl))) (g := (mkF m 234 #[.val (.long u0), .second, iv u1, iv u2, iv bb, .val (.long ((((((((own_m u2 (0 : Int32)) ||| (own_m u2 (1 : Int32))) ||| (own_m u2 (2 : Int32))) ||| (own_m u2 (3 : Int32))) ||| (own_m u2 (4 : Int32))) ||| (own_m u2 (5 : Int32))) ||| (own_m u2 (6 : Int32))) ||| (own_m u2 (7 : Int32)))), .second, .val (.long ((72340172838076673 : Int64) * (bb.toInt64))), .second, .val (.long wd), .second, .val (.long (own_q wd bb)), .second, .val (.long (128 : Int64)), .second] [(.long (own_q wd bb))])) rfl (hb hby at_234) _ ?_
      show Steps p.tables e below (T12.setTop (mkF m 237 #[.val (.long u0), .second, iv u1, iv u2, iv bb, .val (.long ((((((((own_m u2 (0 : Int32)) ||| (own_m u2 (1 : Int32))) ||| (own_m u2 (2 : Int32))) ||| (own_m u2 (3 : Int32))) ||| (own_m u2 (4 : Int32))) ||| (own_m u2 (5 : Int32))) ||| (own_m u2 (6 : Int32))) ||| (own_m u2 (7 : Int32)))), .second, .val (.long ((72340172838076673 : Int64) * (bb.toInt64))), .second, .val (.long wd), .second, .val (.long (own_q wd bb)), .second, .val (.long (128 : Int64)), .second] [(.long (9187201950435737471 : Int64)), (.long (own_q wd bb))])) _
      refine XS.land X12.here hx rfl (hb hby at_237) rfl ?_
      show Steps p.tables e below (T12.setTop (mkF m 238 #[.val (.long u0), .second, iv u1, iv u2, iv bb, .val (.long ((((((((own_m u2 (0 : Int32)) ||| (own_m u2 (1 : Int32))) ||| (own_m u2 (2 : Int32))) ||| (own_m u2 (3 : Int32))) ||| (own_m u2 (4 : Int32))) ||| (own_m u2 (5 : Int32))) ||| (own_m u2 (6 : Int32))) ||| (own_m u2 (7 : Int32)))), .second, .val (.long ((72340172838076673 : Int64) * (bb.toInt64))), .second, .val (.long wd), .second, .val (.long (own_q wd bb)), .second, .val (.long (128 : Int64)), .second] [(.long ((own_q wd bb) &&& (9187201950435737471 : Int64)))])) _
      refine XS.lconst X12.here hx rfl (hb hby at_238) ?_
      show Steps p.tables e below (T12.setTop (mkF m 239 #[.val (.long u0), .second, iv u1, iv u2, iv bb, .val (.long ((((((((own_m u2 (0 : Int32)) ||| (own_m u2 (1 : Int32))) ||| (own_m u2 (2 : Int32))) ||| (own_m u2 (3 : Int32))) ||| (own_m u2 (4 : Int32))) ||| (own_m u2 (5 : Int32))) ||| (own_m u2 (6 : Int32))) ||| (own_m u2 (7 : Int32)))), .second, .val (.long ((72340172838076673 : Int64) * (bb.toInt64))), .second, .val (.long wd), .second, .val (.long (own_q wd bb)), .second, .val (.long (128 : Int64)), .second] [(.long (0 : Int64)), (.long ((own_q wd bb) &&& (9187201950435737471 : Int64)))])) _
      refine XS.lcmp X12.here hx rfl (hb hby at_239) rfl ?_
      show Steps p.tables e below (T12.setTop (mkF m 240 #[.val (.long u0), .second, iv u1, iv u2, iv bb, .val (.long ((((((((own_m u2 (0 : Int32)) ||| (own_m u2 (1 : Int32))) ||| (own_m u2 (2 : Int32))) ||| (own_m u2 (3 : Int32))) ||| (own_m u2 (4 : Int32))) ||| (own_m u2 (5 : Int32))) ||| (own_m u2 (6 : Int32))) ||| (own_m u2 (7 : Int32)))), .second, .val (.long ((72340172838076673 : Int64) * (bb.toInt64))), .second, .val (.long wd), .second, .val (.long (own_q wd bb)), .second, .val (.long (128 : Int64)), .second] [(.int (lcmpW ((own_q wd bb) &&& (9187201950435737471 : Int64)) (0 : Int64)))])) _
      refine XS.ifNo X12.here hx rfl (hb hby at_240) rfl ((if0 _ _).trans (teq ((lw_eq _ _).mpr (own_qm _ _))).2) ?_
      show Steps p.tables e below (T12.setTop (mkF m 243 #[.val (.long u0), .second, iv u1, iv u2, iv bb, .val (.long ((((((((own_m u2 (0 : Int32)) ||| (own_m u2 (1 : Int32))) ||| (own_m u2 (2 : Int32))) ||| (own_m u2 (3 : Int32))) ||| (own_m u2 (4 : Int32))) ||| (own_m u2 (5 : Int32))) ||| (own_m u2 (6 : Int32))) ||| (own_m u2 (7 : Int32)))), .second, .val (.long ((72340172838076673 : Int64) * (bb.toInt64))), .second, .val (.long wd), .second, .val (.long (own_q wd bb)), .second, .val (.long (128 : Int64)), .second] [])) _
      refine XS.lload X12.here hx rfl (hb hby at_243) rfl ?_
      show Steps p.tables e below (T12.setTop (mkF m 245 #[.val (.long u0), .second, iv u1, iv u2, iv bb, .val (.long ((((((((own_m u2 (0 : Int32)) ||| (own_m u2 (1 : Int32))) ||| (own_m u2 (2 : Int32))) ||| (own_m u2 (3 : Int32))) ||| (own_m u2 (4 : Int32))) ||| (own_m u2 (5 : Int32))) ||| (own_m u2 (6 : Int32))) ||| (own_m u2 (7 : Int32)))), .second, .val (.long ((72340172838076673 : Int64) * (bb.toInt64))), .second, .val (.long wd), .second, .val (.long (own_q wd bb)), .second, .val (.long (128 : Int64)), .second] [(.long (own_q wd bb))])) _
      refine XS.lload X12.here hx rfl (hb hby at_245) rfl ?_
      show Steps p.tables e below (T12.setTop (mkF m 247 #[.val (.long u0), .second, iv u1, iv u2, iv bb, .val (.long ((((((((own_m u2 (0 : Int32)) ||| (own_m u2 (1 : Int32))) ||| (own_m u2 (2 : Int32))) ||| (own_m u2 (3 : Int32))) ||| (own_m u2 (4 : Int32))) ||| (own_m u2 (5 : Int32))) ||| (own_m u2 (6 : Int32))) ||| (own_m u2 (7 : Int32)))), .second, .val (.long ((72340172838076673 : Int64) * (bb.toInt64))), .second, .val (.long wd), .second, .val (.long (own_q wd bb)), .second, .val (.long (128 : Int64)), .second] [(.long (own_q wd bb)), (.long (own_q wd bb))])) _
      refine XS.lneg X12.here hx rfl (hb hby at_247) rfl ?_
      show Steps p.tables e below (T12.setTop (mkF m 248 #[.val (.long u0), .second, iv u1, iv u2, iv bb, .val (.long ((((((((own_m u2 (0 : Int32)) ||| (own_m u2 (1 : Int32))) ||| (own_m u2 (2 : Int32))) ||| (own_m u2 (3 : Int32))) ||| (own_m u2 (4 : Int32))) ||| (own_m u2 (5 : Int32))) ||| (own_m u2 (6 : Int32))) ||| (own_m u2 (7 : Int32)))), .second, .val (.long ((72340172838076673 : Int64) * (bb.toInt64))), .second, .val (.long wd), .second, .val (.long (own_q wd bb)), .second, .val (.long (128 : Int64)), .second] [(.long (-(own_q wd bb))), (.long (own_q wd bb))])) _
      refine XS.land X12.here hx rfl (hb hby at_248) rfl ?_
      show Steps p.tables e below (T12.setTop (mkF m 249 #[.val (.long u0), .second, iv u1, iv u2, iv bb, .val (.long ((((((((own_m u2 (0 : Int32)) ||| (own_m u2 (1 : Int32))) ||| (own_m u2 (2 : Int32))) ||| (own_m u2 (3 : Int32))) ||| (own_m u2 (4 : Int32))) ||| (own_m u2 (5 : Int32))) ||| (own_m u2 (6 : Int32))) ||| (own_m u2 (7 : Int32)))), .second, .val (.long ((72340172838076673 : Int64) * (bb.toInt64))), .second, .val (.long wd), .second, .val (.long (own_q wd bb)), .second, .val (.long (128 : Int64)), .second] [(.long ((own_q wd bb) &&& (-(own_q wd bb))))])) _
      refine XS.lload X12.here hx rfl (hb hby at_249) rfl ?_
      show Steps p.tables e below (T12.setTop (mkF m 251 #[.val (.long u0), .second, iv u1, iv u2, iv bb, .val (.long ((((((((own_m u2 (0 : Int32)) ||| (own_m u2 (1 : Int32))) ||| (own_m u2 (2 : Int32))) ||| (own_m u2 (3 : Int32))) ||| (own_m u2 (4 : Int32))) ||| (own_m u2 (5 : Int32))) ||| (own_m u2 (6 : Int32))) ||| (own_m u2 (7 : Int32)))), .second, .val (.long ((72340172838076673 : Int64) * (bb.toInt64))), .second, .val (.long wd), .second, .val (.long (own_q wd bb)), .second, .val (.long (128 : Int64)), .second] [(.long (128 : Int64)), (.long ((own_q wd bb) &&& (-(own_q wd bb))))])) _
      refine XS.lcmp X12.here hx rfl (hb hby at_251) rfl ?_
      show Steps p.tables e below (T12.setTop (mkF m 252 #[.val (.long u0), .second, iv u1, iv u2, iv bb, .val (.long ((((((((own_m u2 (0 : Int32)) ||| (own_m u2 (1 : Int32))) ||| (own_m u2 (2 : Int32))) ||| (own_m u2 (3 : Int32))) ||| (own_m u2 (4 : Int32))) ||| (own_m u2 (5 : Int32))) ||| (own_m u2 (6 : Int32))) ||| (own_m u2 (7 : Int32)))), .second, .val (.long ((72340172838076673 : Int64) * (bb.toInt64))), .second, .val (.long wd), .second, .val (.long (own_q wd bb)), .second, .val (.long (128 : Int64)), .second] [(.int (lcmpW ((own_q wd bb) &&& (-(own_q wd bb))) (128 : Int64)))])) _
      refine XS.ifNo X12.here hx rfl (hb hby at_252) rfl ((if0 _ _).trans (teq ((lw_eq _ _).mpr (own_fin0 wd bb hb7.1 hb7.2 hc14))).2) ?_
      show Steps p.tables e below (T12.setTop (mkF m 255 #[.val (.long u0), .second, iv u1, iv u2, iv bb, .val (.long ((((((((own_m u2 (0 : Int32)) ||| (own_m u2 (1 : Int32))) ||| (own_m u2 (2 : Int32))) ||| (own_m u2 (3 : Int32))) ||| (own_m u2 (4 : Int32))) ||| (own_m u2 (5 : Int32))) ||| (own_m u2 (6 : Int32))) ||| (own_m u2 (7 : Int32)))), .second, .val (.long ((72340172838076673 : Int64) * (bb.toInt64))), .second, .val (.long wd), .second, .val (.long (own_q wd bb)), .second, .val (.long (128 : Int64)), .second] [])) _
      refine XS.iconst X12.here hx rfl (hb hby at_255) ?_
      show Steps p.tables e below (T12.setTop (mkF m 256 #[.val (.long u0), .second, iv u1, iv u2, iv bb, .val (.long ((((((((own_m u2 (0 : Int32)) ||| (own_m u2 (1 : Int32))) ||| (own_m u2 (2 : Int32))) ||| (own_m u2 (3 : Int32))) ||| (own_m u2 (4 : Int32))) ||| (own_m u2 (5 : Int32))) ||| (own_m u2 (6 : Int32))) ||| (own_m u2 (7 : Int32)))), .second, .val (.long ((72340172838076673 : Int64) * (bb.toInt64))), .second, .val (.long wd), .second, .val (.long (own_q wd bb)), .second, .val (.long (128 : Int64)), .second] [(.int (1 : Int32))])) _
      refine XS.goto X12.here hx rfl (pc0 := 256) (pc' := 260) rfl (hb hby at_256) (by decide) (by decide) ?_
      show Steps p.tables e below (T12.setTop (mkF m 260 #[.val (.long u0), .second, iv u1, iv u2, iv bb, .val (.long ((((((((own_m u2 (0 : Int32)) ||| (own_m u2 (1 : Int32))) ||| (own_m u2 (2 : Int32))) ||| (own_m u2 (3 : Int32))) ||| (own_m u2 (4 : Int32))) ||| (own_m u2 (5 : Int32))) ||| (own_m u2 (6 : Int32))) ||| (own_m u2 (7 : Int32)))), .second, .val (.long ((72340172838076673 : Int64) * (bb.toInt64))), .second, .val (.long wd), .second, .val (.long (own_q wd bb)), .second, .val (.long (128 : Int64)), .second] [(.int (1 : Int32))])) _
      exact retN X12 hx (t := .boolean) Bd.returns (by simp) (hb hby at_260) hr
    · show Q0 Z u0 u1 u2 h0 n0 _ T12.heap _
      rw [eq12]
      exact ⟨rfl, N12⟩
set_option maxRecDepth 65536 in
set_option maxHeartbeats 40000000 in
theorem comes_1 {Post : Tables → Env → Array Value → State → Outcome → State → Prop} (hpost : ∀ tb e args s v u, (limb_1_1.after args s (.returned v) u = true ∧ limb_1_2.after args s (.returned v) u = true ∧ True) → FrameEnd s (.returned v) u (Jvm.fieldLocs frame_1_writes args s ++ Jvm.arrayLocs frame_1_arrays args s ++ Jvm.staticLocs frame_1_statics s) 0 0 → Post tb e args s (.returned v) u) :
    ArmFor flags0 classFile x code maxLocals ret World_1 tables_1 room_1 Calls_1 rest_1 Pre_1 Post := by
  intro l hfl _ _ p e ha hc hk s m args below hf hA hF happ hP
  obtain ⟨hcalls, hrest, hpre⟩ := hP
  obtain ⟨-, -, -, hnamed, -, -, -, hat⟩ := (Spec.applies_iff hf).mp happ
  obtain ⟨hg, hn⟩ := and_e (Cond.before_iff.mp (show (Jvm.Cond.and given_1 narrow_1).before args s = true from hpre))
  obtain ⟨g1, g2⟩ := and_e hg
  obtain ⟨g3, g4⟩ := and_e g2
  obtain ⟨g5, g6⟩ := and_e g4
  obtain ⟨w0, w1, w2, rfl⟩ : ∃ w0 w1 w2 : Value, args = #[w0, w1, w2] := by
    have hs : args.size = 3 := by simpa [Cond.value, given_1] using g1
    obtain ⟨L⟩ := args
    match L, hs with
    | [w0, w1, w2], _ => exact ⟨w0, w1, w2, rfl⟩
  have hw := fun d (hd : d ∈ tables_1) => atoms_spec (ws := Jvm.Cond.code x code maxLocals ret :: tables_1) hat d (List.mem_cons_of_mem _ hd)
  have hfit : Fit s := fun {y c} hc i hi => by
    obtain ⟨ha, rfl⟩ := Array.getElem?_eq_some_iff.mp hc
    have q := List.all_eq_true.mp ((Array.all_eq_true_iff_forall_mem.mp hF) _ (Array.getElem_mem ha)) i (List.mem_range.mpr hi)
    simpa [Array.getElem?_eq_getElem hi] using q
  obtain ⟨i0, ei0⟩ := isL_v g3
  obtain rfl : w0 = (.long i0) := Option.some.inj ei0
  obtain ⟨i1, ei1⟩ := is_v g5
  obtain rfl : w1 = (.int i1) := Option.some.inj ei1
  obtain ⟨i2, ei2⟩ := is_v g6
  obtain rfl : w2 = (.int i2) := Option.some.inj ei2
  obtain ⟨n, o, h1, h2, h3, _, L, rfl, ⟨rfl, N⟩, hq⟩ := rm0 l s _ hw tables_1 i0 i1 i2 s.heap s.heap.size (Nat.le_refl _)  p e ha hc hk s m _ below hf ((Spec.applies_iff_loose hf).mp happ).1 ⟨rfl, State.Warmed39.refl s, rfl⟩ trivial
  refine ⟨n, _, h1, h2, h3, hpost _ _ _ _ _ _ ⟨Cond.after_iff.mpr rfl, Cond.after_iff.mpr (eq_i res_at (Term.int_eval (1)) rfl), trivial⟩ ⟨hq.1, hq.2.1, (hq.2.2.sift fun y hy => Or.inr (N y hy)).mono (by decide) (by decide)⟩⟩
theorem main_1_1 : Claimed_1_1 := comes_1 fun _ _ _ _ _ _ h hF => ⟨h.1, hF⟩
theorem main_1_2 : Claimed_1_2 := comes_1 fun _ _ _ _ _ _ h hF => ⟨h.2.1, hF⟩
end Jvm.Pilot.@@N@@
namespace Jvm.Pilot.@@N@@
open Jvm Jvm.ClassFile Sem Op Lib Jvm.Free Jvm.Stand Jvm.Pilot.@@N@@.Jvm.D
/-! MADE BY PROGRAM (witnessworld.py) out of the Statement's table words and the real class files: 9 classes; the members and pool entries that the words name. The judged class is class 1, her method 3. -/
namespace start1
open Jvm.ClassFile
def u (s : String) : CpInfo := .utf8 (stringToUtf16 s)
/-- a pool by its gaps: so many unusable entries, then the entry; so many at the end -/
def gap : Nat → List CpInfo → List CpInfo
  | 0, r => r
  | n + 1, r => .unusable :: gap n r
def poolList (es : List (Nat × CpInfo)) (last : Nat) : List CpInfo := es.foldr (fun e r => gap e.1 (e.2 :: r)) (gap last [])
def pool (es : List (Nat × CpInfo)) (last : Nat) : Array CpInfo := ⟨poolList es last⟩
def fileOf (pool : Array CpInfo) (this : Nat) (attrs : Array Attribute := #[]) (ms : Array MethodInfo := #[]) (fl : Nat := 33) (sup : Nat := 0) (ifs : Array Nat := #[]) (fds : Array FieldInfo := #[]) : ClassFile where
  minorVersion := 0
  majorVersion := 65
  constantPool := pool
  accessFlags := fl
  thisClass := this
  superClass := sup
  interfaces := ifs
  fields := fds
  methods := ms
  attributes := attrs
def plain (name : String) (sup : Option ClassId) : Class where
  name := name
  kind := .ordinary
  loader := none
  accessFlags := 33
  super := sup
  interfaces := #[]
  cf := none
  fields := #[]
  methods := #[]
  instanceTypes := #[]
  staticTypes := #[]
  resolved := #[]
  callSites := []
  init := .initialized
  statics := none
  mirror := none

def pool0 : Array CpInfo := pool [(5, u "<init>"), (0, u "()V"), (1, .class_ 10), (1, u "java/lang/Object")] 113

def k0m0 : Method := { name := "<init>", desc := "()V", sig := { parameters := [], returnType := none }, accessFlags := 1, code := none }
/-- java/lang/Object -/
def k0 : Class := { plain "java/lang/Object" none with
  accessFlags := 33
  interfaces := #[]
  cf := some (fileOf pool0 8 #[] #[{ accessFlags := 1, nameIndex := 5, descriptorIndex := 6, attributes := #[] }] 33 0 #[] #[])
  fields := #[]
  methods := #[k0m0]
  instanceTypes := #[]
  staticTypes := #[]
  resolved := Array.replicate 124 none
  statics := none }

def pool1 : Array CpInfo := pool [(2, .class_ 4), (1, u "java/lang/Object"), (0, u "<init>"), (0, u "()V"), (0, .long 255), (1, .methodref 10 11), (0, .class_ 12), (0, .nameAndType 13 14), (0, u "com/example/rivanna/rivanna/core/json/EightBytesEqualToPinLaw"), (0, u "m"), (0, u "(II)J"), (0, .long 72340172838076673), (1, .long 18446744073709551615), (1, .methodref 20 21), (0, .class_ 22), (0, .nameAndType 23 24), (0, u "com/example/rivanna/rivanna/core/json/EightBytes"), (0, u "equalTo"), (0, u "(JI)J"), (0, .methodref 10 26), (0, .nameAndType 27 28), (0, u "eq"), (0, u "(JII)Z"), (0, .long 128), (1, .long 32768), (1, .long 8388608), (1, .long 2147483648), (1, .long 549755813888), (1, .long 140737488355328), (1, .long 36028797018963968), (1, .long 9223372036854775808), (1, .long 9187201950435737471), (4, u "law")] 2

def k1m0 : Method := { name := "<init>", desc := "()V", sig := { parameters := [], returnType := none }, accessFlags := 2, code := none }
def k1c1 : Code := { maxStack := 4, maxLocals := 2, code := method_2_code, exceptionTable := #[], attributes := #[] }
def k1m1 : Method := { name := "m", desc := "(II)J", sig := { parameters := [.int, .int], returnType := some .long }, accessFlags := 10, code := some k1c1 }
def k1c2 : Code := { maxStack := 4, maxLocals := 4, code := method_3_code, exceptionTable := #[], attributes := #[] }
def k1m2 : Method := { name := "eq", desc := "(JII)Z", sig := { parameters := [.long, .int, .int], returnType := some .boolean }, accessFlags := 10, code := some k1c2 }
def k1c3 : Code := { maxStack := 6, maxLocals := 15, code := code, exceptionTable := #[], attributes := #[] }
def k1m3 : Method := { name := "law", desc := "(JII)Z", sig := { parameters := [.long, .int, .int], returnType := some .boolean }, accessFlags := 9, code := some k1c3 }
/-- com/example/rivanna/rivanna/core/json/EightBytesEqualToPinLaw -/
def k1 : Class := { plain "com/example/rivanna/rivanna/core/json/EightBytesEqualToPinLaw" (some 0) with
  accessFlags := 49
  interfaces := #[]
  cf := some (fileOf pool1 10 #[] #[{ accessFlags := 2, nameIndex := 5, descriptorIndex := 6, attributes := #[] }, { accessFlags := 10, nameIndex := 13, descriptorIndex := 14, attributes := #[] }, { accessFlags := 10, nameIndex := 27, descriptorIndex := 28, attributes := #[] }, { accessFlags := 9, nameIndex := 50, descriptorIndex := 28, attributes := #[] }] 49 2 #[] #[])
  fields := #[]
  methods := #[k1m0, k1m1, k1m2, k1m3]
  instanceTypes := #[]
  staticTypes := #[]
  resolved := Array.replicate 53 none
  statics := none }

def pool2 : Array CpInfo := pool [(4, .class_ 6), (1, u "java/lang/Object"), (0, u "<init>"), (0, u "()V"), (1, .class_ 12), (1, u "com/example/rivanna/rivanna/core/json/EightBytes"), (0, u "LONGS"), (0, u "Ljava/lang/invoke/VarHandle;"), (6, .long 9259542123273814144), (1, .long 72340172838076673), (1, .long 18446744073709551615), (15, u "SIZE"), (0, u "I"), (2, u "ONES"), (0, u "J"), (0, u "HIGH_BITS"), (5, u "equalTo"), (0, u "(JI)J")] 3

def k2m0 : Method := { name := "<init>", desc := "()V", sig := { parameters := [], returnType := none }, accessFlags := 2, code := none }
def k2c1 : Code := { maxStack := 6, maxLocals := 5, code := prog_21_method_4_code, exceptionTable := #[], attributes := #[] }
def k2m1 : Method := { name := "equalTo", desc := "(JI)J", sig := { parameters := [.long, .int], returnType := some .long }, accessFlags := 8, code := some k2c1 }
/-- com/example/rivanna/rivanna/core/json/EightBytes -/
def k2 : Class := { plain "com/example/rivanna/rivanna/core/json/EightBytes" (some 0) with
  accessFlags := 48
  interfaces := #[]
  cf := some (fileOf pool2 10 #[] #[{ accessFlags := 2, nameIndex := 7, descriptorIndex := 8, attributes := #[] }, { accessFlags := 8, nameIndex := 53, descriptorIndex := 54, attributes := #[] }] 48 4 #[] #[{ accessFlags := 24, nameIndex := 41, descriptorIndex := 42, attributes := #[] }, { accessFlags := 26, nameIndex := 13, descriptorIndex := 14, attributes := #[] }, { accessFlags := 26, nameIndex := 45, descriptorIndex := 46, attributes := #[] }, { accessFlags := 26, nameIndex := 47, descriptorIndex := 46, attributes := #[] }])
  fields := #[{ name := "SIZE", type := .int, accessFlags := 24, slot := 0, constantValue := 0 }, { name := "LONGS", type := (.object "java/lang/invoke/VarHandle"), accessFlags := 26, slot := 1, constantValue := 0 }, { name := "ONES", type := .long, accessFlags := 26, slot := 2, constantValue := 0 }, { name := "HIGH_BITS", type := .long, accessFlags := 26, slot := 3, constantValue := 0 }]
  methods := #[k2m0, k2m1]
  instanceTypes := #[]
  staticTypes := #[.int, (.object "java/lang/invoke/VarHandle"), .long, .long]
  resolved := Array.replicate 58 none
  statics := none }

def pool3 : Array CpInfo := pool [(1, u "java/lang/Cloneable"), (0, .class_ 1), (0, u "java/lang/Object"), (0, .class_ 3)] 3

/-- java/lang/Cloneable -/
def k3 : Class := { plain "java/lang/Cloneable" (some 0) with
  accessFlags := 1537
  interfaces := #[]
  cf := some (fileOf pool3 2 #[] #[] 1537 4 #[] #[])
  fields := #[]
  methods := #[]
  instanceTypes := #[]
  staticTypes := #[]
  resolved := Array.replicate 8 none
  statics := none }

def pool4 : Array CpInfo := pool [(1, u "java/io/Serializable"), (0, .class_ 1), (0, u "java/lang/Object"), (0, .class_ 3)] 3

/-- java/io/Serializable -/
def k4 : Class := { plain "java/io/Serializable" (some 0) with
  accessFlags := 1537
  interfaces := #[]
  cf := some (fileOf pool4 2 #[] #[] 1537 4 #[] #[])
  fields := #[]
  methods := #[]
  instanceTypes := #[]
  staticTypes := #[]
  resolved := Array.replicate 8 none
  statics := none }

/-- the primitive byte -/
def k5 : Class := { plain "byte" none with kind := .primitive 'B', accessFlags := 0x411 }
/-- [B -/
def k6 : Class := { plain "[B" (some 0) with kind := .array 5 .byte, interfaces := #[3, 4], accessFlags := 1041 }

/-- the primitive int -/
def k7 : Class := { plain "int" none with kind := .primitive 'I', accessFlags := 0x411 }
/-- [I -/
def k8 : Class := { plain "[I" (some 0) with kind := .array 7 .int, interfaces := #[3, 4], accessFlags := 1041 }

def heap : Heap := #[]
def classes : Array Class := #[k0, k1, k2, k3, k4, k5, k6, k7, k8]
def interned : List (Array UInt16 × Addr) := []
def slotsUsed : Nat := 0
def theMethod : MethodId := ⟨1, 3⟩
def args0 : Array Value := #[.long 5, .int 6, .int 7]
def aboutOver (below : List Frame) : State where
  vm := { classes := classes, interned := interned.toArray }
  heap := heap
  slotsUsed := slotsUsed
  threads := #[{ frames := .invoking theMethod args0 :: below }]
def below0 : List Frame := [.native { method := ⟨0, 0⟩, args := #[] }]
def about1 : State := aboutOver below0
def p0 : Program := .bare "" "" ""
def e0 : Env := launch0.env 0 0 0
theorem w_frames : about1.frames = Frame.invoking theMethod args0 :: below0 := rfl
set_option maxRecDepth 65536 in
theorem w_args : argsFit about1.vm theMethod args0 = true := by decide +kernel
set_option maxRecDepth 65536 in
theorem w_heap : heapFits about1 = true := by decide +kernel
set_option maxRecDepth 65536 in
theorem w_runnable : about1.curStatus? = some .runnable := by decide +kernel
set_option maxRecDepth 65536 in
theorem w_alone : about1.alone = true := by decide +kernel
set_option maxRecDepth 65536 in
theorem w_named : about1.methodNamed? x = some theMethod := by decide +kernel
set_option maxRecDepth 65536 in
theorem w_hears : about1.hears theMethod below0 = true := by decide +kernel
set_option maxRecDepth 65536 in
theorem w_ripe : about1.ripe theMethod args0 below0 = true := by decide +kernel
theorem w_running : about1.status = .running := rfl
set_option maxRecDepth 65536 in
theorem w_room : about1.hasRoom e0.platform room_1 = true :=
  launch0.hasRoom_least _ room_1 (by decide +kernel) (by decide +kernel) (by decide +kernel) (by decide +kernel) (by decide +kernel) (by decide +kernel)
theorem allAtoms_all (ts : List Jvm.Cond) (a : Array Jvm.Value) (st : Jvm.State) : (allAtoms ts).before a st = ts.all (fun c => c.before a st) := by
  induction ts with
  | nil => rfl
  | cons c t ih =>
    show (Jvm.Cond.and c (allAtoms t)).before a st = _
    rw [Jvm.Cond.before_and, ih, List.all_cons]
def words1 : List Jvm.Cond := Jvm.Cond.code x code maxLocals ret :: tables_1
/-- a 'code' word, met by the world's own term for the bytes: nothing is compared byte by byte -/
theorem code_word {y : MethodName} {bytes : ByteArray} {mx : Nat} {rt : Option FieldType} {a : Array Value} {s : State} {m : MethodId} {meth : Method} {c : Code} (h1 : s.methodNamed? y = some m) (h2 : s.vm.method? m = some meth) (h3 : meth.code = some c) (h4 : c.code = bytes)
    (h5 : (c.maxLocals == mx && c.exceptionTable.isEmpty && decide (c.maxStack ≤ mostOperands) && decide (meth.sig.returnType = rt) && !meth.locks && decide (parseMethodDescriptor y.desc = some meth.sig)) = true) : (Jvm.Cond.code y bytes mx rt).before a s = true := by
  simp only [Bool.and_eq_true, beq_iff_eq, Bool.not_eq_true', decide_eq_true_eq] at h5
  obtain ⟨⟨⟨⟨⟨g1, g2⟩, g3⟩, g4⟩, g5⟩, g6⟩ := h5
  simp [Cond.before, Cond.holds, Cond.value, h1, h2, h3, h4, g1, g2, g3, g4, g5, g6]
def isCode : Jvm.Cond → Bool
  | .code _ _ _ _ => true
  | _ => false
theorem all_split {L : List Jvm.Cond} {P : Jvm.Cond → Bool} (h1 : L.all (fun c => isCode c || P c) = true) (h2 : ∀ c ∈ L.filter isCode, P c = true) : L.all P = true := by
  refine List.all_eq_true.mpr fun c hc => ?_
  have h := List.all_eq_true.mp h1 c hc
  rcases Bool.eq_false_or_eq_true (isCode c) with hi | hi
  · exact h2 c (List.mem_filter.mpr ⟨hc, hi⟩)
  · simpa [hi] using h
set_option maxRecDepth 65536 in
theorem w_c0 : (Jvm.Cond.code x code maxLocals ret).before args0 about1 = true := code_word (m := ⟨1, 3⟩) (meth := k1m3) (c := k1c3) (by decide +kernel) rfl rfl rfl (by decide +kernel)
set_option maxRecDepth 65536 in
theorem w_c1 : (Jvm.Cond.code ({ cls := "com/example/rivanna/rivanna/core/json/EightBytesEqualToPinLaw", name := "m", desc := "(II)J" } : Jvm.MethodName) method_2_code (2 : Nat) (Option.some Jvm.ClassFile.FieldType.long)).before args0 about1 = true := code_word (m := ⟨1, 1⟩) (meth := k1m1) (c := k1c1) (by decide +kernel) rfl rfl rfl (by decide +kernel)
set_option maxRecDepth 65536 in
theorem w_c2 : (Jvm.Cond.code ({ cls := "com/example/rivanna/rivanna/core/json/EightBytes", name := "equalTo", desc := "(JI)J" } : Jvm.MethodName) prog_21_method_4_code (5 : Nat) (Option.some Jvm.ClassFile.FieldType.long)).before args0 about1 = true := code_word (m := ⟨2, 1⟩) (meth := k2m1) (c := k2c1) (by decide +kernel) rfl rfl rfl (by decide +kernel)
set_option maxRecDepth 65536 in
theorem w_c3 : (Jvm.Cond.code ({ cls := "com/example/rivanna/rivanna/core/json/EightBytesEqualToPinLaw", name := "eq", desc := "(JII)Z" } : Jvm.MethodName) method_3_code (4 : Nat) (Option.some Jvm.ClassFile.FieldType.boolean)).before args0 about1 = true := code_word (m := ⟨1, 2⟩) (meth := k1m2) (c := k1c2) (by decide +kernel) rfl rfl rfl (by decide +kernel)
def codes1 : List Jvm.Cond := [Jvm.Cond.code x code maxLocals ret, Jvm.Cond.code ({ cls := "com/example/rivanna/rivanna/core/json/EightBytesEqualToPinLaw", name := "m", desc := "(II)J" } : Jvm.MethodName) method_2_code (2 : Nat) (Option.some Jvm.ClassFile.FieldType.long), Jvm.Cond.code ({ cls := "com/example/rivanna/rivanna/core/json/EightBytes", name := "equalTo", desc := "(JI)J" } : Jvm.MethodName) prog_21_method_4_code (5 : Nat) (Option.some Jvm.ClassFile.FieldType.long), Jvm.Cond.code ({ cls := "com/example/rivanna/rivanna/core/json/EightBytesEqualToPinLaw", name := "eq", desc := "(JII)Z" } : Jvm.MethodName) method_3_code (4 : Nat) (Option.some Jvm.ClassFile.FieldType.boolean)]
set_option maxRecDepth 65536 in
theorem codes_eq : words1.filter isCode = codes1 := rfl
theorem w_codes : ∀ c ∈ words1.filter isCode, c.before args0 about1 = true := by
  rw [codes_eq]
  intro c hc
  simp only [codes1, List.mem_cons, List.not_mem_nil, or_false] at hc
  rcases hc with rfl | rfl | rfl | rfl
  · exact w_c0
  · exact w_c1
  · exact w_c2
  · exact w_c3
set_option maxRecDepth 65536 in
theorem w_t1 : (words1.take 24).all (fun c => isCode c || c.before args0 about1) = true := by decide +kernel
set_option maxRecDepth 65536 in
theorem w_t2 : (words1.drop 24).all (fun c => isCode c || c.before args0 about1) = true := by decide +kernel
theorem w_tables : (allAtoms (Jvm.Cond.code x code maxLocals ret :: tables_1)).before args0 about1 = true := by
  rw [allAtoms_all]
  show words1.all (fun c => c.before args0 about1) = true
  refine all_split ?_ w_codes
  rw [← List.take_append_drop 24 words1, List.all_append, w_t1, w_t2]
  rfl
set_option maxRecDepth 65536 in
theorem w_case : (Jvm.Cond.and given_1 narrow_1).before args0 about1 = true := by decide +kernel
theorem w_applies : (headSpec (Jvm.Cond.code x code maxLocals ret :: tables_1) room_1).applies x e0.platform about1 = true :=
  (Spec.applies_iff w_frames).mpr ⟨w_running, w_runnable, w_alone, w_named, w_hears, w_ripe, w_room, w_tables⟩
theorem atStart : AtStart classFile x code maxLocals ret World_1 tables_1 room_1 Calls_1 rest_1 Pre_1 launch0 p0 e0 about1 theMethod args0 below0 :=
  ⟨lists_1, trivial, launch0.admits_env _ _ _, launch0.least_env, fairChoices_fair.cas, fairChoices_fair.clock, w_frames, w_args, w_heap, w_applies, trivial, trivial, w_case⟩
end start1
theorem witness_1 : WitnessClaimed_1 := ⟨start1.p0, start1.e0, start1.about1, start1.theMethod, start1.args0, start1.below0, start1.atStart⟩
end Jvm.Pilot.@@N@@
