import JvmDerived
import JvmDerived.Pilot.@@N@@Statement
import JvmDerived.Pilot.@@N@@Code
set_option linter.unusedVariables false
set_option linter.unusedSimpArgs false
@@BLOCK:NumsL.lean.txt@@
namespace Jvm.Pilot.@@N@@
open Jvm Jvm.ClassFile Sem Op Lib Jvm.Free Jvm.Stand Jvm.LawKit Jvm.RoadKit Bundle Jvm.Pilot.@@N@@.Jvm.D
def own_f1 (u0 : Int32) : Int32 := if u0 = (9 : Int32) then (1 : Int32) else (if u0 = (10 : Int32) then (1 : Int32) else (if u0 = (13 : Int32) then (1 : Int32) else (if ¬ (u0 < (32 : Int32)) ∧ ¬ ((55295 : Int32) < u0) then (1 : Int32) else (if ¬ (u0 < (57344 : Int32)) ∧ ¬ ((65533 : Int32) < u0) then (1 : Int32) else (if u0 < (65536 : Int32) then (0 : Int32) else (if (1114111 : Int32) < u0 then (0 : Int32) else (1 : Int32)))))))
theorem d1_0 : decode prog_209_method_2_code 0 = .ok (.iload_n 0, 1) := by decide +kernel
theorem d1_1 : decode prog_209_method_2_code 1 = .ok (.bipush 9, 2) := by decide +kernel
theorem d1_3 : decode prog_209_method_2_code 3 = .ok (.if_icmp .eq 51, 3) := by decide +kernel
theorem d1_54 : decode prog_209_method_2_code 54 = .ok (.iconst 1, 1) := by decide +kernel
theorem d1_55 : decode prog_209_method_2_code 55 = .ok (.goto 4, 3) := by decide +kernel
theorem d1_59 : decode prog_209_method_2_code 59 = .ok (.ireturn, 1) := by decide +kernel
theorem d1_6 : decode prog_209_method_2_code 6 = .ok (.iload_n 0, 1) := by decide +kernel
theorem d1_7 : decode prog_209_method_2_code 7 = .ok (.bipush 10, 2) := by decide +kernel
theorem d1_9 : decode prog_209_method_2_code 9 = .ok (.if_icmp .eq 45, 3) := by decide +kernel
theorem d1_12 : decode prog_209_method_2_code 12 = .ok (.iload_n 0, 1) := by decide +kernel
theorem d1_13 : decode prog_209_method_2_code 13 = .ok (.bipush 13, 2) := by decide +kernel
theorem d1_15 : decode prog_209_method_2_code 15 = .ok (.if_icmp .eq 39, 3) := by decide +kernel
theorem d1_18 : decode prog_209_method_2_code 18 = .ok (.iload_n 0, 1) := by decide +kernel
theorem d1_19 : decode prog_209_method_2_code 19 = .ok (.bipush 32, 2) := by decide +kernel
theorem d1_21 : decode prog_209_method_2_code 21 = .ok (.if_icmp .lt 9, 3) := by decide +kernel
theorem d1_24 : decode prog_209_method_2_code 24 = .ok (.iload_n 0, 1) := by decide +kernel
theorem d1_25 : decode prog_209_method_2_code 25 = .ok (.ldc 7, 2) := by decide +kernel
theorem d1_27 : decode prog_209_method_2_code 27 = .ok (.if_icmp .le 27, 3) := by decide +kernel
theorem d1_30 : decode prog_209_method_2_code 30 = .ok (.iload_n 0, 1) := by decide +kernel
theorem d1_31 : decode prog_209_method_2_code 31 = .ok (.ldc 8, 2) := by decide +kernel
theorem d1_33 : decode prog_209_method_2_code 33 = .ok (.if_icmp .lt 9, 3) := by decide +kernel
theorem d1_36 : decode prog_209_method_2_code 36 = .ok (.iload_n 0, 1) := by decide +kernel
theorem d1_37 : decode prog_209_method_2_code 37 = .ok (.ldc 9, 2) := by decide +kernel
theorem d1_39 : decode prog_209_method_2_code 39 = .ok (.if_icmp .le 15, 3) := by decide +kernel
theorem d1_42 : decode prog_209_method_2_code 42 = .ok (.iload_n 0, 1) := by decide +kernel
theorem d1_43 : decode prog_209_method_2_code 43 = .ok (.ldc 10, 2) := by decide +kernel
theorem d1_45 : decode prog_209_method_2_code 45 = .ok (.if_icmp .lt 13, 3) := by decide +kernel
theorem d1_58 : decode prog_209_method_2_code 58 = .ok (.iconst 0, 1) := by decide +kernel
theorem d1_48 : decode prog_209_method_2_code 48 = .ok (.iload_n 0, 1) := by decide +kernel
theorem d1_49 : decode prog_209_method_2_code 49 = .ok (.ldc 11, 2) := by decide +kernel
theorem d1_51 : decode prog_209_method_2_code 51 = .ok (.if_icmp .gt 7, 3) := by decide +kernel
theorem pn_0 : plainName "com/example/agouti/agouti/xdm/XmlChars" = true := by first | (simp [plainName, overriddenIn]; done) | decide +kernel
def Q1 (Z : State) (u0 : Int32)  (h0 : Heap) (n0 : Nat) (v : Option Value) (h : Heap) (L : List Loc) : Prop := v = some (.int (own_f1 u0)) ∧ Fr n0 L ∧ h = h0
theorem ef_rm1 (m : MethodId) (u0 : Int32) : entryFrame m #[(.int u0)] 1 = mkF m 0 #[iv u0] [] := by first | (simp [entryFrame, mkF, argsToLocals, Value.category]; done) | rfl
set_option maxRecDepth 65536 in
set_option maxHeartbeats 40000000 in
theorem rm1 (l : Launch) (Z : State) (a0 : Array Value) (hw : ∀ d ∈ tables_1, d.before a0 Z = true) (ws : List Jvm.Cond) (u0 : Int32)  (h0 : Heap) (n0 : Nat) (Z0 : n0 ≤ h0.size) :
    MetFree l (⟨"com/example/agouti/agouti/xdm/XmlChars", "isXmlChar", "(I)Z"⟩ : MethodName) (head1 (Jvm.Cond.code (⟨"com/example/agouti/agouti/xdm/XmlChars", "isXmlChar", "(I)Z"⟩ : MethodName) prog_209_method_2_code 1 (some .boolean) :: ws) ({ frames := 0, cells := 0, slots := 0, locals := 0 } : Room)) (fun a U => a = #[(.int u0)] ∧ Z.Warmed39 U.vm ∧ U.heap = h0) (fun _ _ _ _ _ => True) (fun _ U o U' => ∃ v L, o = .returned v ∧ Q1 Z u0 h0 n0 v U'.heap L ∧ FrameEnd U o U' L ({ frames := 0, cells := 0, slots := 0, locals := 0 } : Room).cells ({ frames := 0, cells := 0, slots := 0, locals := 0 } : Room).slots) := by
  refine MetFree.of_bodySF (plainFor_of_name pn_0) hisR ?_
  intro p e s m args below meth c s₁ Bd hml0 hP hK
  obtain ⟨rfl, hZ, hh⟩ := hP
  have hx := Bd.exec
  have hby := Bd.bytes
  have hml : c.maxLocals = 1 := hml0
  have hown : s.vm.findClass "com/example/agouti/agouti/xdm/XmlChars" = some m.cls := findClass_of_methodNamed Bd.named
  have hnm := (name_of_methodNamed Bd.named Bd.method).1
  have X0 : Stand p l e ({ frames := 0, cells := 0, slots := 0, locals := 0 } : Room) s m #[(.int u0)] below meth c s₁ [] 0 0 := Stand.of_body Bd
  have e0 : s₁.heap = h0 := by rw [← hh, Bd.state]; rfl
  have N0 := Fr.nil n0
  have S0 : ∀ t, Steps p.tables e below (s₁.setTop (mkF m 0 #[iv u0] [])) t → Steps p.tables e below (s₁.setTop (entryFrame m #[(.int u0)] 1)) t := fun t k => castTop (ef_rm1 m u0) k
  have S1 : ∀ t, Steps p.tables e below (s₁.setTop (mkF m 3 #[iv u0] [(.int (9 : Int32)), (.int u0)])) t → Steps p.tables e below (s₁.setTop (entryFrame m #[(.int u0)] 1)) t := by
    intro t k
    refine S0 t ?_
    show Steps p.tables e below (s₁.setTop (mkF m 0 #[iv u0] [])) _
    refine XS.iloadN X0.here hx rfl (hb hby d1_0) rfl ?_
    show Steps p.tables e below (s₁.setTop (mkF m 1 #[iv u0] [(.int u0)])) _
    refine XS.bipush X0.here hx rfl (hb hby d1_1) ?_
    exact k
  by_cases hc2 : u0 = (9 : Int32)
  · skip
    obtain ⟨fs, hr, hrun, hended, hW, hsame⟩ := X0.leave (v := some (.int (1 : Int32))) (fun h => by rw [Bd.returns] at h; cases h)
    refine ⟨_, _, S1 _ ?_, hrun, hended, _, _, rfl, ?_, ⟨_, rfl⟩, hW, hsame.mono (by decide) (by decide)⟩
    · skip
      show Steps p.tables e below (s₁.setTop (mkF m 3 #[iv u0] [(.int (9 : Int32)), (.int u0)])) _
      refine XS.icmpYes X0.here hx rfl (pc0 := 3) (pc' := 54) rfl (hb hby d1_3) rfl (teq hc2).1 (by decide) (by decide) ?_
      show Steps p.tables e below (s₁.setTop (mkF m 54 #[iv u0] [])) _
      refine XS.iconst X0.here hx rfl (hb hby d1_54) ?_
      show Steps p.tables e below (s₁.setTop (mkF m 55 #[iv u0] [(.int (1 : Int32))])) _
      refine XS.goto X0.here hx rfl (pc0 := 55) (pc' := 59) rfl (hb hby d1_55) (by decide) (by decide) ?_
      show Steps p.tables e below (s₁.setTop (mkF m 59 #[iv u0] [(.int (1 : Int32))])) _
      exact retN X0 hx (t := .boolean) Bd.returns (by simp) (hb hby d1_59) hr
    · show Q1 Z u0 h0 n0 _ s₁.heap _
      rw [e0]
      exact ⟨(by unfold own_f1; rw [if_pos hc2]), N0, rfl⟩
  · skip
    have S3 : ∀ t, Steps p.tables e below (s₁.setTop (mkF m 9 #[iv u0] [(.int (10 : Int32)), (.int u0)])) t → Steps p.tables e below (s₁.setTop (entryFrame m #[(.int u0)] 1)) t := by
      intro t k
      refine S1 t ?_
      show Steps p.tables e below (s₁.setTop (mkF m 3 #[iv u0] [(.int (9 : Int32)), (.int u0)])) _
      refine XS.icmpNo X0.here hx rfl (hb hby d1_3) rfl (feq hc2).1 ?_
      show Steps p.tables e below (s₁.setTop (mkF m 6 #[iv u0] [])) _
      refine XS.iloadN X0.here hx rfl (hb hby d1_6) rfl ?_
      show Steps p.tables e below (s₁.setTop (mkF m 7 #[iv u0] [(.int u0)])) _
      refine XS.bipush X0.here hx rfl (hb hby d1_7) ?_
      exact k
    by_cases hc4 : u0 = (10 : Int32)
    · skip
      obtain ⟨fs, hr, hrun, hended, hW, hsame⟩ := X0.leave (v := some (.int (1 : Int32))) (fun h => by rw [Bd.returns] at h; cases h)
      refine ⟨_, _, S3 _ ?_, hrun, hended, _, _, rfl, ?_, ⟨_, rfl⟩, hW, hsame.mono (by decide) (by decide)⟩
      · skip
        show Steps p.tables e below (s₁.setTop (mkF m 9 #[iv u0] [(.int (10 : Int32)), (.int u0)])) _
        refine XS.icmpYes X0.here hx rfl (pc0 := 9) (pc' := 54) rfl (hb hby d1_9) rfl (teq hc4).1 (by decide) (by decide) ?_
        show Steps p.tables e below (s₁.setTop (mkF m 54 #[iv u0] [])) _
        refine XS.iconst X0.here hx rfl (hb hby d1_54) ?_
        show Steps p.tables e below (s₁.setTop (mkF m 55 #[iv u0] [(.int (1 : Int32))])) _
        refine XS.goto X0.here hx rfl (pc0 := 55) (pc' := 59) rfl (hb hby d1_55) (by decide) (by decide) ?_
        show Steps p.tables e below (s₁.setTop (mkF m 59 #[iv u0] [(.int (1 : Int32))])) _
        exact retN X0 hx (t := .boolean) Bd.returns (by simp) (hb hby d1_59) hr
      · show Q1 Z u0 h0 n0 _ s₁.heap _
        rw [e0]
        exact ⟨(by unfold own_f1; rw [if_neg hc2, if_pos hc4]), N0, rfl⟩
    · skip
      have S5 : ∀ t, Steps p.tables e below (s₁.setTop (mkF m 15 #[iv u0] [(.int (13 : Int32)), (.int u0)])) t → Steps p.tables e below (s₁.setTop (entryFrame m #[(.int u0)] 1)) t := by
        intro t k
        refine S3 t ?_
        show Steps p.tables e below (s₁.setTop (mkF m 9 #[iv u0] [(.int (10 : Int32)), (.int u0)])) _
        refine XS.icmpNo X0.here hx rfl (hb hby d1_9) rfl (feq hc4).1 ?_
        show Steps p.tables e below (s₁.setTop (mkF m 12 #[iv u0] [])) _
        refine XS.iloadN X0.here hx rfl (hb hby d1_12) rfl ?_
        show Steps p.tables e below (s₁.setTop (mkF m 13 #[iv u0] [(.int u0)])) _
        refine XS.bipush X0.here hx rfl (hb hby d1_13) ?_
        exact k
      by_cases hc6 : u0 = (13 : Int32)
      · skip
        obtain ⟨fs, hr, hrun, hended, hW, hsame⟩ := X0.leave (v := some (.int (1 : Int32))) (fun h => by rw [Bd.returns] at h; cases h)
        refine ⟨_, _, S5 _ ?_, hrun, hended, _, _, rfl, ?_, ⟨_, rfl⟩, hW, hsame.mono (by decide) (by decide)⟩
        · skip
          show Steps p.tables e below (s₁.setTop (mkF m 15 #[iv u0] [(.int (13 : Int32)), (.int u0)])) _
          refine XS.icmpYes X0.here hx rfl (pc0 := 15) (pc' := 54) rfl (hb hby d1_15) rfl (teq hc6).1 (by decide) (by decide) ?_
          show Steps p.tables e below (s₁.setTop (mkF m 54 #[iv u0] [])) _
          refine XS.iconst X0.here hx rfl (hb hby d1_54) ?_
          show Steps p.tables e below (s₁.setTop (mkF m 55 #[iv u0] [(.int (1 : Int32))])) _
          refine XS.goto X0.here hx rfl (pc0 := 55) (pc' := 59) rfl (hb hby d1_55) (by decide) (by decide) ?_
          show Steps p.tables e below (s₁.setTop (mkF m 59 #[iv u0] [(.int (1 : Int32))])) _
          exact retN X0 hx (t := .boolean) Bd.returns (by simp) (hb hby d1_59) hr
        · show Q1 Z u0 h0 n0 _ s₁.heap _
          rw [e0]
          exact ⟨(by unfold own_f1; rw [if_neg hc2, if_neg hc4, if_pos hc6]), N0, rfl⟩
      · skip
        have S7 : ∀ t, Steps p.tables e below (s₁.setTop (mkF m 21 #[iv u0] [(.int (32 : Int32)), (.int u0)])) t → Steps p.tables e below (s₁.setTop (entryFrame m #[(.int u0)] 1)) t := by
          intro t k
          refine S5 t ?_
          show Steps p.tables e below (s₁.setTop (mkF m 15 #[iv u0] [(.int (13 : Int32)), (.int u0)])) _
          refine XS.icmpNo X0.here hx rfl (hb hby d1_15) rfl (feq hc6).1 ?_
          show Steps p.tables e below (s₁.setTop (mkF m 18 #[iv u0] [])) _
          refine XS.iloadN X0.here hx rfl (hb hby d1_18) rfl ?_
          show Steps p.tables e below (s₁.setTop (mkF m 19 #[iv u0] [(.int u0)])) _
          refine XS.bipush X0.here hx rfl (hb hby d1_19) ?_
          exact k
        by_cases hc10 : ¬ (u0 < (32 : Int32)) ∧ ¬ ((55295 : Int32) < u0)
        · skip
          have S11 : ∀ t, Steps p.tables e below (s₁.setTop (mkF m 54 #[iv u0] [])) t → Steps p.tables e below (s₁.setTop (entryFrame m #[(.int u0)] 1)) t := by
            intro t k
            refine S7 t ?_
            by_cases hd8 : u0 < (32 : Int32)
            · skip
              exact absurd hc10 (fun z => z.1 hd8)
            · skip
              by_cases hd9 : (55295 : Int32) < u0
              · skip
                exact absurd hc10 (fun z => (fun z => z hd9) z.2)
              · skip
                show Steps p.tables e below (s₁.setTop (mkF m 21 #[iv u0] [(.int (32 : Int32)), (.int u0)])) _
                refine XS.icmpNo X0.here hx rfl (hb hby d1_21) rfl (flt hd8).1 ?_
                show Steps p.tables e below (s₁.setTop (mkF m 24 #[iv u0] [])) _
                refine XS.iloadN X0.here hx rfl (hb hby d1_24) rfl ?_
                show Steps p.tables e below (s₁.setTop (mkF m 25 #[iv u0] [(.int u0)])) _
                refine X0.ldcInt hx hown (mvT hZ (hw _ (List.mem_of_getElem? (i := 23) rfl))) (g := (mkF m 25 #[iv u0] [(.int u0)])) rfl (hb hby d1_25) _ ?_
                show Steps p.tables e below (s₁.setTop (mkF m 27 #[iv u0] [(.int (55295 : Int32)), (.int u0)])) _
                refine XS.icmpYes X0.here hx rfl (pc0 := 27) (pc' := 54) rfl (hb hby d1_27) rfl (flt hd9).2.2.2 (by decide) (by decide) ?_
                exact k
          obtain ⟨fs, hr, hrun, hended, hW, hsame⟩ := X0.leave (v := some (.int (1 : Int32))) (fun h => by rw [Bd.returns] at h; cases h)
          refine ⟨_, _, S11 _ ?_, hrun, hended, _, _, rfl, ?_, ⟨_, rfl⟩, hW, hsame.mono (by decide) (by decide)⟩
          · skip
            show Steps p.tables e below (s₁.setTop (mkF m 54 #[iv u0] [])) _
            refine XS.iconst X0.here hx rfl (hb hby d1_54) ?_
            show Steps p.tables e below (s₁.setTop (mkF m 55 #[iv u0] [(.int (1 : Int32))])) _
            refine XS.goto X0.here hx rfl (pc0 := 55) (pc' := 59) rfl (hb hby d1_55) (by decide) (by decide) ?_
            show Steps p.tables e below (s₁.setTop (mkF m 59 #[iv u0] [(.int (1 : Int32))])) _
            exact retN X0 hx (t := .boolean) Bd.returns (by simp) (hb hby d1_59) hr
          · show Q1 Z u0 h0 n0 _ s₁.heap _
            rw [e0]
            exact ⟨(by unfold own_f1; rw [if_neg hc2, if_neg hc4, if_neg hc6, if_pos hc10]), N0, rfl⟩
        · skip
          have S12 : ∀ t, Steps p.tables e below (s₁.setTop (mkF m 30 #[iv u0] [])) t → Steps p.tables e below (s₁.setTop (entryFrame m #[(.int u0)] 1)) t := by
            intro t k
            refine S7 t ?_
            by_cases hd8 : u0 < (32 : Int32)
            · skip
              show Steps p.tables e below (s₁.setTop (mkF m 21 #[iv u0] [(.int (32 : Int32)), (.int u0)])) _
              refine XS.icmpYes X0.here hx rfl (pc0 := 21) (pc' := 30) rfl (hb hby d1_21) rfl (tlt hd8).1 (by decide) (by decide) ?_
              exact k
            · skip
              by_cases hd9 : (55295 : Int32) < u0
              · skip
                show Steps p.tables e below (s₁.setTop (mkF m 21 #[iv u0] [(.int (32 : Int32)), (.int u0)])) _
                refine XS.icmpNo X0.here hx rfl (hb hby d1_21) rfl (flt hd8).1 ?_
                show Steps p.tables e below (s₁.setTop (mkF m 24 #[iv u0] [])) _
                refine XS.iloadN X0.here hx rfl (hb hby d1_24) rfl ?_
                show Steps p.tables e below (s₁.setTop (mkF m 25 #[iv u0] [(.int u0)])) _
                refine X0.ldcInt hx hown (mvT hZ (hw _ (List.mem_of_getElem? (i := 23) rfl))) (g := (mkF m 25 #[iv u0] [(.int u0)])) rfl (hb hby d1_25) _ ?_
                show Steps p.tables e below (s₁.setTop (mkF m 27 #[iv u0] [(.int (55295 : Int32)), (.int u0)])) _
                refine XS.icmpNo X0.here hx rfl (hb hby d1_27) rfl (tlt hd9).2.2.2 ?_
                exact k
              · skip
                exact absurd ⟨hd8, hd9⟩ hc10
          have S13 : ∀ t, Steps p.tables e below (s₁.setTop (mkF m 33 #[iv u0] [(.int (57344 : Int32)), (.int u0)])) t → Steps p.tables e below (s₁.setTop (entryFrame m #[(.int u0)] 1)) t := by
            intro t k
            refine S12 t ?_
            show Steps p.tables e below (s₁.setTop (mkF m 30 #[iv u0] [])) _
            refine XS.iloadN X0.here hx rfl (hb hby d1_30) rfl ?_
            show Steps p.tables e below (s₁.setTop (mkF m 31 #[iv u0] [(.int u0)])) _
            refine X0.ldcInt hx hown (mvT hZ (hw _ (List.mem_of_getElem? (i := 17) rfl))) (g := (mkF m 31 #[iv u0] [(.int u0)])) rfl (hb hby d1_31) _ ?_
            exact k
          by_cases hc16 : ¬ (u0 < (57344 : Int32)) ∧ ¬ ((65533 : Int32) < u0)
          · skip
            have S17 : ∀ t, Steps p.tables e below (s₁.setTop (mkF m 54 #[iv u0] [])) t → Steps p.tables e below (s₁.setTop (entryFrame m #[(.int u0)] 1)) t := by
              intro t k
              refine S13 t ?_
              by_cases hd14 : u0 < (57344 : Int32)
              · skip
                exact absurd hc16 (fun z => z.1 hd14)
              · skip
                by_cases hd15 : (65533 : Int32) < u0
                · skip
                  exact absurd hc16 (fun z => (fun z => z hd15) z.2)
                · skip
                  show Steps p.tables e below (s₁.setTop (mkF m 33 #[iv u0] [(.int (57344 : Int32)), (.int u0)])) _
                  refine XS.icmpNo X0.here hx rfl (hb hby d1_33) rfl (flt hd14).1 ?_
                  show Steps p.tables e below (s₁.setTop (mkF m 36 #[iv u0] [])) _
                  refine XS.iloadN X0.here hx rfl (hb hby d1_36) rfl ?_
                  show Steps p.tables e below (s₁.setTop (mkF m 37 #[iv u0] [(.int u0)])) _
                  refine X0.ldcInt hx hown (mvT hZ (hw _ (List.mem_of_getElem? (i := 24) rfl))) (g := (mkF m 37 #[iv u0] [(.int u0)])) rfl (hb hby d1_37) _ ?_
                  show Steps p.tables e below (s₁.setTop (mkF m 39 #[iv u0] [(.int (65533 : Int32)), (.int u0)])) _
                  refine XS.icmpYes X0.here hx rfl (pc0 := 39) (pc' := 54) rfl (hb hby d1_39) rfl (flt hd15).2.2.2 (by decide) (by decide) ?_
                  exact k
            obtain ⟨fs, hr, hrun, hended, hW, hsame⟩ := X0.leave (v := some (.int (1 : Int32))) (fun h => by rw [Bd.returns] at h; cases h)
            refine ⟨_, _, S17 _ ?_, hrun, hended, _, _, rfl, ?_, ⟨_, rfl⟩, hW, hsame.mono (by decide) (by decide)⟩
            · skip
              show Steps p.tables e below (s₁.setTop (mkF m 54 #[iv u0] [])) _
              refine XS.iconst X0.here hx rfl (hb hby d1_54) ?_
              show Steps p.tables e below (s₁.setTop (mkF m 55 #[iv u0] [(.int (1 : Int32))])) _
              refine XS.goto X0.here hx rfl (pc0 := 55) (pc' := 59) rfl (hb hby d1_55) (by decide) (by decide) ?_
              show Steps p.tables e below (s₁.setTop (mkF m 59 #[iv u0] [(.int (1 : Int32))])) _
              exact retN X0 hx (t := .boolean) Bd.returns (by simp) (hb hby d1_59) hr
            · show Q1 Z u0 h0 n0 _ s₁.heap _
              rw [e0]
              exact ⟨(by unfold own_f1; rw [if_neg hc2, if_neg hc4, if_neg hc6, if_neg hc10, if_pos hc16]), N0, rfl⟩
          · skip
            have S18 : ∀ t, Steps p.tables e below (s₁.setTop (mkF m 42 #[iv u0] [])) t → Steps p.tables e below (s₁.setTop (entryFrame m #[(.int u0)] 1)) t := by
              intro t k
              refine S13 t ?_
              by_cases hd14 : u0 < (57344 : Int32)
              · skip
                show Steps p.tables e below (s₁.setTop (mkF m 33 #[iv u0] [(.int (57344 : Int32)), (.int u0)])) _
                refine XS.icmpYes X0.here hx rfl (pc0 := 33) (pc' := 42) rfl (hb hby d1_33) rfl (tlt hd14).1 (by decide) (by decide) ?_
                exact k
              · skip
                by_cases hd15 : (65533 : Int32) < u0
                · skip
                  show Steps p.tables e below (s₁.setTop (mkF m 33 #[iv u0] [(.int (57344 : Int32)), (.int u0)])) _
                  refine XS.icmpNo X0.here hx rfl (hb hby d1_33) rfl (flt hd14).1 ?_
                  show Steps p.tables e below (s₁.setTop (mkF m 36 #[iv u0] [])) _
                  refine XS.iloadN X0.here hx rfl (hb hby d1_36) rfl ?_
                  show Steps p.tables e below (s₁.setTop (mkF m 37 #[iv u0] [(.int u0)])) _
                  refine X0.ldcInt hx hown (mvT hZ (hw _ (List.mem_of_getElem? (i := 24) rfl))) (g := (mkF m 37 #[iv u0] [(.int u0)])) rfl (hb hby d1_37) _ ?_
                  show Steps p.tables e below (s₁.setTop (mkF m 39 #[iv u0] [(.int (65533 : Int32)), (.int u0)])) _
                  refine XS.icmpNo X0.here hx rfl (hb hby d1_39) rfl (tlt hd15).2.2.2 ?_
                  exact k
                · skip
                  exact absurd ⟨hd14, hd15⟩ hc16
            have S19 : ∀ t, Steps p.tables e below (s₁.setTop (mkF m 45 #[iv u0] [(.int (65536 : Int32)), (.int u0)])) t → Steps p.tables e below (s₁.setTop (entryFrame m #[(.int u0)] 1)) t := by
              intro t k
              refine S18 t ?_
              show Steps p.tables e below (s₁.setTop (mkF m 42 #[iv u0] [])) _
              refine XS.iloadN X0.here hx rfl (hb hby d1_42) rfl ?_
              show Steps p.tables e below (s₁.setTop (mkF m 43 #[iv u0] [(.int u0)])) _
              refine X0.ldcInt hx hown (mvT hZ (hw _ (List.mem_of_getElem? (i := 18) rfl))) (g := (mkF m 43 #[iv u0] [(.int u0)])) rfl (hb hby d1_43) _ ?_
              exact k
            by_cases hc20 : u0 < (65536 : Int32)
            · skip
              obtain ⟨fs, hr, hrun, hended, hW, hsame⟩ := X0.leave (v := some (.int (0 : Int32))) (fun h => by rw [Bd.returns] at h; cases h)
              refine ⟨_, _, S19 _ ?_, hrun, hended, _, _, rfl, ?_, ⟨_, rfl⟩, hW, hsame.mono (by decide) (by decide)⟩
              · skip
                show Steps p.tables e below (s₁.setTop (mkF m 45 #[iv u0] [(.int (65536 : Int32)), (.int u0)])) _
                refine XS.icmpYes X0.here hx rfl (pc0 := 45) (pc' := 58) rfl (hb hby d1_45) rfl (tlt hc20).1 (by decide) (by decide) ?_
                show Steps p.tables e below (s₁.setTop (mkF m 58 #[iv u0] [])) _
                refine XS.iconst X0.here hx rfl (hb hby d1_58) ?_
                show Steps p.tables e below (s₁.setTop (mkF m 59 #[iv u0] [(.int (0 : Int32))])) _
                exact retN X0 hx (t := .boolean) Bd.returns (by simp) (hb hby d1_59) hr
              · show Q1 Z u0 h0 n0 _ s₁.heap _
                rw [e0]
                exact ⟨(by unfold own_f1; rw [if_neg hc2, if_neg hc4, if_neg hc6, if_neg hc10, if_neg hc16, if_pos hc20]), N0, rfl⟩
            · skip
              have S21 : ∀ t, Steps p.tables e below (s₁.setTop (mkF m 51 #[iv u0] [(.int (1114111 : Int32)), (.int u0)])) t → Steps p.tables e below (s₁.setTop (entryFrame m #[(.int u0)] 1)) t := by
                intro t k
                refine S19 t ?_
                show Steps p.tables e below (s₁.setTop (mkF m 45 #[iv u0] [(.int (65536 : Int32)), (.int u0)])) _
                refine XS.icmpNo X0.here hx rfl (hb hby d1_45) rfl (flt hc20).1 ?_
                show Steps p.tables e below (s₁.setTop (mkF m 48 #[iv u0] [])) _
                refine XS.iloadN X0.here hx rfl (hb hby d1_48) rfl ?_
                show Steps p.tables e below (s₁.setTop (mkF m 49 #[iv u0] [(.int u0)])) _
                refine X0.ldcInt hx hown (mvT hZ (hw _ (List.mem_of_getElem? (i := 25) rfl))) (g := (mkF m 49 #[iv u0] [(.int u0)])) rfl (hb hby d1_49) _ ?_
                exact k
              by_cases hc22 : (1114111 : Int32) < u0
              · skip
                obtain ⟨fs, hr, hrun, hended, hW, hsame⟩ := X0.leave (v := some (.int (0 : Int32))) (fun h => by rw [Bd.returns] at h; cases h)
                refine ⟨_, _, S21 _ ?_, hrun, hended, _, _, rfl, ?_, ⟨_, rfl⟩, hW, hsame.mono (by decide) (by decide)⟩
                · skip
                  show Steps p.tables e below (s₁.setTop (mkF m 51 #[iv u0] [(.int (1114111 : Int32)), (.int u0)])) _
                  refine XS.icmpYes X0.here hx rfl (pc0 := 51) (pc' := 58) rfl (hb hby d1_51) rfl (tlt hc22).2.2.1 (by decide) (by decide) ?_
                  show Steps p.tables e below (s₁.setTop (mkF m 58 #[iv u0] [])) _
                  refine XS.iconst X0.here hx rfl (hb hby d1_58) ?_
                  show Steps p.tables e below (s₁.setTop (mkF m 59 #[iv u0] [(.int (0 : Int32))])) _
                  exact retN X0 hx (t := .boolean) Bd.returns (by simp) (hb hby d1_59) hr
                · show Q1 Z u0 h0 n0 _ s₁.heap _
                  rw [e0]
                  exact ⟨(by unfold own_f1; rw [if_neg hc2, if_neg hc4, if_neg hc6, if_neg hc10, if_neg hc16, if_neg hc20, if_pos hc22]), N0, rfl⟩
              · skip
                obtain ⟨fs, hr, hrun, hended, hW, hsame⟩ := X0.leave (v := some (.int (1 : Int32))) (fun h => by rw [Bd.returns] at h; cases h)
                refine ⟨_, _, S21 _ ?_, hrun, hended, _, _, rfl, ?_, ⟨_, rfl⟩, hW, hsame.mono (by decide) (by decide)⟩
                · skip
                  show Steps p.tables e below (s₁.setTop (mkF m 51 #[iv u0] [(.int (1114111 : Int32)), (.int u0)])) _
                  refine XS.icmpNo X0.here hx rfl (hb hby d1_51) rfl (flt hc22).2.2.1 ?_
                  show Steps p.tables e below (s₁.setTop (mkF m 54 #[iv u0] [])) _
                  refine XS.iconst X0.here hx rfl (hb hby d1_54) ?_
                  show Steps p.tables e below (s₁.setTop (mkF m 55 #[iv u0] [(.int (1 : Int32))])) _
                  refine XS.goto X0.here hx rfl (pc0 := 55) (pc' := 59) rfl (hb hby d1_55) (by decide) (by decide) ?_
                  show Steps p.tables e below (s₁.setTop (mkF m 59 #[iv u0] [(.int (1 : Int32))])) _
                  exact retN X0 hx (t := .boolean) Bd.returns (by simp) (hb hby d1_59) hr
                · show Q1 Z u0 h0 n0 _ s₁.heap _
                  rw [e0]
                  exact ⟨(by unfold own_f1; rw [if_neg hc2, if_neg hc4, if_neg hc6, if_neg hc10, if_neg hc16, if_neg hc20, if_neg hc22]), N0, rfl⟩
def own_f2 (u0 : Int32) : Int32 := if u0 < (0 : Int32) then (0 : Int32) else (if (1114111 : Int32) < u0 then (0 : Int32) else (if u0 < (32 : Int32) then (if u0 = (9 : Int32) then (1 : Int32) else (if u0 = (10 : Int32) then (1 : Int32) else (if u0 = (13 : Int32) then (1 : Int32) else (0 : Int32)))) else (if u0 < (55296 : Int32) then (if u0 = (65534 : Int32) then (0 : Int32) else (if u0 = (65535 : Int32) then (0 : Int32) else (1 : Int32))) else (if (57343 : Int32) < u0 then (if u0 = (65534 : Int32) then (0 : Int32) else (if u0 = (65535 : Int32) then (0 : Int32) else (1 : Int32))) else (0 : Int32)))))
theorem d2_0 : decode method_2_code 0 = .ok (.iload_n 0, 1) := by decide +kernel
theorem d2_1 : decode method_2_code 1 = .ok (.ifCond .lt 9, 3) := by decide +kernel
theorem d2_10 : decode method_2_code 10 = .ok (.iconst 0, 1) := by decide +kernel
theorem d2_11 : decode method_2_code 11 = .ok (.ireturn, 1) := by decide +kernel
theorem d2_4 : decode method_2_code 4 = .ok (.iload_n 0, 1) := by decide +kernel
theorem d2_5 : decode method_2_code 5 = .ok (.ldc 7, 2) := by decide +kernel
theorem d2_7 : decode method_2_code 7 = .ok (.if_icmp .le 5, 3) := by decide +kernel
theorem d2_12 : decode method_2_code 12 = .ok (.iload_n 0, 1) := by decide +kernel
theorem d2_13 : decode method_2_code 13 = .ok (.bipush 32, 2) := by decide +kernel
theorem d2_15 : decode method_2_code 15 = .ok (.if_icmp .ge 27, 3) := by decide +kernel
theorem d2_18 : decode method_2_code 18 = .ok (.iload_n 0, 1) := by decide +kernel
theorem d2_19 : decode method_2_code 19 = .ok (.bipush 9, 2) := by decide +kernel
theorem d2_21 : decode method_2_code 21 = .ok (.if_icmp .eq 15, 3) := by decide +kernel
theorem d2_36 : decode method_2_code 36 = .ok (.iconst 1, 1) := by decide +kernel
theorem d2_37 : decode method_2_code 37 = .ok (.goto 4, 3) := by decide +kernel
theorem d2_41 : decode method_2_code 41 = .ok (.ireturn, 1) := by decide +kernel
theorem d2_24 : decode method_2_code 24 = .ok (.iload_n 0, 1) := by decide +kernel
theorem d2_25 : decode method_2_code 25 = .ok (.bipush 10, 2) := by decide +kernel
theorem d2_27 : decode method_2_code 27 = .ok (.if_icmp .eq 9, 3) := by decide +kernel
theorem d2_30 : decode method_2_code 30 = .ok (.iload_n 0, 1) := by decide +kernel
theorem d2_31 : decode method_2_code 31 = .ok (.bipush 13, 2) := by decide +kernel
theorem d2_33 : decode method_2_code 33 = .ok (.if_icmp .ne 7, 3) := by decide +kernel
theorem d2_40 : decode method_2_code 40 = .ok (.iconst 0, 1) := by decide +kernel
theorem d2_42 : decode method_2_code 42 = .ok (.iload_n 0, 1) := by decide +kernel
theorem d2_43 : decode method_2_code 43 = .ok (.ldc 8, 2) := by decide +kernel
theorem d2_45 : decode method_2_code 45 = .ok (.if_icmp .lt 11, 3) := by decide +kernel
theorem d2_56 : decode method_2_code 56 = .ok (.iload_n 0, 1) := by decide +kernel
theorem d2_57 : decode method_2_code 57 = .ok (.ldc 10, 2) := by decide +kernel
theorem d2_59 : decode method_2_code 59 = .ok (.if_icmp .eq 9, 3) := by decide +kernel
theorem d2_68 : decode method_2_code 68 = .ok (.iconst 0, 1) := by decide +kernel
theorem d2_69 : decode method_2_code 69 = .ok (.ireturn, 1) := by decide +kernel
theorem d2_62 : decode method_2_code 62 = .ok (.iload_n 0, 1) := by decide +kernel
theorem d2_63 : decode method_2_code 63 = .ok (.ldc 11, 2) := by decide +kernel
theorem d2_65 : decode method_2_code 65 = .ok (.if_icmp .ne 5, 3) := by decide +kernel
theorem d2_70 : decode method_2_code 70 = .ok (.iconst 1, 1) := by decide +kernel
theorem d2_71 : decode method_2_code 71 = .ok (.ireturn, 1) := by decide +kernel
theorem d2_48 : decode method_2_code 48 = .ok (.iload_n 0, 1) := by decide +kernel
theorem d2_49 : decode method_2_code 49 = .ok (.ldc 9, 2) := by decide +kernel
theorem d2_51 : decode method_2_code 51 = .ok (.if_icmp .gt 5, 3) := by decide +kernel
theorem d2_54 : decode method_2_code 54 = .ok (.iconst 0, 1) := by decide +kernel
theorem d2_55 : decode method_2_code 55 = .ok (.ireturn, 1) := by decide +kernel
theorem pn_1 : plainName "com/example/agouti/agouti/xdm/XmlCharsIsXmlCharPinLaw" = true := by first | (simp [plainName, overriddenIn]; done) | decide +kernel
def Q2 (Z : State) (u0 : Int32)  (h0 : Heap) (n0 : Nat) (v : Option Value) (h : Heap) (L : List Loc) : Prop := v = some (.int (own_f2 u0)) ∧ Fr n0 L ∧ h = h0
theorem ef_rm2 (m : MethodId) (u0 : Int32) : entryFrame m #[(.int u0)] 1 = mkF m 0 #[iv u0] [] := by first | (simp [entryFrame, mkF, argsToLocals, Value.category]; done) | rfl
set_option maxRecDepth 65536 in
set_option maxHeartbeats 40000000 in
theorem rm2 (l : Launch) (Z : State) (a0 : Array Value) (hw : ∀ d ∈ tables_1, d.before a0 Z = true) (ws : List Jvm.Cond) (u0 : Int32)  (h0 : Heap) (n0 : Nat) (Z0 : n0 ≤ h0.size) :
    MetFree l (⟨"com/example/agouti/agouti/xdm/XmlCharsIsXmlCharPinLaw", "ref", "(I)Z"⟩ : MethodName) (head1 (Jvm.Cond.code (⟨"com/example/agouti/agouti/xdm/XmlCharsIsXmlCharPinLaw", "ref", "(I)Z"⟩ : MethodName) method_2_code 1 (some .boolean) :: ws) ({ frames := 0, cells := 0, slots := 0, locals := 0 } : Room)) (fun a U => a = #[(.int u0)] ∧ Z.Warmed39 U.vm ∧ U.heap = h0) (fun _ _ _ _ _ => True) (fun _ U o U' => ∃ v L, o = .returned v ∧ Q2 Z u0 h0 n0 v U'.heap L ∧ FrameEnd U o U' L ({ frames := 0, cells := 0, slots := 0, locals := 0 } : Room).cells ({ frames := 0, cells := 0, slots := 0, locals := 0 } : Room).slots) := by
  refine MetFree.of_bodySF (plainFor_of_name pn_1) hisR ?_
  intro p e s m args below meth c s₁ Bd hml0 hP hK
  obtain ⟨rfl, hZ, hh⟩ := hP
  have hx := Bd.exec
  have hby := Bd.bytes
  have hml : c.maxLocals = 1 := hml0
  have hown : s.vm.findClass "com/example/agouti/agouti/xdm/XmlCharsIsXmlCharPinLaw" = some m.cls := findClass_of_methodNamed Bd.named
  have hnm := (name_of_methodNamed Bd.named Bd.method).1
  have X0 : Stand p l e ({ frames := 0, cells := 0, slots := 0, locals := 0 } : Room) s m #[(.int u0)] below meth c s₁ [] 0 0 := Stand.of_body Bd
  have e0 : s₁.heap = h0 := by rw [← hh, Bd.state]; rfl
  have N0 := Fr.nil n0
  have S0 : ∀ t, Steps p.tables e below (s₁.setTop (mkF m 0 #[iv u0] [])) t → Steps p.tables e below (s₁.setTop (entryFrame m #[(.int u0)] 1)) t := fun t k => castTop (ef_rm2 m u0) k
  have S1 : ∀ t, Steps p.tables e below (s₁.setTop (mkF m 1 #[iv u0] [(.int u0)])) t → Steps p.tables e below (s₁.setTop (entryFrame m #[(.int u0)] 1)) t := by
    intro t k
    refine S0 t ?_
    show Steps p.tables e below (s₁.setTop (mkF m 0 #[iv u0] [])) _
    refine XS.iloadN X0.here hx rfl (hb hby d2_0) rfl ?_
    exact k
  by_cases hc2 : u0 < (0 : Int32)
  · skip
    obtain ⟨fs, hr, hrun, hended, hW, hsame⟩ := X0.leave (v := some (.int (0 : Int32))) (fun h => by rw [Bd.returns] at h; cases h)
    refine ⟨_, _, S1 _ ?_, hrun, hended, _, _, rfl, ?_, ⟨_, rfl⟩, hW, hsame.mono (by decide) (by decide)⟩
    · skip
      show Steps p.tables e below (s₁.setTop (mkF m 1 #[iv u0] [(.int u0)])) _
      refine XS.ifYes X0.here hx rfl (pc0 := 1) (pc' := 10) rfl (hb hby d2_1) rfl ((if0 _ _).trans (tlt hc2).1) (by decide) (by decide) ?_
      show Steps p.tables e below (s₁.setTop (mkF m 10 #[iv u0] [])) _
      refine XS.iconst X0.here hx rfl (hb hby d2_10) ?_
      show Steps p.tables e below (s₁.setTop (mkF m 11 #[iv u0] [(.int (0 : Int32))])) _
      exact retN X0 hx (t := .boolean) Bd.returns (by simp) (hb hby d2_11) hr
    · show Q2 Z u0 h0 n0 _ s₁.heap _
      rw [e0]
      exact ⟨(by unfold own_f2; rw [if_pos hc2]), N0, rfl⟩
  · skip
    have S3 : ∀ t, Steps p.tables e below (s₁.setTop (mkF m 7 #[iv u0] [(.int (1114111 : Int32)), (.int u0)])) t → Steps p.tables e below (s₁.setTop (entryFrame m #[(.int u0)] 1)) t := by
      intro t k
      refine S1 t ?_
      show Steps p.tables e below (s₁.setTop (mkF m 1 #[iv u0] [(.int u0)])) _
      refine XS.ifNo X0.here hx rfl (hb hby d2_1) rfl ((if0 _ _).trans (flt hc2).1) ?_
      show Steps p.tables e below (s₁.setTop (mkF m 4 #[iv u0] [])) _
      refine XS.iloadN X0.here hx rfl (hb hby d2_4) rfl ?_
      show Steps p.tables e below (s₁.setTop (mkF m 5 #[iv u0] [(.int u0)])) _
      refine X0.ldcInt hx hown (mvT hZ (hw _ (List.mem_of_getElem? (i := 9) rfl))) (g := (mkF m 5 #[iv u0] [(.int u0)])) rfl (hb hby d2_5) _ ?_
      exact k
    by_cases hc4 : (1114111 : Int32) < u0
    · skip
      obtain ⟨fs, hr, hrun, hended, hW, hsame⟩ := X0.leave (v := some (.int (0 : Int32))) (fun h => by rw [Bd.returns] at h; cases h)
      refine ⟨_, _, S3 _ ?_, hrun, hended, _, _, rfl, ?_, ⟨_, rfl⟩, hW, hsame.mono (by decide) (by decide)⟩
      · skip
        show Steps p.tables e below (s₁.setTop (mkF m 7 #[iv u0] [(.int (1114111 : Int32)), (.int u0)])) _
        refine XS.icmpNo X0.here hx rfl (hb hby d2_7) rfl (tlt hc4).2.2.2 ?_
        show Steps p.tables e below (s₁.setTop (mkF m 10 #[iv u0] [])) _
        refine XS.iconst X0.here hx rfl (hb hby d2_10) ?_
        show Steps p.tables e below (s₁.setTop (mkF m 11 #[iv u0] [(.int (0 : Int32))])) _
        exact retN X0 hx (t := .boolean) Bd.returns (by simp) (hb hby d2_11) hr
      · show Q2 Z u0 h0 n0 _ s₁.heap _
        rw [e0]
        exact ⟨(by unfold own_f2; rw [if_neg hc2, if_pos hc4]), N0, rfl⟩
    · skip
      have S5 : ∀ t, Steps p.tables e below (s₁.setTop (mkF m 15 #[iv u0] [(.int (32 : Int32)), (.int u0)])) t → Steps p.tables e below (s₁.setTop (entryFrame m #[(.int u0)] 1)) t := by
        intro t k
        refine S3 t ?_
        show Steps p.tables e below (s₁.setTop (mkF m 7 #[iv u0] [(.int (1114111 : Int32)), (.int u0)])) _
        refine XS.icmpYes X0.here hx rfl (pc0 := 7) (pc' := 12) rfl (hb hby d2_7) rfl (flt hc4).2.2.2 (by decide) (by decide) ?_
        show Steps p.tables e below (s₁.setTop (mkF m 12 #[iv u0] [])) _
        refine XS.iloadN X0.here hx rfl (hb hby d2_12) rfl ?_
        show Steps p.tables e below (s₁.setTop (mkF m 13 #[iv u0] [(.int u0)])) _
        refine XS.bipush X0.here hx rfl (hb hby d2_13) ?_
        exact k
      by_cases hc6 : u0 < (32 : Int32)
      · skip
        have S7 : ∀ t, Steps p.tables e below (s₁.setTop (mkF m 21 #[iv u0] [(.int (9 : Int32)), (.int u0)])) t → Steps p.tables e below (s₁.setTop (entryFrame m #[(.int u0)] 1)) t := by
          intro t k
          refine S5 t ?_
          show Steps p.tables e below (s₁.setTop (mkF m 15 #[iv u0] [(.int (32 : Int32)), (.int u0)])) _
          refine XS.icmpNo X0.here hx rfl (hb hby d2_15) rfl (tlt hc6).2.1 ?_
          show Steps p.tables e below (s₁.setTop (mkF m 18 #[iv u0] [])) _
          refine XS.iloadN X0.here hx rfl (hb hby d2_18) rfl ?_
          show Steps p.tables e below (s₁.setTop (mkF m 19 #[iv u0] [(.int u0)])) _
          refine XS.bipush X0.here hx rfl (hb hby d2_19) ?_
          exact k
        by_cases hc8 : u0 = (9 : Int32)
        · skip
          obtain ⟨fs, hr, hrun, hended, hW, hsame⟩ := X0.leave (v := some (.int (1 : Int32))) (fun h => by rw [Bd.returns] at h; cases h)
          refine ⟨_, _, S7 _ ?_, hrun, hended, _, _, rfl, ?_, ⟨_, rfl⟩, hW, hsame.mono (by decide) (by decide)⟩
          · skip
            show Steps p.tables e below (s₁.setTop (mkF m 21 #[iv u0] [(.int (9 : Int32)), (.int u0)])) _
            refine XS.icmpYes X0.here hx rfl (pc0 := 21) (pc' := 36) rfl (hb hby d2_21) rfl (teq hc8).1 (by decide) (by decide) ?_
            show Steps p.tables e below (s₁.setTop (mkF m 36 #[iv u0] [])) _
            refine XS.iconst X0.here hx rfl (hb hby d2_36) ?_
            show Steps p.tables e below (s₁.setTop (mkF m 37 #[iv u0] [(.int (1 : Int32))])) _
            refine XS.goto X0.here hx rfl (pc0 := 37) (pc' := 41) rfl (hb hby d2_37) (by decide) (by decide) ?_
            show Steps p.tables e below (s₁.setTop (mkF m 41 #[iv u0] [(.int (1 : Int32))])) _
            exact retN X0 hx (t := .boolean) Bd.returns (by simp) (hb hby d2_41) hr
          · show Q2 Z u0 h0 n0 _ s₁.heap _
            rw [e0]
            exact ⟨(by unfold own_f2; rw [if_neg hc2, if_neg hc4, if_pos hc6, if_pos hc8]), N0, rfl⟩
        · skip
          have S9 : ∀ t, Steps p.tables e below (s₁.setTop (mkF m 27 #[iv u0] [(.int (10 : Int32)), (.int u0)])) t → Steps p.tables e below (s₁.setTop (entryFrame m #[(.int u0)] 1)) t := by
            intro t k
            refine S7 t ?_
            show Steps p.tables e below (s₁.setTop (mkF m 21 #[iv u0] [(.int (9 : Int32)), (.int u0)])) _
            refine XS.icmpNo X0.here hx rfl (hb hby d2_21) rfl (feq hc8).1 ?_
            show Steps p.tables e below (s₁.setTop (mkF m 24 #[iv u0] [])) _
            refine XS.iloadN X0.here hx rfl (hb hby d2_24) rfl ?_
            show Steps p.tables e below (s₁.setTop (mkF m 25 #[iv u0] [(.int u0)])) _
            refine XS.bipush X0.here hx rfl (hb hby d2_25) ?_
            exact k
          by_cases hc10 : u0 = (10 : Int32)
          · skip
            obtain ⟨fs, hr, hrun, hended, hW, hsame⟩ := X0.leave (v := some (.int (1 : Int32))) (fun h => by rw [Bd.returns] at h; cases h)
            refine ⟨_, _, S9 _ ?_, hrun, hended, _, _, rfl, ?_, ⟨_, rfl⟩, hW, hsame.mono (by decide) (by decide)⟩
            · skip
              show Steps p.tables e below (s₁.setTop (mkF m 27 #[iv u0] [(.int (10 : Int32)), (.int u0)])) _
              refine XS.icmpYes X0.here hx rfl (pc0 := 27) (pc' := 36) rfl (hb hby d2_27) rfl (teq hc10).1 (by decide) (by decide) ?_
              show Steps p.tables e below (s₁.setTop (mkF m 36 #[iv u0] [])) _
              refine XS.iconst X0.here hx rfl (hb hby d2_36) ?_
              show Steps p.tables e below (s₁.setTop (mkF m 37 #[iv u0] [(.int (1 : Int32))])) _
              refine XS.goto X0.here hx rfl (pc0 := 37) (pc' := 41) rfl (hb hby d2_37) (by decide) (by decide) ?_
              show Steps p.tables e below (s₁.setTop (mkF m 41 #[iv u0] [(.int (1 : Int32))])) _
              exact retN X0 hx (t := .boolean) Bd.returns (by simp) (hb hby d2_41) hr
            · show Q2 Z u0 h0 n0 _ s₁.heap _
              rw [e0]
              exact ⟨(by unfold own_f2; rw [if_neg hc2, if_neg hc4, if_pos hc6, if_neg hc8, if_pos hc10]), N0, rfl⟩
          · skip
            have S11 : ∀ t, Steps p.tables e below (s₁.setTop (mkF m 33 #[iv u0] [(.int (13 : Int32)), (.int u0)])) t → Steps p.tables e below (s₁.setTop (entryFrame m #[(.int u0)] 1)) t := by
              intro t k
              refine S9 t ?_
              show Steps p.tables e below (s₁.setTop (mkF m 27 #[iv u0] [(.int (10 : Int32)), (.int u0)])) _
              refine XS.icmpNo X0.here hx rfl (hb hby d2_27) rfl (feq hc10).1 ?_
              show Steps p.tables e below (s₁.setTop (mkF m 30 #[iv u0] [])) _
              refine XS.iloadN X0.here hx rfl (hb hby d2_30) rfl ?_
              show Steps p.tables e below (s₁.setTop (mkF m 31 #[iv u0] [(.int u0)])) _
              refine XS.bipush X0.here hx rfl (hb hby d2_31) ?_
              exact k
            by_cases hc12 : u0 = (13 : Int32)
            · skip
              obtain ⟨fs, hr, hrun, hended, hW, hsame⟩ := X0.leave (v := some (.int (1 : Int32))) (fun h => by rw [Bd.returns] at h; cases h)
              refine ⟨_, _, S11 _ ?_, hrun, hended, _, _, rfl, ?_, ⟨_, rfl⟩, hW, hsame.mono (by decide) (by decide)⟩
              · skip
                show Steps p.tables e below (s₁.setTop (mkF m 33 #[iv u0] [(.int (13 : Int32)), (.int u0)])) _
                refine XS.icmpNo X0.here hx rfl (hb hby d2_33) rfl (teq hc12).2 ?_
                show Steps p.tables e below (s₁.setTop (mkF m 36 #[iv u0] [])) _
                refine XS.iconst X0.here hx rfl (hb hby d2_36) ?_
                show Steps p.tables e below (s₁.setTop (mkF m 37 #[iv u0] [(.int (1 : Int32))])) _
                refine XS.goto X0.here hx rfl (pc0 := 37) (pc' := 41) rfl (hb hby d2_37) (by decide) (by decide) ?_
                show Steps p.tables e below (s₁.setTop (mkF m 41 #[iv u0] [(.int (1 : Int32))])) _
                exact retN X0 hx (t := .boolean) Bd.returns (by simp) (hb hby d2_41) hr
              · show Q2 Z u0 h0 n0 _ s₁.heap _
                rw [e0]
                exact ⟨(by unfold own_f2; rw [if_neg hc2, if_neg hc4, if_pos hc6, if_neg hc8, if_neg hc10, if_pos hc12]), N0, rfl⟩
            · skip
              obtain ⟨fs, hr, hrun, hended, hW, hsame⟩ := X0.leave (v := some (.int (0 : Int32))) (fun h => by rw [Bd.returns] at h; cases h)
              refine ⟨_, _, S11 _ ?_, hrun, hended, _, _, rfl, ?_, ⟨_, rfl⟩, hW, hsame.mono (by decide) (by decide)⟩
              · skip
                show Steps p.tables e below (s₁.setTop (mkF m 33 #[iv u0] [(.int (13 : Int32)), (.int u0)])) _
                refine XS.icmpYes X0.here hx rfl (pc0 := 33) (pc' := 40) rfl (hb hby d2_33) rfl (feq hc12).2 (by decide) (by decide) ?_
                show Steps p.tables e below (s₁.setTop (mkF m 40 #[iv u0] [])) _
                refine XS.iconst X0.here hx rfl (hb hby d2_40) ?_
                show Steps p.tables e below (s₁.setTop (mkF m 41 #[iv u0] [(.int (0 : Int32))])) _
                exact retN X0 hx (t := .boolean) Bd.returns (by simp) (hb hby d2_41) hr
              · show Q2 Z u0 h0 n0 _ s₁.heap _
                rw [e0]
                exact ⟨(by unfold own_f2; rw [if_neg hc2, if_neg hc4, if_pos hc6, if_neg hc8, if_neg hc10, if_neg hc12]), N0, rfl⟩
      · skip
        have S13 : ∀ t, Steps p.tables e below (s₁.setTop (mkF m 45 #[iv u0] [(.int (55296 : Int32)), (.int u0)])) t → Steps p.tables e below (s₁.setTop (entryFrame m #[(.int u0)] 1)) t := by
          intro t k
          refine S5 t ?_
          show Steps p.tables e below (s₁.setTop (mkF m 15 #[iv u0] [(.int (32 : Int32)), (.int u0)])) _
          refine XS.icmpYes X0.here hx rfl (pc0 := 15) (pc' := 42) rfl (hb hby d2_15) rfl (flt hc6).2.1 (by decide) (by decide) ?_
          show Steps p.tables e below (s₁.setTop (mkF m 42 #[iv u0] [])) _
          refine XS.iloadN X0.here hx rfl (hb hby d2_42) rfl ?_
          show Steps p.tables e below (s₁.setTop (mkF m 43 #[iv u0] [(.int u0)])) _
          refine X0.ldcInt hx hown (mvT hZ (hw _ (List.mem_of_getElem? (i := 2) rfl))) (g := (mkF m 43 #[iv u0] [(.int u0)])) rfl (hb hby d2_43) _ ?_
          exact k
        by_cases hc14 : u0 < (55296 : Int32)
        · skip
          have S15 : ∀ t, Steps p.tables e below (s₁.setTop (mkF m 59 #[iv u0] [(.int (65534 : Int32)), (.int u0)])) t → Steps p.tables e below (s₁.setTop (entryFrame m #[(.int u0)] 1)) t := by
            intro t k
            refine S13 t ?_
            show Steps p.tables e below (s₁.setTop (mkF m 45 #[iv u0] [(.int (55296 : Int32)), (.int u0)])) _
            refine XS.icmpYes X0.here hx rfl (pc0 := 45) (pc' := 56) rfl (hb hby d2_45) rfl (tlt hc14).1 (by decide) (by decide) ?_
            show Steps p.tables e below (s₁.setTop (mkF m 56 #[iv u0] [])) _
            refine XS.iloadN X0.here hx rfl (hb hby d2_56) rfl ?_
            show Steps p.tables e below (s₁.setTop (mkF m 57 #[iv u0] [(.int u0)])) _
            refine X0.ldcInt hx hown (mvT hZ (hw _ (List.mem_of_getElem? (i := 6) rfl))) (g := (mkF m 57 #[iv u0] [(.int u0)])) rfl (hb hby d2_57) _ ?_
            exact k
          by_cases hc16 : u0 = (65534 : Int32)
          · skip
            obtain ⟨fs, hr, hrun, hended, hW, hsame⟩ := X0.leave (v := some (.int (0 : Int32))) (fun h => by rw [Bd.returns] at h; cases h)
            refine ⟨_, _, S15 _ ?_, hrun, hended, _, _, rfl, ?_, ⟨_, rfl⟩, hW, hsame.mono (by decide) (by decide)⟩
            · skip
              show Steps p.tables e below (s₁.setTop (mkF m 59 #[iv u0] [(.int (65534 : Int32)), (.int u0)])) _
              refine XS.icmpYes X0.here hx rfl (pc0 := 59) (pc' := 68) rfl (hb hby d2_59) rfl (teq hc16).1 (by decide) (by decide) ?_
              show Steps p.tables e below (s₁.setTop (mkF m 68 #[iv u0] [])) _
              refine XS.iconst X0.here hx rfl (hb hby d2_68) ?_
              show Steps p.tables e below (s₁.setTop (mkF m 69 #[iv u0] [(.int (0 : Int32))])) _
              exact retN X0 hx (t := .boolean) Bd.returns (by simp) (hb hby d2_69) hr
            · show Q2 Z u0 h0 n0 _ s₁.heap _
              rw [e0]
              exact ⟨(by unfold own_f2; rw [if_neg hc2, if_neg hc4, if_neg hc6, if_pos hc14, if_pos hc16]), N0, rfl⟩
          · skip
            have S17 : ∀ t, Steps p.tables e below (s₁.setTop (mkF m 65 #[iv u0] [(.int (65535 : Int32)), (.int u0)])) t → Steps p.tables e below (s₁.setTop (entryFrame m #[(.int u0)] 1)) t := by
              intro t k
              refine S15 t ?_
              show Steps p.tables e below (s₁.setTop (mkF m 59 #[iv u0] [(.int (65534 : Int32)), (.int u0)])) _
              refine XS.icmpNo X0.here hx rfl (hb hby d2_59) rfl (feq hc16).1 ?_
              show Steps p.tables e below (s₁.setTop (mkF m 62 #[iv u0] [])) _
              refine XS.iloadN X0.here hx rfl (hb hby d2_62) rfl ?_
              show Steps p.tables e below (s₁.setTop (mkF m 63 #[iv u0] [(.int u0)])) _
              refine X0.ldcInt hx hown (mvT hZ (hw _ (List.mem_of_getElem? (i := 7) rfl))) (g := (mkF m 63 #[iv u0] [(.int u0)])) rfl (hb hby d2_63) _ ?_
              exact k
            by_cases hc18 : u0 = (65535 : Int32)
            · skip
              obtain ⟨fs, hr, hrun, hended, hW, hsame⟩ := X0.leave (v := some (.int (0 : Int32))) (fun h => by rw [Bd.returns] at h; cases h)
              refine ⟨_, _, S17 _ ?_, hrun, hended, _, _, rfl, ?_, ⟨_, rfl⟩, hW, hsame.mono (by decide) (by decide)⟩
              · skip
                show Steps p.tables e below (s₁.setTop (mkF m 65 #[iv u0] [(.int (65535 : Int32)), (.int u0)])) _
                refine XS.icmpNo X0.here hx rfl (hb hby d2_65) rfl (teq hc18).2 ?_
                show Steps p.tables e below (s₁.setTop (mkF m 68 #[iv u0] [])) _
                refine XS.iconst X0.here hx rfl (hb hby d2_68) ?_
                show Steps p.tables e below (s₁.setTop (mkF m 69 #[iv u0] [(.int (0 : Int32))])) _
                exact retN X0 hx (t := .boolean) Bd.returns (by simp) (hb hby d2_69) hr
              · show Q2 Z u0 h0 n0 _ s₁.heap _
                rw [e0]
                exact ⟨(by unfold own_f2; rw [if_neg hc2, if_neg hc4, if_neg hc6, if_pos hc14, if_neg hc16, if_pos hc18]), N0, rfl⟩
            · skip
              obtain ⟨fs, hr, hrun, hended, hW, hsame⟩ := X0.leave (v := some (.int (1 : Int32))) (fun h => by rw [Bd.returns] at h; cases h)
              refine ⟨_, _, S17 _ ?_, hrun, hended, _, _, rfl, ?_, ⟨_, rfl⟩, hW, hsame.mono (by decide) (by decide)⟩
              · skip
                show Steps p.tables e below (s₁.setTop (mkF m 65 #[iv u0] [(.int (65535 : Int32)), (.int u0)])) _
                refine XS.icmpYes X0.here hx rfl (pc0 := 65) (pc' := 70) rfl (hb hby d2_65) rfl (feq hc18).2 (by decide) (by decide) ?_
                show Steps p.tables e below (s₁.setTop (mkF m 70 #[iv u0] [])) _
                refine XS.iconst X0.here hx rfl (hb hby d2_70) ?_
                show Steps p.tables e below (s₁.setTop (mkF m 71 #[iv u0] [(.int (1 : Int32))])) _
                exact retN X0 hx (t := .boolean) Bd.returns (by simp) (hb hby d2_71) hr
              · show Q2 Z u0 h0 n0 _ s₁.heap _
                rw [e0]
                exact ⟨(by unfold own_f2; rw [if_neg hc2, if_neg hc4, if_neg hc6, if_pos hc14, if_neg hc16, if_neg hc18]), N0, rfl⟩
        · skip
          have S19 : ∀ t, Steps p.tables e below (s₁.setTop (mkF m 51 #[iv u0] [(.int (57343 : Int32)), (.int u0)])) t → Steps p.tables e below (s₁.setTop (entryFrame m #[(.int u0)] 1)) t := by
            intro t k
            refine S13 t ?_
            show Steps p.tables e below (s₁.setTop (mkF m 45 #[iv u0] [(.int (55296 : Int32)), (.int u0)])) _
            refine XS.icmpNo X0.here hx rfl (hb hby d2_45) rfl (flt hc14).1 ?_
            show Steps p.tables e below (s₁.setTop (mkF m 48 #[iv u0] [])) _
            refine XS.iloadN X0.here hx rfl (hb hby d2_48) rfl ?_
            show Steps p.tables e below (s₁.setTop (mkF m 49 #[iv u0] [(.int u0)])) _
            refine X0.ldcInt hx hown (mvT hZ (hw _ (List.mem_of_getElem? (i := 3) rfl))) (g := (mkF m 49 #[iv u0] [(.int u0)])) rfl (hb hby d2_49) _ ?_
            exact k
          by_cases hc20 : (57343 : Int32) < u0
          · skip
            have S21 : ∀ t, Steps p.tables e below (s₁.setTop (mkF m 59 #[iv u0] [(.int (65534 : Int32)), (.int u0)])) t → Steps p.tables e below (s₁.setTop (entryFrame m #[(.int u0)] 1)) t := by
              intro t k
              refine S19 t ?_
              show Steps p.tables e below (s₁.setTop (mkF m 51 #[iv u0] [(.int (57343 : Int32)), (.int u0)])) _
              refine XS.icmpYes X0.here hx rfl (pc0 := 51) (pc' := 56) rfl (hb hby d2_51) rfl (tlt hc20).2.2.1 (by decide) (by decide) ?_
              show Steps p.tables e below (s₁.setTop (mkF m 56 #[iv u0] [])) _
              refine XS.iloadN X0.here hx rfl (hb hby d2_56) rfl ?_
              show Steps p.tables e below (s₁.setTop (mkF m 57 #[iv u0] [(.int u0)])) _
              refine X0.ldcInt hx hown (mvT hZ (hw _ (List.mem_of_getElem? (i := 6) rfl))) (g := (mkF m 57 #[iv u0] [(.int u0)])) rfl (hb hby d2_57) _ ?_
              exact k
            by_cases hc22 : u0 = (65534 : Int32)
            · skip
              obtain ⟨fs, hr, hrun, hended, hW, hsame⟩ := X0.leave (v := some (.int (0 : Int32))) (fun h => by rw [Bd.returns] at h; cases h)
              refine ⟨_, _, S21 _ ?_, hrun, hended, _, _, rfl, ?_, ⟨_, rfl⟩, hW, hsame.mono (by decide) (by decide)⟩
              · skip
                show Steps p.tables e below (s₁.setTop (mkF m 59 #[iv u0] [(.int (65534 : Int32)), (.int u0)])) _
                refine XS.icmpYes X0.here hx rfl (pc0 := 59) (pc' := 68) rfl (hb hby d2_59) rfl (teq hc22).1 (by decide) (by decide) ?_
                show Steps p.tables e below (s₁.setTop (mkF m 68 #[iv u0] [])) _
                refine XS.iconst X0.here hx rfl (hb hby d2_68) ?_
                show Steps p.tables e below (s₁.setTop (mkF m 69 #[iv u0] [(.int (0 : Int32))])) _
                exact retN X0 hx (t := .boolean) Bd.returns (by simp) (hb hby d2_69) hr
              · show Q2 Z u0 h0 n0 _ s₁.heap _
                rw [e0]
                exact ⟨(by unfold own_f2; rw [if_neg hc2, if_neg hc4, if_neg hc6, if_neg hc14, if_pos hc20, if_pos hc22]), N0, rfl⟩
            · skip
              have S23 : ∀ t, Steps p.tables e below (s₁.setTop (mkF m 65 #[iv u0] [(.int (65535 : Int32)), (.int u0)])) t → Steps p.tables e below (s₁.setTop (entryFrame m #[(.int u0)] 1)) t := by
                intro t k
                refine S21 t ?_
                show Steps p.tables e below (s₁.setTop (mkF m 59 #[iv u0] [(.int (65534 : Int32)), (.int u0)])) _
                refine XS.icmpNo X0.here hx rfl (hb hby d2_59) rfl (feq hc22).1 ?_
                show Steps p.tables e below (s₁.setTop (mkF m 62 #[iv u0] [])) _
                refine XS.iloadN X0.here hx rfl (hb hby d2_62) rfl ?_
                show Steps p.tables e below (s₁.setTop (mkF m 63 #[iv u0] [(.int u0)])) _
                refine X0.ldcInt hx hown (mvT hZ (hw _ (List.mem_of_getElem? (i := 7) rfl))) (g := (mkF m 63 #[iv u0] [(.int u0)])) rfl (hb hby d2_63) _ ?_
                exact k
              by_cases hc24 : u0 = (65535 : Int32)
              · skip
                obtain ⟨fs, hr, hrun, hended, hW, hsame⟩ := X0.leave (v := some (.int (0 : Int32))) (fun h => by rw [Bd.returns] at h; cases h)
                refine ⟨_, _, S23 _ ?_, hrun, hended, _, _, rfl, ?_, ⟨_, rfl⟩, hW, hsame.mono (by decide) (by decide)⟩
                · skip
                  show Steps p.tables e below (s₁.setTop (mkF m 65 #[iv u0] [(.int (65535 : Int32)), (.int u0)])) _
                  refine XS.icmpNo X0.here hx rfl (hb hby d2_65) rfl (teq hc24).2 ?_
                  show Steps p.tables e below (s₁.setTop (mkF m 68 #[iv u0] [])) _
                  refine XS.iconst X0.here hx rfl (hb hby d2_68) ?_
                  show Steps p.tables e below (s₁.setTop (mkF m 69 #[iv u0] [(.int (0 : Int32))])) _
                  exact retN X0 hx (t := .boolean) Bd.returns (by simp) (hb hby d2_69) hr
                · show Q2 Z u0 h0 n0 _ s₁.heap _
                  rw [e0]
                  exact ⟨(by unfold own_f2; rw [if_neg hc2, if_neg hc4, if_neg hc6, if_neg hc14, if_pos hc20, if_neg hc22, if_pos hc24]), N0, rfl⟩
              · skip
                obtain ⟨fs, hr, hrun, hended, hW, hsame⟩ := X0.leave (v := some (.int (1 : Int32))) (fun h => by rw [Bd.returns] at h; cases h)
                refine ⟨_, _, S23 _ ?_, hrun, hended, _, _, rfl, ?_, ⟨_, rfl⟩, hW, hsame.mono (by decide) (by decide)⟩
                · skip
                  show Steps p.tables e below (s₁.setTop (mkF m 65 #[iv u0] [(.int (65535 : Int32)), (.int u0)])) _
                  refine XS.icmpYes X0.here hx rfl (pc0 := 65) (pc' := 70) rfl (hb hby d2_65) rfl (feq hc24).2 (by decide) (by decide) ?_
                  show Steps p.tables e below (s₁.setTop (mkF m 70 #[iv u0] [])) _
                  refine XS.iconst X0.here hx rfl (hb hby d2_70) ?_
                  show Steps p.tables e below (s₁.setTop (mkF m 71 #[iv u0] [(.int (1 : Int32))])) _
                  exact retN X0 hx (t := .boolean) Bd.returns (by simp) (hb hby d2_71) hr
                · show Q2 Z u0 h0 n0 _ s₁.heap _
                  rw [e0]
                  exact ⟨(by unfold own_f2; rw [if_neg hc2, if_neg hc4, if_neg hc6, if_neg hc14, if_pos hc20, if_neg hc22, if_neg hc24]), N0, rfl⟩
          · skip
            obtain ⟨fs, hr, hrun, hended, hW, hsame⟩ := X0.leave (v := some (.int (0 : Int32))) (fun h => by rw [Bd.returns] at h; cases h)
            refine ⟨_, _, S19 _ ?_, hrun, hended, _, _, rfl, ?_, ⟨_, rfl⟩, hW, hsame.mono (by decide) (by decide)⟩
            · skip
              show Steps p.tables e below (s₁.setTop (mkF m 51 #[iv u0] [(.int (57343 : Int32)), (.int u0)])) _
              refine XS.icmpNo X0.here hx rfl (hb hby d2_51) rfl (flt hc20).2.2.1 ?_
              show Steps p.tables e below (s₁.setTop (mkF m 54 #[iv u0] [])) _
              refine XS.iconst X0.here hx rfl (hb hby d2_54) ?_
              show Steps p.tables e below (s₁.setTop (mkF m 55 #[iv u0] [(.int (0 : Int32))])) _
              exact retN X0 hx (t := .boolean) Bd.returns (by simp) (hb hby d2_55) hr
            · show Q2 Z u0 h0 n0 _ s₁.heap _
              rw [e0]
              exact ⟨(by unfold own_f2; rw [if_neg hc2, if_neg hc4, if_neg hc6, if_neg hc14, if_neg hc20]), N0, rfl⟩
theorem own_plain (c : Int32) : own_f1 c = own_f2 c := by
  unfold own_f1 own_f2
  have E : ∀ k : Int32, (c = k) = (c.toInt = k.toInt) := fun k => propext Int32.toInt_inj.symm
  simp only [Int32.lt_iff_toInt_lt, E, Int32.reduceToInt]
  repeat' split
  all_goals first | rfl | omega
theorem own_getint (xs : List Int32) (i : Nat) : (xs.map Value.int).getD i (.int 0) = .int (xs.getD i 0) := by
  simp only [List.getD_eq_getElem?_getD, List.getElem?_map]
  cases xs[i]? <;> rfl
theorem own_idx (y : Int32) : ¬ ((y &&& (2147483647 : Int32)) % (22 : Int32)) < 0 ∧ ((y &&& (2147483647 : Int32)) % (22 : Int32)) < 22 := by
  have h := Jvm.Kit.i32_mask y 2147483647 (k := 31) (by decide) (by decide)
  have q := Jvm.Kit.i32_rem_nonneg (x := y &&& (2147483647 : Int32)) (y := 22) (by rw [h]; omega)
  have e : (22 : Int32).toInt = 22 := by decide
  rw [e] at q
  simp only [Int32.lt_iff_toInt_lt, q, Int32.reduceToInt]
  omega
theorem pd_0 : parseMethodDescriptor "(I)Z" = some ⟨[.int], some .boolean⟩ := by decide +kernel
def Q0 (Z : State) (u0 : Int32) (u1 : Int32) (u2 : Int32)  (h0 : Heap) (n0 : Nat) (v : Option Value) (h : Heap) (L : List Loc) : Prop := v = some (.int 1) ∧ Fr n0 L
theorem ef_rm0 (m : MethodId) (u0 : Int32) (u1 : Int32) (u2 : Int32) : entryFrame m #[(.int u0), (.int u1), (.int u2)] maxLocals = mkF m 0 #[iv u0, iv u1, iv u2, .unset, .unset, .unset, .unset, .unset, .unset] [] := by first | (simp [entryFrame, mkF, argsToLocals, Value.category, maxLocals]; done) | rfl
set_option maxRecDepth 65536 in
set_option maxHeartbeats 40000000 in
theorem rm0 (l : Launch) (Z : State) (a0 : Array Value) (hw : ∀ d ∈ tables_1, d.before a0 Z = true) (ws : List Jvm.Cond) (u0 : Int32) (u1 : Int32) (u2 : Int32)  (h0 : Heap) (n0 : Nat) (Z0 : n0 ≤ h0.size) :
    MetFree l x (head1 (Jvm.Cond.code x code maxLocals ret :: ws) room_1) (fun a U => a = #[(.int u0), (.int u1), (.int u2)] ∧ Z.Warmed39 U.vm ∧ U.heap = h0) (fun _ _ _ _ _ => True) (fun _ U o U' => ∃ v L, o = .returned v ∧ Q0 Z u0 u1 u2 h0 n0 v U'.heap L ∧ FrameEnd U o U' L room_1.cells room_1.slots) := by
  refine MetFree.of_bodySF (plainFor_of_name pn_1) hisR ?_
  intro p e s m args below meth c s₁ Bd hml0 hP hK
  obtain ⟨rfl, hZ, hh⟩ := hP
  have hx := Bd.exec
  have hby := Bd.bytes
  have hml : c.maxLocals = 9 := hml0
  have hown : s.vm.findClass "com/example/agouti/agouti/xdm/XmlCharsIsXmlCharPinLaw" = some m.cls := findClass_of_methodNamed Bd.named
  have hnm := (name_of_methodNamed Bd.named Bd.method).1
  have X0 : Stand p l e room_1 s m #[(.int u0), (.int u1), (.int u2)] below meth c s₁ [] 0 0 := Stand.of_body Bd
  have e0 : s₁.heap = h0 := by rw [← hh, Bd.state]; rfl
  have N0 := Fr.nil n0
  have S0 : ∀ t, Steps p.tables e below (s₁.setTop (mkF m 0 #[iv u0, iv u1, iv u2, .unset, .unset, .unset, .unset, .unset, .unset] [])) t → Steps p.tables e below (s₁.setTop (entryFrame m #[(.int u0), (.int u1), (.int u2)] maxLocals)) t := fun t k => castTop (ef_rm0 m u0 u1 u2) k
  obtain ⟨T1, h1, k1, X1, e1, E1, A1, st1⟩ := newP X0 hx hZ (hw _ (List.mem_of_getElem? (i := 0) rfl)) e0 (g := (mkF m 2 #[iv u0, iv u1, iv u2, .unset, .unset, .unset, .unset, .unset, .unset] [(.int (22 : Int32))])) rfl (hb hby at_2) rfl (by decide) (cap := 22) (by decide) (by decide) (by decide) (by decide)
  obtain ⟨b1, g1⟩ : ∃ z, z = h0.size := ⟨_, rfl⟩
  rw [← g1] at A1 st1
  have ge_b1 : n0 ≤ b1 := Nat.le_trans Z0 (Nat.le_of_eq g1.symm)
  have V1 : Arv Z h1 b1 k1 .int (22 : Int32) [(.int (0 : Int32)), (.int (0 : Int32)), (.int (0 : Int32)), (.int (0 : Int32)), (.int (0 : Int32)), (.int (0 : Int32)), (.int (0 : Int32)), (.int (0 : Int32)), (.int (0 : Int32)), (.int (0 : Int32)), (.int (0 : Int32)), (.int (0 : Int32)), (.int (0 : Int32)), (.int (0 : Int32)), (.int (0 : Int32)), (.int (0 : Int32)), (.int (0 : Int32)), (.int (0 : Int32)), (.int (0 : Int32)), (.int (0 : Int32)), (.int (0 : Int32)), (.int (0 : Int32))] (.int (0 : Int32)) := (Arv.new A1 (by decide)).pad (pad_rep [] (.int (0 : Int32)) 22)
  have Z1 : n0 ≤ h1.size := Nat.le_trans Z0 E1.1
  obtain ⟨cl2, Ar2, qa2, Sa2, Na2, Ha2, Ga2⟩ := id V1
  have hin2 : ¬ ((0 : Int32) < 0 ∨ cl2.slots.size ≤ ((0 : Int32)).toNatClampNeg) := inb_of Sa2 ⟨by decide, by decide⟩
  obtain ⟨T3, h3, X3, e3, W3, st3⟩ := stI X1 hx hZ e1 Ar2 (j := (0 : Int32)) hin2 (g := (mkF m 7 #[iv u0, iv u1, iv u2, .unset, .unset, .unset, .unset, .unset, .unset] [(.int (0 : Int32)), (.int (0 : Int32)), (.ref b1), (.ref b1)])) rfl rfl (hb hby at_7)
  have V3 : Arv Z h3 b1 k1 .int (22 : Int32) [(.int (0 : Int32)), (.int (0 : Int32)), (.int (0 : Int32)), (.int (0 : Int32)), (.int (0 : Int32)), (.int (0 : Int32)), (.int (0 : Int32)), (.int (0 : Int32)), (.int (0 : Int32)), (.int (0 : Int32)), (.int (0 : Int32)), (.int (0 : Int32)), (.int (0 : Int32)), (.int (0 : Int32)), (.int (0 : Int32)), (.int (0 : Int32)), (.int (0 : Int32)), (.int (0 : Int32)), (.int (0 : Int32)), (.int (0 : Int32)), (.int (0 : Int32)), (.int (0 : Int32))] (.int (0 : Int32)) := Arv.set Ar2 qa2 Sa2 Na2 Ha2 Ga2 rfl W3 0 rfl (Nat.le_of_ble_eq_true rfl)
  have N3 := Fr.snoc X3 N0 ge_b1
  have Z3 : n0 ≤ h3.size := Nat.le_trans Z1 (Keep.of_wr W3).1
  obtain ⟨cl5, Ar5, qa5, Sa5, Na5, Ha5, Ga5⟩ := id V3
  have hin5 : ¬ ((1 : Int32) < 0 ∨ cl5.slots.size ≤ ((1 : Int32)).toNatClampNeg) := inb_of Sa5 ⟨by decide, by decide⟩
  obtain ⟨T6, h6, X6, e6, W6, st6⟩ := stI X3 hx hZ e3 Ar5 (j := (1 : Int32)) hin5 (g := (mkF m 12 #[iv u0, iv u1, iv u2, .unset, .unset, .unset, .unset, .unset, .unset] [(.int (8 : Int32)), (.int (1 : Int32)), (.ref b1), (.ref b1)])) rfl rfl (hb hby at_12)
  have V6 : Arv Z h6 b1 k1 .int (22 : Int32) [(.int (0 : Int32)), (.int (8 : Int32)), (.int (0 : Int32)), (.int (0 : Int32)), (.int (0 : Int32)), (.int (0 : Int32)), (.int (0 : Int32)), (.int (0 : Int32)), (.int (0 : Int32)), (.int (0 : Int32)), (.int (0 : Int32)), (.int (0 : Int32)), (.int (0 : Int32)), (.int (0 : Int32)), (.int (0 : Int32)), (.int (0 : Int32)), (.int (0 : Int32)), (.int (0 : Int32)), (.int (0 : Int32)), (.int (0 : Int32)), (.int (0 : Int32)), (.int (0 : Int32))] (.int (0 : Int32)) := Arv.set Ar5 qa5 Sa5 Na5 Ha5 Ga5 rfl W6 1 rfl (Nat.le_of_ble_eq_true rfl)
  have N6 := Fr.snoc X6 N3 ge_b1
  have Z6 : n0 ≤ h6.size := Nat.le_trans Z3 (Keep.of_wr W6).1
  obtain ⟨cl8, Ar8, qa8, Sa8, Na8, Ha8, Ga8⟩ := id V6
  have hin8 : ¬ ((2 : Int32) < 0 ∨ cl8.slots.size ≤ ((2 : Int32)).toNatClampNeg) := inb_of Sa8 ⟨by decide, by decide⟩
  obtain ⟨T9, h9, X9, e9, W9, st9⟩ := stI X6 hx hZ e6 Ar8 (j := (2 : Int32)) hin8 (g := (mkF m 17 #[iv u0, iv u1, iv u2, .unset, .unset, .unset, .unset, .unset, .unset] [(.int (9 : Int32)), (.int (2 : Int32)), (.ref b1), (.ref b1)])) rfl rfl (hb hby at_17)
  have V9 : Arv Z h9 b1 k1 .int (22 : Int32) [(.int (0 : Int32)), (.int (8 : Int32)), (.int (9 : Int32)), (.int (0 : Int32)), (.int (0 : Int32)), (.int (0 : Int32)), (.int (0 : Int32)), (.int (0 : Int32)), (.int (0 : Int32)), (.int (0 : Int32)), (.int (0 : Int32)), (.int (0 : Int32)), (.int (0 : Int32)), (.int (0 : Int32)), (.int (0 : Int32)), (.int (0 : Int32)), (.int (0 : Int32)), (.int (0 : Int32)), (.int (0 : Int32)), (.int (0 : Int32)), (.int (0 : Int32)), (.int (0 : Int32))] (.int (0 : Int32)) := Arv.set Ar8 qa8 Sa8 Na8 Ha8 Ga8 rfl W9 2 rfl (Nat.le_of_ble_eq_true rfl)
  have N9 := Fr.snoc X9 N6 ge_b1
  have Z9 : n0 ≤ h9.size := Nat.le_trans Z6 (Keep.of_wr W9).1
  obtain ⟨cl11, Ar11, qa11, Sa11, Na11, Ha11, Ga11⟩ := id V9
  have hin11 : ¬ ((3 : Int32) < 0 ∨ cl11.slots.size ≤ ((3 : Int32)).toNatClampNeg) := inb_of Sa11 ⟨by decide, by decide⟩
  obtain ⟨T12, h12, X12, e12, W12, st12⟩ := stI X9 hx hZ e9 Ar11 (j := (3 : Int32)) hin11 (g := (mkF m 22 #[iv u0, iv u1, iv u2, .unset, .unset, .unset, .unset, .unset, .unset] [(.int (10 : Int32)), (.int (3 : Int32)), (.ref b1), (.ref b1)])) rfl rfl (hb hby at_22)
  have V12 : Arv Z h12 b1 k1 .int (22 : Int32) [(.int (0 : Int32)), (.int (8 : Int32)), (.int (9 : Int32)), (.int (10 : Int32)), (.int (0 : Int32)), (.int (0 : Int32)), (.int (0 : Int32)), (.int (0 : Int32)), (.int (0 : Int32)), (.int (0 : Int32)), (.int (0 : Int32)), (.int (0 : Int32)), (.int (0 : Int32)), (.int (0 : Int32)), (.int (0 : Int32)), (.int (0 : Int32)), (.int (0 : Int32)), (.int (0 : Int32)), (.int (0 : Int32)), (.int (0 : Int32)), (.int (0 : Int32)), (.int (0 : Int32))] (.int (0 : Int32)) := Arv.set Ar11 qa11 Sa11 Na11 Ha11 Ga11 rfl W12 3 rfl (Nat.le_of_ble_eq_true rfl)
  have N12 := Fr.snoc X12 N9 ge_b1
  have Z12 : n0 ≤ h12.size := Nat.le_trans Z9 (Keep.of_wr W12).1
  obtain ⟨cl14, Ar14, qa14, Sa14, Na14, Ha14, Ga14⟩ := id V12
  have hin14 : ¬ ((4 : Int32) < 0 ∨ cl14.slots.size ≤ ((4 : Int32)).toNatClampNeg) := inb_of Sa14 ⟨by decide, by decide⟩
  obtain ⟨T15, h15, X15, e15, W15, st15⟩ := stI X12 hx hZ e12 Ar14 (j := (4 : Int32)) hin14 (g := (mkF m 27 #[iv u0, iv u1, iv u2, .unset, .unset, .unset, .unset, .unset, .unset] [(.int (11 : Int32)), (.int (4 : Int32)), (.ref b1), (.ref b1)])) rfl rfl (hb hby at_27)
  have V15 : Arv Z h15 b1 k1 .int (22 : Int32) [(.int (0 : Int32)), (.int (8 : Int32)), (.int (9 : Int32)), (.int (10 : Int32)), (.int (11 : Int32)), (.int (0 : Int32)), (.int (0 : Int32)), (.int (0 : Int32)), (.int (0 : Int32)), (.int (0 : Int32)), (.int (0 : Int32)), (.int (0 : Int32)), (.int (0 : Int32)), (.int (0 : Int32)), (.int (0 : Int32)), (.int (0 : Int32)), (.int (0 : Int32)), (.int (0 : Int32)), (.int (0 : Int32)), (.int (0 : Int32)), (.int (0 : Int32)), (.int (0 : Int32))] (.int (0 : Int32)) := Arv.set Ar14 qa14 Sa14 Na14 Ha14 Ga14 rfl W15 4 rfl (Nat.le_of_ble_eq_true rfl)
  have N15 := Fr.snoc X15 N12 ge_b1
  have Z15 : n0 ≤ h15.size := Nat.le_trans Z12 (Keep.of_wr W15).1
  obtain ⟨cl17, Ar17, qa17, Sa17, Na17, Ha17, Ga17⟩ := id V15
  have hin17 : ¬ ((5 : Int32) < 0 ∨ cl17.slots.size ≤ ((5 : Int32)).toNatClampNeg) := inb_of Sa17 ⟨by decide, by decide⟩
  obtain ⟨T18, h18, X18, e18, W18, st18⟩ := stI X15 hx hZ e15 Ar17 (j := (5 : Int32)) hin17 (g := (mkF m 32 #[iv u0, iv u1, iv u2, .unset, .unset, .unset, .unset, .unset, .unset] [(.int (12 : Int32)), (.int (5 : Int32)), (.ref b1), (.ref b1)])) rfl rfl (hb hby at_32)
  have V18 : Arv Z h18 b1 k1 .int (22 : Int32) [(.int (0 : Int32)), (.int (8 : Int32)), (.int (9 : Int32)), (.int (10 : Int32)), (.int (11 : Int32)), (.int (12 : Int32)), (.int (0 : Int32)), (.int (0 : Int32)), (.int (0 : Int32)), (.int (0 : Int32)), (.int (0 : Int32)), (.int (0 : Int32)), (.int (0 : Int32)), (.int (0 : Int32)), (.int (0 : Int32)), (.int (0 : Int32)), (.int (0 : Int32)), (.int (0 : Int32)), (.int (0 : Int32)), (.int (0 : Int32)), (.int (0 : Int32)), (.int (0 : Int32))] (.int (0 : Int32)) := Arv.set Ar17 qa17 Sa17 Na17 Ha17 Ga17 rfl W18 5 rfl (Nat.le_of_ble_eq_true rfl)
  have N18 := Fr.snoc X18 N15 ge_b1
  have Z18 : n0 ≤ h18.size := Nat.le_trans Z15 (Keep.of_wr W18).1
  obtain ⟨cl20, Ar20, qa20, Sa20, Na20, Ha20, Ga20⟩ := id V18
  have hin20 : ¬ ((6 : Int32) < 0 ∨ cl20.slots.size ≤ ((6 : Int32)).toNatClampNeg) := inb_of Sa20 ⟨by decide, by decide⟩
  obtain ⟨T21, h21, X21, e21, W21, st21⟩ := stI X18 hx hZ e18 Ar20 (j := (6 : Int32)) hin20 (g := (mkF m 38 #[iv u0, iv u1, iv u2, .unset, .unset, .unset, .unset, .unset, .unset] [(.int (13 : Int32)), (.int (6 : Int32)), (.ref b1), (.ref b1)])) rfl rfl (hb hby at_38)
  have V21 : Arv Z h21 b1 k1 .int (22 : Int32) [(.int (0 : Int32)), (.int (8 : Int32)), (.int (9 : Int32)), (.int (10 : Int32)), (.int (11 : Int32)), (.int (12 : Int32)), (.int (13 : Int32)), (.int (0 : Int32)), (.int (0 : Int32)), (.int (0 : Int32)), (.int (0 : Int32)), (.int (0 : Int32)), (.int (0 : Int32)), (.int (0 : Int32)), (.int (0 : Int32)), (.int (0 : Int32)), (.int (0 : Int32)), (.int (0 : Int32)), (.int (0 : Int32)), (.int (0 : Int32)), (.int (0 : Int32)), (.int (0 : Int32))] (.int (0 : Int32)) := Arv.set Ar20 qa20 Sa20 Na20 Ha20 Ga20 rfl W21 6 rfl (Nat.le_of_ble_eq_true rfl)
  have N21 := Fr.snoc X21 N18 ge_b1
  have Z21 : n0 ≤ h21.size := Nat.le_trans Z18 (Keep.of_wr W21).1
  obtain ⟨cl23, Ar23, qa23, Sa23, Na23, Ha23, Ga23⟩ := id V21
  have hin23 : ¬ ((7 : Int32) < 0 ∨ cl23.slots.size ≤ ((7 : Int32)).toNatClampNeg) := inb_of Sa23 ⟨by decide, by decide⟩
  obtain ⟨T24, h24, X24, e24, W24, st24⟩ := stI X21 hx hZ e21 Ar23 (j := (7 : Int32)) hin23 (g := (mkF m 44 #[iv u0, iv u1, iv u2, .unset, .unset, .unset, .unset, .unset, .unset] [(.int (14 : Int32)), (.int (7 : Int32)), (.ref b1), (.ref b1)])) rfl rfl (hb hby at_44)
  have V24 : Arv Z h24 b1 k1 .int (22 : Int32) [(.int (0 : Int32)), (.int (8 : Int32)), (.int (9 : Int32)), (.int (10 : Int32)), (.int (11 : Int32)), (.int (12 : Int32)), (.int (13 : Int32)), (.int (14 : Int32)), (.int (0 : Int32)), (.int (0 : Int32)), (.int (0 : Int32)), (.int (0 : Int32)), (.int (0 : Int32)), (.int (0 : Int32)), (.int (0 : Int32)), (.int (0 : Int32)), (.int (0 : Int32)), (.int (0 : Int32)), (.int (0 : Int32)), (.int (0 : Int32)), (.int (0 : Int32)), (.int (0 : Int32))] (.int (0 : Int32)) := Arv.set Ar23 qa23 Sa23 Na23 Ha23 Ga23 rfl W24 7 rfl (Nat.le_of_ble_eq_true rfl)
  have N24 := Fr.snoc X24 N21 ge_b1
  have Z24 : n0 ≤ h24.size := Nat.le_trans Z21 (Keep.of_wr W24).1
  obtain ⟨cl26, Ar26, qa26, Sa26, Na26, Ha26, Ga26⟩ := id V24
  have hin26 : ¬ ((8 : Int32) < 0 ∨ cl26.slots.size ≤ ((8 : Int32)).toNatClampNeg) := inb_of Sa26 ⟨by decide, by decide⟩
  obtain ⟨T27, h27, X27, e27, W27, st27⟩ := stI X24 hx hZ e24 Ar26 (j := (8 : Int32)) hin26 (g := (mkF m 50 #[iv u0, iv u1, iv u2, .unset, .unset, .unset, .unset, .unset, .unset] [(.int (31 : Int32)), (.int (8 : Int32)), (.ref b1), (.ref b1)])) rfl rfl (hb hby at_50)
  have V27 : Arv Z h27 b1 k1 .int (22 : Int32) [(.int (0 : Int32)), (.int (8 : Int32)), (.int (9 : Int32)), (.int (10 : Int32)), (.int (11 : Int32)), (.int (12 : Int32)), (.int (13 : Int32)), (.int (14 : Int32)), (.int (31 : Int32)), (.int (0 : Int32)), (.int (0 : Int32)), (.int (0 : Int32)), (.int (0 : Int32)), (.int (0 : Int32)), (.int (0 : Int32)), (.int (0 : Int32)), (.int (0 : Int32)), (.int (0 : Int32)), (.int (0 : Int32)), (.int (0 : Int32)), (.int (0 : Int32)), (.int (0 : Int32))] (.int (0 : Int32)) := Arv.set Ar26 qa26 Sa26 Na26 Ha26 Ga26 rfl W27 8 rfl (Nat.le_of_ble_eq_true rfl)
  have N27 := Fr.snoc X27 N24 ge_b1
  have Z27 : n0 ≤ h27.size := Nat.le_trans Z24 (Keep.of_wr W27).1
  obtain ⟨cl29, Ar29, qa29, Sa29, Na29, Ha29, Ga29⟩ := id V27
  have hin29 : ¬ ((9 : Int32) < 0 ∨ cl29.slots.size ≤ ((9 : Int32)).toNatClampNeg) := inb_of Sa29 ⟨by decide, by decide⟩
  obtain ⟨T30, h30, X30, e30, W30, st30⟩ := stI X27 hx hZ e27 Ar29 (j := (9 : Int32)) hin29 (g := (mkF m 56 #[iv u0, iv u1, iv u2, .unset, .unset, .unset, .unset, .unset, .unset] [(.int (32 : Int32)), (.int (9 : Int32)), (.ref b1), (.ref b1)])) rfl rfl (hb hby at_56)
  have V30 : Arv Z h30 b1 k1 .int (22 : Int32) [(.int (0 : Int32)), (.int (8 : Int32)), (.int (9 : Int32)), (.int (10 : Int32)), (.int (11 : Int32)), (.int (12 : Int32)), (.int (13 : Int32)), (.int (14 : Int32)), (.int (31 : Int32)), (.int (32 : Int32)), (.int (0 : Int32)), (.int (0 : Int32)), (.int (0 : Int32)), (.int (0 : Int32)), (.int (0 : Int32)), (.int (0 : Int32)), (.int (0 : Int32)), (.int (0 : Int32)), (.int (0 : Int32)), (.int (0 : Int32)), (.int (0 : Int32)), (.int (0 : Int32))] (.int (0 : Int32)) := Arv.set Ar29 qa29 Sa29 Na29 Ha29 Ga29 rfl W30 9 rfl (Nat.le_of_ble_eq_true rfl)
  have N30 := Fr.snoc X30 N27 ge_b1
  have Z30 : n0 ≤ h30.size := Nat.le_trans Z27 (Keep.of_wr W30).1
  obtain ⟨cl32, Ar32, qa32, Sa32, Na32, Ha32, Ga32⟩ := id V30
  have hin32 : ¬ ((10 : Int32) < 0 ∨ cl32.slots.size ≤ ((10 : Int32)).toNatClampNeg) := inb_of Sa32 ⟨by decide, by decide⟩
  obtain ⟨T33, h33, X33, e33, W33, st33⟩ := stI X30 hx hZ e30 Ar32 (j := (10 : Int32)) hin32 (g := (mkF m 62 #[iv u0, iv u1, iv u2, .unset, .unset, .unset, .unset, .unset, .unset] [(.int (55295 : Int32)), (.int (10 : Int32)), (.ref b1), (.ref b1)])) rfl rfl (hb hby at_62)
  have V33 : Arv Z h33 b1 k1 .int (22 : Int32) [(.int (0 : Int32)), (.int (8 : Int32)), (.int (9 : Int32)), (.int (10 : Int32)), (.int (11 : Int32)), (.int (12 : Int32)), (.int (13 : Int32)), (.int (14 : Int32)), (.int (31 : Int32)), (.int (32 : Int32)), (.int (55295 : Int32)), (.int (0 : Int32)), (.int (0 : Int32)), (.int (0 : Int32)), (.int (0 : Int32)), (.int (0 : Int32)), (.int (0 : Int32)), (.int (0 : Int32)), (.int (0 : Int32)), (.int (0 : Int32)), (.int (0 : Int32)), (.int (0 : Int32))] (.int (0 : Int32)) := Arv.set Ar32 qa32 Sa32 Na32 Ha32 Ga32 rfl W33 10 rfl (Nat.le_of_ble_eq_true rfl)
  have N33 := Fr.snoc X33 N30 ge_b1
  have Z33 : n0 ≤ h33.size := Nat.le_trans Z30 (Keep.of_wr W33).1
  obtain ⟨cl35, Ar35, qa35, Sa35, Na35, Ha35, Ga35⟩ := id V33
  have hin35 : ¬ ((11 : Int32) < 0 ∨ cl35.slots.size ≤ ((11 : Int32)).toNatClampNeg) := inb_of Sa35 ⟨by decide, by decide⟩
  obtain ⟨T36, h36, X36, e36, W36, st36⟩ := stI X33 hx hZ e33 Ar35 (j := (11 : Int32)) hin35 (g := (mkF m 68 #[iv u0, iv u1, iv u2, .unset, .unset, .unset, .unset, .unset, .unset] [(.int (55296 : Int32)), (.int (11 : Int32)), (.ref b1), (.ref b1)])) rfl rfl (hb hby at_68)
  have V36 : Arv Z h36 b1 k1 .int (22 : Int32) [(.int (0 : Int32)), (.int (8 : Int32)), (.int (9 : Int32)), (.int (10 : Int32)), (.int (11 : Int32)), (.int (12 : Int32)), (.int (13 : Int32)), (.int (14 : Int32)), (.int (31 : Int32)), (.int (32 : Int32)), (.int (55295 : Int32)), (.int (55296 : Int32)), (.int (0 : Int32)), (.int (0 : Int32)), (.int (0 : Int32)), (.int (0 : Int32)), (.int (0 : Int32)), (.int (0 : Int32)), (.int (0 : Int32)), (.int (0 : Int32)), (.int (0 : Int32)), (.int (0 : Int32))] (.int (0 : Int32)) := Arv.set Ar35 qa35 Sa35 Na35 Ha35 Ga35 rfl W36 11 rfl (Nat.le_of_ble_eq_true rfl)
  have N36 := Fr.snoc X36 N33 ge_b1
  have Z36 : n0 ≤ h36.size := Nat.le_trans Z33 (Keep.of_wr W36).1
  obtain ⟨cl38, Ar38, qa38, Sa38, Na38, Ha38, Ga38⟩ := id V36
  have hin38 : ¬ ((12 : Int32) < 0 ∨ cl38.slots.size ≤ ((12 : Int32)).toNatClampNeg) := inb_of Sa38 ⟨by decide, by decide⟩
  obtain ⟨T39, h39, X39, e39, W39, st39⟩ := stI X36 hx hZ e36 Ar38 (j := (12 : Int32)) hin38 (g := (mkF m 74 #[iv u0, iv u1, iv u2, .unset, .unset, .unset, .unset, .unset, .unset] [(.int (57343 : Int32)), (.int (12 : Int32)), (.ref b1), (.ref b1)])) rfl rfl (hb hby at_74)
  have V39 : Arv Z h39 b1 k1 .int (22 : Int32) [(.int (0 : Int32)), (.int (8 : Int32)), (.int (9 : Int32)), (.int (10 : Int32)), (.int (11 : Int32)), (.int (12 : Int32)), (.int (13 : Int32)), (.int (14 : Int32)), (.int (31 : Int32)), (.int (32 : Int32)), (.int (55295 : Int32)), (.int (55296 : Int32)), (.int (57343 : Int32)), (.int (0 : Int32)), (.int (0 : Int32)), (.int (0 : Int32)), (.int (0 : Int32)), (.int (0 : Int32)), (.int (0 : Int32)), (.int (0 : Int32)), (.int (0 : Int32)), (.int (0 : Int32))] (.int (0 : Int32)) := Arv.set Ar38 qa38 Sa38 Na38 Ha38 Ga38 rfl W39 12 rfl (Nat.le_of_ble_eq_true rfl)
  have N39 := Fr.snoc X39 N36 ge_b1
  have Z39 : n0 ≤ h39.size := Nat.le_trans Z36 (Keep.of_wr W39).1
  obtain ⟨cl41, Ar41, qa41, Sa41, Na41, Ha41, Ga41⟩ := id V39
  have hin41 : ¬ ((13 : Int32) < 0 ∨ cl41.slots.size ≤ ((13 : Int32)).toNatClampNeg) := inb_of Sa41 ⟨by decide, by decide⟩
  obtain ⟨T42, h42, X42, e42, W42, st42⟩ := stI X39 hx hZ e39 Ar41 (j := (13 : Int32)) hin41 (g := (mkF m 80 #[iv u0, iv u1, iv u2, .unset, .unset, .unset, .unset, .unset, .unset] [(.int (57344 : Int32)), (.int (13 : Int32)), (.ref b1), (.ref b1)])) rfl rfl (hb hby at_80)
  have V42 : Arv Z h42 b1 k1 .int (22 : Int32) [(.int (0 : Int32)), (.int (8 : Int32)), (.int (9 : Int32)), (.int (10 : Int32)), (.int (11 : Int32)), (.int (12 : Int32)), (.int (13 : Int32)), (.int (14 : Int32)), (.int (31 : Int32)), (.int (32 : Int32)), (.int (55295 : Int32)), (.int (55296 : Int32)), (.int (57343 : Int32)), (.int (57344 : Int32)), (.int (0 : Int32)), (.int (0 : Int32)), (.int (0 : Int32)), (.int (0 : Int32)), (.int (0 : Int32)), (.int (0 : Int32)), (.int (0 : Int32)), (.int (0 : Int32))] (.int (0 : Int32)) := Arv.set Ar41 qa41 Sa41 Na41 Ha41 Ga41 rfl W42 13 rfl (Nat.le_of_ble_eq_true rfl)
  have N42 := Fr.snoc X42 N39 ge_b1
  have Z42 : n0 ≤ h42.size := Nat.le_trans Z39 (Keep.of_wr W42).1
  obtain ⟨cl44, Ar44, qa44, Sa44, Na44, Ha44, Ga44⟩ := id V42
  have hin44 : ¬ ((14 : Int32) < 0 ∨ cl44.slots.size ≤ ((14 : Int32)).toNatClampNeg) := inb_of Sa44 ⟨by decide, by decide⟩
  obtain ⟨T45, h45, X45, e45, W45, st45⟩ := stI X42 hx hZ e42 Ar44 (j := (14 : Int32)) hin44 (g := (mkF m 86 #[iv u0, iv u1, iv u2, .unset, .unset, .unset, .unset, .unset, .unset] [(.int (65533 : Int32)), (.int (14 : Int32)), (.ref b1), (.ref b1)])) rfl rfl (hb hby at_86)
  have V45 : Arv Z h45 b1 k1 .int (22 : Int32) [(.int (0 : Int32)), (.int (8 : Int32)), (.int (9 : Int32)), (.int (10 : Int32)), (.int (11 : Int32)), (.int (12 : Int32)), (.int (13 : Int32)), (.int (14 : Int32)), (.int (31 : Int32)), (.int (32 : Int32)), (.int (55295 : Int32)), (.int (55296 : Int32)), (.int (57343 : Int32)), (.int (57344 : Int32)), (.int (65533 : Int32)), (.int (0 : Int32)), (.int (0 : Int32)), (.int (0 : Int32)), (.int (0 : Int32)), (.int (0 : Int32)), (.int (0 : Int32)), (.int (0 : Int32))] (.int (0 : Int32)) := Arv.set Ar44 qa44 Sa44 Na44 Ha44 Ga44 rfl W45 14 rfl (Nat.le_of_ble_eq_true rfl)
  have N45 := Fr.snoc X45 N42 ge_b1
  have Z45 : n0 ≤ h45.size := Nat.le_trans Z42 (Keep.of_wr W45).1
  obtain ⟨cl47, Ar47, qa47, Sa47, Na47, Ha47, Ga47⟩ := id V45
  have hin47 : ¬ ((15 : Int32) < 0 ∨ cl47.slots.size ≤ ((15 : Int32)).toNatClampNeg) := inb_of Sa47 ⟨by decide, by decide⟩
  obtain ⟨T48, h48, X48, e48, W48, st48⟩ := stI X45 hx hZ e45 Ar47 (j := (15 : Int32)) hin47 (g := (mkF m 92 #[iv u0, iv u1, iv u2, .unset, .unset, .unset, .unset, .unset, .unset] [(.int (65534 : Int32)), (.int (15 : Int32)), (.ref b1), (.ref b1)])) rfl rfl (hb hby at_92)
  have V48 : Arv Z h48 b1 k1 .int (22 : Int32) [(.int (0 : Int32)), (.int (8 : Int32)), (.int (9 : Int32)), (.int (10 : Int32)), (.int (11 : Int32)), (.int (12 : Int32)), (.int (13 : Int32)), (.int (14 : Int32)), (.int (31 : Int32)), (.int (32 : Int32)), (.int (55295 : Int32)), (.int (55296 : Int32)), (.int (57343 : Int32)), (.int (57344 : Int32)), (.int (65533 : Int32)), (.int (65534 : Int32)), (.int (0 : Int32)), (.int (0 : Int32)), (.int (0 : Int32)), (.int (0 : Int32)), (.int (0 : Int32)), (.int (0 : Int32))] (.int (0 : Int32)) := Arv.set Ar47 qa47 Sa47 Na47 Ha47 Ga47 rfl W48 15 rfl (Nat.le_of_ble_eq_true rfl)
  have N48 := Fr.snoc X48 N45 ge_b1
  have Z48 : n0 ≤ h48.size := Nat.le_trans Z45 (Keep.of_wr W48).1
  obtain ⟨cl50, Ar50, qa50, Sa50, Na50, Ha50, Ga50⟩ := id V48
  have hin50 : ¬ ((16 : Int32) < 0 ∨ cl50.slots.size ≤ ((16 : Int32)).toNatClampNeg) := inb_of Sa50 ⟨by decide, by decide⟩
  obtain ⟨T51, h51, X51, e51, W51, st51⟩ := stI X48 hx hZ e48 Ar50 (j := (16 : Int32)) hin50 (g := (mkF m 98 #[iv u0, iv u1, iv u2, .unset, .unset, .unset, .unset, .unset, .unset] [(.int (65535 : Int32)), (.int (16 : Int32)), (.ref b1), (.ref b1)])) rfl rfl (hb hby at_98)
  have V51 : Arv Z h51 b1 k1 .int (22 : Int32) [(.int (0 : Int32)), (.int (8 : Int32)), (.int (9 : Int32)), (.int (10 : Int32)), (.int (11 : Int32)), (.int (12 : Int32)), (.int (13 : Int32)), (.int (14 : Int32)), (.int (31 : Int32)), (.int (32 : Int32)), (.int (55295 : Int32)), (.int (55296 : Int32)), (.int (57343 : Int32)), (.int (57344 : Int32)), (.int (65533 : Int32)), (.int (65534 : Int32)), (.int (65535 : Int32)), (.int (0 : Int32)), (.int (0 : Int32)), (.int (0 : Int32)), (.int (0 : Int32)), (.int (0 : Int32))] (.int (0 : Int32)) := Arv.set Ar50 qa50 Sa50 Na50 Ha50 Ga50 rfl W51 16 rfl (Nat.le_of_ble_eq_true rfl)
  have N51 := Fr.snoc X51 N48 ge_b1
  have Z51 : n0 ≤ h51.size := Nat.le_trans Z48 (Keep.of_wr W51).1
  obtain ⟨cl53, Ar53, qa53, Sa53, Na53, Ha53, Ga53⟩ := id V51
  have hin53 : ¬ ((17 : Int32) < 0 ∨ cl53.slots.size ≤ ((17 : Int32)).toNatClampNeg) := inb_of Sa53 ⟨by decide, by decide⟩
  obtain ⟨T54, h54, X54, e54, W54, st54⟩ := stI X51 hx hZ e51 Ar53 (j := (17 : Int32)) hin53 (g := (mkF m 104 #[iv u0, iv u1, iv u2, .unset, .unset, .unset, .unset, .unset, .unset] [(.int (65536 : Int32)), (.int (17 : Int32)), (.ref b1), (.ref b1)])) rfl rfl (hb hby at_104)
  have V54 : Arv Z h54 b1 k1 .int (22 : Int32) [(.int (0 : Int32)), (.int (8 : Int32)), (.int (9 : Int32)), (.int (10 : Int32)), (.int (11 : Int32)), (.int (12 : Int32)), (.int (13 : Int32)), (.int (14 : Int32)), (.int (31 : Int32)), (.int (32 : Int32)), (.int (55295 : Int32)), (.int (55296 : Int32)), (.int (57343 : Int32)), (.int (57344 : Int32)), (.int (65533 : Int32)), (.int (65534 : Int32)), (.int (65535 : Int32)), (.int (65536 : Int32)), (.int (0 : Int32)), (.int (0 : Int32)), (.int (0 : Int32)), (.int (0 : Int32))] (.int (0 : Int32)) := Arv.set Ar53 qa53 Sa53 Na53 Ha53 Ga53 rfl W54 17 rfl (Nat.le_of_ble_eq_true rfl)
  have N54 := Fr.snoc X54 N51 ge_b1
  have Z54 : n0 ≤ h54.size := Nat.le_trans Z51 (Keep.of_wr W54).1
  obtain ⟨cl56, Ar56, qa56, Sa56, Na56, Ha56, Ga56⟩ := id V54
  have hin56 : ¬ ((18 : Int32) < 0 ∨ cl56.slots.size ≤ ((18 : Int32)).toNatClampNeg) := inb_of Sa56 ⟨by decide, by decide⟩
  obtain ⟨T57, h57, X57, e57, W57, st57⟩ := stI X54 hx hZ e54 Ar56 (j := (18 : Int32)) hin56 (g := (mkF m 110 #[iv u0, iv u1, iv u2, .unset, .unset, .unset, .unset, .unset, .unset] [(.int (1114111 : Int32)), (.int (18 : Int32)), (.ref b1), (.ref b1)])) rfl rfl (hb hby at_110)
  have V57 : Arv Z h57 b1 k1 .int (22 : Int32) [(.int (0 : Int32)), (.int (8 : Int32)), (.int (9 : Int32)), (.int (10 : Int32)), (.int (11 : Int32)), (.int (12 : Int32)), (.int (13 : Int32)), (.int (14 : Int32)), (.int (31 : Int32)), (.int (32 : Int32)), (.int (55295 : Int32)), (.int (55296 : Int32)), (.int (57343 : Int32)), (.int (57344 : Int32)), (.int (65533 : Int32)), (.int (65534 : Int32)), (.int (65535 : Int32)), (.int (65536 : Int32)), (.int (1114111 : Int32)), (.int (0 : Int32)), (.int (0 : Int32)), (.int (0 : Int32))] (.int (0 : Int32)) := Arv.set Ar56 qa56 Sa56 Na56 Ha56 Ga56 rfl W57 18 rfl (Nat.le_of_ble_eq_true rfl)
  have N57 := Fr.snoc X57 N54 ge_b1
  have Z57 : n0 ≤ h57.size := Nat.le_trans Z54 (Keep.of_wr W57).1
  obtain ⟨cl59, Ar59, qa59, Sa59, Na59, Ha59, Ga59⟩ := id V57
  have hin59 : ¬ ((19 : Int32) < 0 ∨ cl59.slots.size ≤ ((19 : Int32)).toNatClampNeg) := inb_of Sa59 ⟨by decide, by decide⟩
  obtain ⟨T60, h60, X60, e60, W60, st60⟩ := stI X57 hx hZ e57 Ar59 (j := (19 : Int32)) hin59 (g := (mkF m 116 #[iv u0, iv u1, iv u2, .unset, .unset, .unset, .unset, .unset, .unset] [(.int (1114112 : Int32)), (.int (19 : Int32)), (.ref b1), (.ref b1)])) rfl rfl (hb hby at_116)
  have V60 : Arv Z h60 b1 k1 .int (22 : Int32) [(.int (0 : Int32)), (.int (8 : Int32)), (.int (9 : Int32)), (.int (10 : Int32)), (.int (11 : Int32)), (.int (12 : Int32)), (.int (13 : Int32)), (.int (14 : Int32)), (.int (31 : Int32)), (.int (32 : Int32)), (.int (55295 : Int32)), (.int (55296 : Int32)), (.int (57343 : Int32)), (.int (57344 : Int32)), (.int (65533 : Int32)), (.int (65534 : Int32)), (.int (65535 : Int32)), (.int (65536 : Int32)), (.int (1114111 : Int32)), (.int (1114112 : Int32)), (.int (0 : Int32)), (.int (0 : Int32))] (.int (0 : Int32)) := Arv.set Ar59 qa59 Sa59 Na59 Ha59 Ga59 rfl W60 19 rfl (Nat.le_of_ble_eq_true rfl)
  have N60 := Fr.snoc X60 N57 ge_b1
  have Z60 : n0 ≤ h60.size := Nat.le_trans Z57 (Keep.of_wr W60).1
  obtain ⟨cl62, Ar62, qa62, Sa62, Na62, Ha62, Ga62⟩ := id V60
  have hin62 : ¬ ((20 : Int32) < 0 ∨ cl62.slots.size ≤ ((20 : Int32)).toNatClampNeg) := inb_of Sa62 ⟨by decide, by decide⟩
  obtain ⟨T63, h63, X63, e63, W63, st63⟩ := stI X60 hx hZ e60 Ar62 (j := (20 : Int32)) hin62 (g := (mkF m 122 #[iv u0, iv u1, iv u2, .unset, .unset, .unset, .unset, .unset, .unset] [(.int (-2147483648 : Int32)), (.int (20 : Int32)), (.ref b1), (.ref b1)])) rfl rfl (hb hby at_122)
  have V63 : Arv Z h63 b1 k1 .int (22 : Int32) [(.int (0 : Int32)), (.int (8 : Int32)), (.int (9 : Int32)), (.int (10 : Int32)), (.int (11 : Int32)), (.int (12 : Int32)), (.int (13 : Int32)), (.int (14 : Int32)), (.int (31 : Int32)), (.int (32 : Int32)), (.int (55295 : Int32)), (.int (55296 : Int32)), (.int (57343 : Int32)), (.int (57344 : Int32)), (.int (65533 : Int32)), (.int (65534 : Int32)), (.int (65535 : Int32)), (.int (65536 : Int32)), (.int (1114111 : Int32)), (.int (1114112 : Int32)), (.int (-2147483648 : Int32)), (.int (0 : Int32))] (.int (0 : Int32)) := Arv.set Ar62 qa62 Sa62 Na62 Ha62 Ga62 rfl W63 20 rfl (Nat.le_of_ble_eq_true rfl)
  have N63 := Fr.snoc X63 N60 ge_b1
  have Z63 : n0 ≤ h63.size := Nat.le_trans Z60 (Keep.of_wr W63).1
  obtain ⟨cl65, Ar65, qa65, Sa65, Na65, Ha65, Ga65⟩ := id V63
  have hin65 : ¬ ((21 : Int32) < 0 ∨ cl65.slots.size ≤ ((21 : Int32)).toNatClampNeg) := inb_of Sa65 ⟨by decide, by decide⟩
  obtain ⟨T66, h66, X66, e66, W66, st66⟩ := stI X63 hx hZ e63 Ar65 (j := (21 : Int32)) hin65 (g := (mkF m 128 #[iv u0, iv u1, iv u2, .unset, .unset, .unset, .unset, .unset, .unset] [(.int (2147483647 : Int32)), (.int (21 : Int32)), (.ref b1), (.ref b1)])) rfl rfl (hb hby at_128)
  have V66 : Arv Z h66 b1 k1 .int (22 : Int32) [(.int (0 : Int32)), (.int (8 : Int32)), (.int (9 : Int32)), (.int (10 : Int32)), (.int (11 : Int32)), (.int (12 : Int32)), (.int (13 : Int32)), (.int (14 : Int32)), (.int (31 : Int32)), (.int (32 : Int32)), (.int (55295 : Int32)), (.int (55296 : Int32)), (.int (57343 : Int32)), (.int (57344 : Int32)), (.int (65533 : Int32)), (.int (65534 : Int32)), (.int (65535 : Int32)), (.int (65536 : Int32)), (.int (1114111 : Int32)), (.int (1114112 : Int32)), (.int (-2147483648 : Int32)), (.int (2147483647 : Int32))] (.int (0 : Int32)) := Arv.set Ar65 qa65 Sa65 Na65 Ha65 Ga65 rfl W66 21 rfl (Nat.le_of_ble_eq_true rfl)
  have N66 := Fr.snoc X66 N63 ge_b1
  have Z66 : n0 ≤ h66.size := Nat.le_trans Z63 (Keep.of_wr W66).1
  obtain ⟨cl68, Ar68, qa68, Sa68, Na68, Ha68, Ga68⟩ := id V66
  have hin68 : ¬ (((u1 &&& (2147483647 : Int32)) % (22 : Int32)) < 0 ∨ cl68.slots.size ≤ (((u1 &&& (2147483647 : Int32)) % (22 : Int32))).toNatClampNeg) := inb_of Sa68 (own_idx _)
  obtain ⟨wv, ewv⟩ : ∃ z : Int32, z = ([(0 : Int32), (8 : Int32), (9 : Int32), (10 : Int32), (11 : Int32), (12 : Int32), (13 : Int32), (14 : Int32), (31 : Int32), (32 : Int32), (55295 : Int32), (55296 : Int32), (57343 : Int32), (57344 : Int32), (65533 : Int32), (65534 : Int32), (65535 : Int32), (65536 : Int32), (1114111 : Int32), (1114112 : Int32), (-2147483648 : Int32), (2147483647 : Int32)] : List Int32).getD (((u1 &&& (2147483647 : Int32)) % (22 : Int32))).toNatClampNeg 0 := ⟨_, rfl⟩
  obtain ⟨_, _, ⟨T69, L69, k69, n69⟩, -, X69, ⟨Lc69, hQ69, l69, y69, z69⟩, st69⟩ := Jvm.LawKit.callS X66 hx (y := (⟨"com/example/agouti/agouti/xdm/XmlChars", "isXmlChar", "(I)Z"⟩ : MethodName)) hown (mvT hZ (hw _ (List.mem_of_getElem? (i := 13) rfl))) (mvT hZ (hw _ (List.mem_of_getElem? (i := 14) rfl))) (mvT hZ (hw _ (List.mem_of_getElem? (i := 15) rfl))) (mvT hZ (hw _ (List.mem_of_getElem? (i := 16) rfl))) (by decide) (backOf (W := 0) (rm1 l Z a0 hw [] u0 h66 n0 Z66) hZ (hw _ (List.mem_of_getElem? (i := 16) rfl)) (hw _ (List.mem_of_getElem? (i := 15) rfl)) (by decide) (by decide)) (g := (mkF m 159 #[iv u0, iv u1, iv u2, rv b1, iv ((u1 &&& (2147483647 : Int32)) % (22 : Int32)), iv (((u2 &&& (2147483647 : Int32)) % (5 : Int32)) - (2 : Int32)), iv (wv + (((u2 &&& (2147483647 : Int32)) % (5 : Int32)) - (2 : Int32))), .unset, .unset] [(.int u0)])) rfl (by rw [hml]; rfl) (argsL := [(.int u0)]) (rest := []) (lenOf pd_0 rfl) rfl (by show 2 * 0 + _ ≤ _; exact Nat.le_of_eq rfl) (hb hby at_159) (fun _ _ => ⟨rfl, e66, (by decide : 1 + 0 ≤ _), (by decide : 22 + 0 ≤ _)⟩)
  dsimp only [Pt.U, Pt.locs, Pt.cells, Pt.slots] at X69 l69 y69 z69 st69 hQ69
  subst y69 z69
  obtain ⟨rfl, Nq69, eq69⟩ := hQ69
  have N69 : Fr n0 L69 := by rw [l69]; exact Fr.app N66 Nq69
  obtain ⟨_, _, ⟨T70, L70, k70, n70⟩, -, X70, ⟨Lc70, hQ70, l70, y70, z70⟩, st70⟩ := Jvm.LawKit.callS X69 hx (y := (⟨"com/example/agouti/agouti/xdm/XmlCharsIsXmlCharPinLaw", "ref", "(I)Z"⟩ : MethodName)) hown (mvT hZ (hw _ (List.mem_of_getElem? (i := 19) rfl))) (mvT hZ (hw _ (List.mem_of_getElem? (i := 20) rfl))) (mvT hZ (hw _ (List.mem_of_getElem? (i := 21) rfl))) (mvT hZ (hw _ (List.mem_of_getElem? (i := 22) rfl))) (by decide) (backOf (W := 1) (rm2 l Z a0 hw [] u0 h66 n0 Z66) hZ (hw _ (List.mem_of_getElem? (i := 22) rfl)) (hw _ (List.mem_of_getElem? (i := 21) rfl)) (by decide) (by decide)) (g := (mkF m 163 #[iv u0, iv u1, iv u2, rv b1, iv ((u1 &&& (2147483647 : Int32)) % (22 : Int32)), iv (((u2 &&& (2147483647 : Int32)) % (5 : Int32)) - (2 : Int32)), iv (wv + (((u2 &&& (2147483647 : Int32)) % (5 : Int32)) - (2 : Int32))), .unset, .unset] [(.int u0), (.int (own_f1 u0))])) rfl (by rw [hml]; rfl) (argsL := [(.int u0)]) (rest := [(.int (own_f1 u0))]) (lenOf pd_0 rfl) rfl (by show 2 * 0 + _ ≤ _; exact Nat.le_of_eq rfl) (hb hby at_163) (fun _ _ => ⟨rfl, eq69, (by decide : 1 + 0 ≤ _), (by decide : 22 + 0 ≤ _)⟩)
  dsimp only [Pt.U, Pt.locs, Pt.cells, Pt.slots] at X70 l70 y70 z70 st70 hQ70
  subst y70 z70
  obtain ⟨rfl, Nq70, eq70⟩ := hQ70
  have N70 : Fr n0 L70 := by rw [l70]; exact Fr.app N69 Nq70
  obtain ⟨_, _, ⟨T71, L71, k71, n71⟩, -, X71, ⟨Lc71, hQ71, l71, y71, z71⟩, st71⟩ := Jvm.LawKit.callS X70 hx (y := (⟨"com/example/agouti/agouti/xdm/XmlChars", "isXmlChar", "(I)Z"⟩ : MethodName)) hown (mvT hZ (hw _ (List.mem_of_getElem? (i := 13) rfl))) (mvT hZ (hw _ (List.mem_of_getElem? (i := 14) rfl))) (mvT hZ (hw _ (List.mem_of_getElem? (i := 15) rfl))) (mvT hZ (hw _ (List.mem_of_getElem? (i := 16) rfl))) (by decide) (backOf (W := 0) (rm1 l Z a0 hw [] (wv + (((u2 &&& (2147483647 : Int32)) % (5 : Int32)) - (2 : Int32))) h66 n0 Z66) hZ (hw _ (List.mem_of_getElem? (i := 16) rfl)) (hw _ (List.mem_of_getElem? (i := 15) rfl)) (by decide) (by decide)) (g := (mkF m 178 #[iv u0, iv u1, iv u2, rv b1, iv ((u1 &&& (2147483647 : Int32)) % (22 : Int32)), iv (((u2 &&& (2147483647 : Int32)) % (5 : Int32)) - (2 : Int32)), iv (wv + (((u2 &&& (2147483647 : Int32)) % (5 : Int32)) - (2 : Int32))), iv (1 : Int32), .unset] [(.int (wv + (((u2 &&& (2147483647 : Int32)) % (5 : Int32)) - (2 : Int32))))])) rfl (by rw [hml]; rfl) (argsL := [(.int (wv + (((u2 &&& (2147483647 : Int32)) % (5 : Int32)) - (2 : Int32))))]) (rest := []) (lenOf pd_0 rfl) rfl (by show 2 * 0 + _ ≤ _; exact Nat.le_of_eq rfl) (hb hby at_178) (fun _ _ => ⟨rfl, eq70, (by decide : 1 + 0 ≤ _), (by decide : 22 + 0 ≤ _)⟩)
  dsimp only [Pt.U, Pt.locs, Pt.cells, Pt.slots] at X71 l71 y71 z71 st71 hQ71
  subst y71 z71
  obtain ⟨rfl, Nq71, eq71⟩ := hQ71
  have N71 : Fr n0 L71 := by rw [l71]; exact Fr.app N70 Nq71
  obtain ⟨_, _, ⟨T72, L72, k72, n72⟩, -, X72, ⟨Lc72, hQ72, l72, y72, z72⟩, st72⟩ := Jvm.LawKit.callS X71 hx (y := (⟨"com/example/agouti/agouti/xdm/XmlCharsIsXmlCharPinLaw", "ref", "(I)Z"⟩ : MethodName)) hown (mvT hZ (hw _ (List.mem_of_getElem? (i := 19) rfl))) (mvT hZ (hw _ (List.mem_of_getElem? (i := 20) rfl))) (mvT hZ (hw _ (List.mem_of_getElem? (i := 21) rfl))) (mvT hZ (hw _ (List.mem_of_getElem? (i := 22) rfl))) (by decide) (backOf (W := 1) (rm2 l Z a0 hw [] (wv + (((u2 &&& (2147483647 : Int32)) % (5 : Int32)) - (2 : Int32))) h66 n0 Z66) hZ (hw _ (List.mem_of_getElem? (i := 22) rfl)) (hw _ (List.mem_of_getElem? (i := 21) rfl)) (by decide) (by decide)) (g := (mkF m 183 #[iv u0, iv u1, iv u2, rv b1, iv ((u1 &&& (2147483647 : Int32)) % (22 : Int32)), iv (((u2 &&& (2147483647 : Int32)) % (5 : Int32)) - (2 : Int32)), iv (wv + (((u2 &&& (2147483647 : Int32)) % (5 : Int32)) - (2 : Int32))), iv (1 : Int32), .unset] [(.int (wv + (((u2 &&& (2147483647 : Int32)) % (5 : Int32)) - (2 : Int32)))), (.int (own_f1 (wv + (((u2 &&& (2147483647 : Int32)) % (5 : Int32)) - (2 : Int32)))))])) rfl (by rw [hml]; rfl) (argsL := [(.int (wv + (((u2 &&& (2147483647 : Int32)) % (5 : Int32)) - (2 : Int32))))]) (rest := [(.int (own_f1 (wv + (((u2 &&& (2147483647 : Int32)) % (5 : Int32)) - (2 : Int32)))))]) (lenOf pd_0 rfl) rfl (by show 2 * 0 + _ ≤ _; exact Nat.le_of_eq rfl) (hb hby at_183) (fun _ _ => ⟨rfl, eq71, (by decide : 1 + 0 ≤ _), (by decide : 22 + 0 ≤ _)⟩)
  dsimp only [Pt.U, Pt.locs, Pt.cells, Pt.slots] at X72 l72 y72 z72 st72 hQ72
  subst y72 z72
  obtain ⟨rfl, Nq72, eq72⟩ := hQ72
  have N72 : Fr n0 L72 := by rw [l72]; exact Fr.app N71 Nq72
  obtain ⟨fs, hr, hrun, hended, hW, hsame⟩ := X72.leave (v := some (.int (1 : Int32))) (fun h => by rw [Bd.returns] at h; cases h)
  refine ⟨_, _, S0 _ ?_, hrun, hended, _, _, rfl, ?_, ⟨_, rfl⟩, hW, hsame.mono (by decide) (by decide)⟩
  · skip
    show Steps p.tables e below (s₁.setTop (mkF m 0 #[iv u0, iv u1, iv u2, .unset, .unset, .unset, .unset, .unset, .unset] [])) _
    refine XS.bipush X0.here hx rfl (hb hby at_0) ?_
    show Steps p.tables e below (s₁.setTop (mkF m 2 #[iv u0, iv u1, iv u2, .unset, .unset, .unset, .unset, .unset, .unset] [(.int (22 : Int32))])) _
    refine st1 _ ?_
    show Steps p.tables e below (T1.setTop (mkF m 4 #[iv u0, iv u1, iv u2, .unset, .unset, .unset, .unset, .unset, .unset] [(.ref b1)])) _
    refine XS.dup X1.here hx rfl (hb hby at_4) rfl rfl ?_
    show Steps p.tables e below (T1.setTop (mkF m 5 #[iv u0, iv u1, iv u2, .unset, .unset, .unset, .unset, .unset, .unset] [(.ref b1), (.ref b1)])) _
    refine XS.iconst X1.here hx rfl (hb hby at_5) ?_
    show Steps p.tables e below (T1.setTop (mkF m 6 #[iv u0, iv u1, iv u2, .unset, .unset, .unset, .unset, .unset, .unset] [(.int (0 : Int32)), (.ref b1), (.ref b1)])) _
    refine XS.iconst X1.here hx rfl (hb hby at_6) ?_
    show Steps p.tables e below (T1.setTop (mkF m 7 #[iv u0, iv u1, iv u2, .unset, .unset, .unset, .unset, .unset, .unset] [(.int (0 : Int32)), (.int (0 : Int32)), (.ref b1), (.ref b1)])) _
    refine st3 _ ?_
    show Steps p.tables e below (T3.setTop (mkF m 8 #[iv u0, iv u1, iv u2, .unset, .unset, .unset, .unset, .unset, .unset] [(.ref b1)])) _
    refine XS.dup X3.here hx rfl (hb hby at_8) rfl rfl ?_
    show Steps p.tables e below (T3.setTop (mkF m 9 #[iv u0, iv u1, iv u2, .unset, .unset, .unset, .unset, .unset, .unset] [(.ref b1), (.ref b1)])) _
    refine XS.iconst X3.here hx rfl (hb hby at_9) ?_
    show Steps p.tables e below (T3.setTop (mkF m 10 #[iv u0, iv u1, iv u2, .unset, .unset, .unset, .unset, .unset, .unset] [(.int (1 : Int32)), (.ref b1), (.ref b1)])) _
    refine XS.bipush X3.here hx rfl (hb hby at_10) ?_
    show Steps p.tables e below (T3.setTop (mkF m 12 #[iv u0, iv u1, iv u2, .unset, .unset, .unset, .unset, .unset, .unset] [(.int (8 : Int32)), (.int (1 : Int32)), (.ref b1), (.ref b1)])) _
    refine st6 _ ?_
    show Steps p.tables e below (T6.setTop (mkF m 13 #[iv u0, iv u1, iv u2, .unset, .unset, .unset, .unset, .unset, .unset] [(.ref b1)])) _
    refine XS.dup X6.here hx rfl (hb hby at_13) rfl rfl ?_
    show Steps p.tables e below (T6.setTop (mkF m 14 #[iv u0, iv u1, iv u2, .unset, .unset, .unset, .unset, .unset, .unset] [(.ref b1), (.ref b1)])) _
    refine XS.iconst X6.here hx rfl (hb hby at_14) ?_
    show Steps p.tables e below (T6.setTop (mkF m 15 #[iv u0, iv u1, iv u2, .unset, .unset, .unset, .unset, .unset, .unset] [(.int (2 : Int32)), (.ref b1), (.ref b1)])) _
    refine XS.bipush X6.here hx rfl (hb hby at_15) ?_
    show Steps p.tables e below (T6.setTop (mkF m 17 #[iv u0, iv u1, iv u2, .unset, .unset, .unset, .unset, .unset, .unset] [(.int (9 : Int32)), (.int (2 : Int32)), (.ref b1), (.ref b1)])) _
    refine st9 _ ?_
    show Steps p.tables e below (T9.setTop (mkF m 18 #[iv u0, iv u1, iv u2, .unset, .unset, .unset, .unset, .unset, .unset] [(.ref b1)])) _
    refine XS.dup X9.here hx rfl (hb hby at_18) rfl rfl ?_
    show Steps p.tables e below (T9.setTop (mkF m 19 #[iv u0, iv u1, iv u2, .unset, .unset, .unset, .unset, .unset, .unset] [(.ref b1), (.ref b1)])) _
    refine XS.iconst X9.here hx rfl (hb hby at_19) ?_
    show Steps p.tables e below (T9.setTop (mkF m 20 #[iv u0, iv u1, iv u2, .unset, .unset, .unset, .unset, .unset, .unset] [(.int (3 : Int32)), (.ref b1), (.ref b1)])) _
    refine XS.bipush X9.here hx rfl (hb hby at_20) ?_
    show Steps p.tables e below (T9.setTop (mkF m 22 #[iv u0, iv u1, iv u2, .unset, .unset, .unset, .unset, .unset, .unset] [(.int (10 : Int32)), (.int (3 : Int32)), (.ref b1), (.ref b1)])) _
    refine st12 _ ?_
    show Steps p.tables e below (T12.setTop (mkF m 23 #[iv u0, iv u1, iv u2, .unset, .unset, .unset, .unset, .unset, .unset] [(.ref b1)])) _
    refine XS.dup X12.here hx rfl (hb hby at_23) rfl rfl ?_
    show Steps p.tables e below (T12.setTop (mkF m 24 #[iv u0, iv u1, iv u2, .unset, .unset, .unset, .unset, .unset, .unset] [(.ref b1), (.ref b1)])) _
    refine XS.iconst X12.here hx rfl (hb hby at_24) ?_
    show Steps p.tables e below (T12.setTop (mkF m 25 #[iv u0, iv u1, iv u2, .unset, .unset, .unset, .unset, .unset, .unset] [(.int (4 : Int32)), (.ref b1), (.ref b1)])) _
    refine XS.bipush X12.here hx rfl (hb hby at_25) ?_
    show Steps p.tables e below (T12.setTop (mkF m 27 #[iv u0, iv u1, iv u2, .unset, .unset, .unset, .unset, .unset, .unset] [(.int (11 : Int32)), (.int (4 : Int32)), (.ref b1), (.ref b1)])) _
    refine st15 _ ?_
    show Steps p.tables e below (T15.setTop (mkF m 28 #[iv u0, iv u1, iv u2, .unset, .unset, .unset, .unset, .unset, .unset] [(.ref b1)])) _
    refine XS.dup X15.here hx rfl (hb hby at_28) rfl rfl ?_
    show Steps p.tables e below (T15.setTop (mkF m 29 #[iv u0, iv u1, iv u2, .unset, .unset, .unset, .unset, .unset, .unset] [(.ref b1), (.ref b1)])) _
    refine XS.iconst X15.here hx rfl (hb hby at_29) ?_
    show Steps p.tables e below (T15.setTop (mkF m 30 #[iv u0, iv u1, iv u2, .unset, .unset, .unset, .unset, .unset, .unset] [(.int (5 : Int32)), (.ref b1), (.ref b1)])) _
    refine XS.bipush X15.here hx rfl (hb hby at_30) ?_
    show Steps p.tables e below (T15.setTop (mkF m 32 #[iv u0, iv u1, iv u2, .unset, .unset, .unset, .unset, .unset, .unset] [(.int (12 : Int32)), (.int (5 : Int32)), (.ref b1), (.ref b1)])) _
    refine st18 _ ?_
    show Steps p.tables e below (T18.setTop (mkF m 33 #[iv u0, iv u1, iv u2, .unset, .unset, .unset, .unset, .unset, .unset] [(.ref b1)])) _
    refine XS.dup X18.here hx rfl (hb hby at_33) rfl rfl ?_
    show Steps p.tables e below (T18.setTop (mkF m 34 #[iv u0, iv u1, iv u2, .unset, .unset, .unset, .unset, .unset, .unset] [(.ref b1), (.ref b1)])) _
    refine XS.bipush X18.here hx rfl (hb hby at_34) ?_
    show Steps p.tables e below (T18.setTop (mkF m 36 #[iv u0, iv u1, iv u2, .unset, .unset, .unset, .unset, .unset, .unset] [(.int (6 : Int32)), (.ref b1), (.ref b1)])) _
    refine XS.bipush X18.here hx rfl (hb hby at_36) ?_
    show Steps p.tables e below (T18.setTop (mkF m 38 #[iv u0, iv u1, iv u2, .unset, .unset, .unset, .unset, .unset, .unset] [(.int (13 : Int32)), (.int (6 : Int32)), (.ref b1), (.ref b1)])) _
    refine st21 _ ?_
    show Steps p.tables e below (T21.setTop (mkF m 39 #[iv u0, iv u1, iv u2, .unset, .unset, .unset, .unset, .unset, .unset] [(.ref b1)])) _
    refine XS.dup X21.here hx rfl (hb hby at_39) rfl rfl ?_
    show Steps p.tables e below (T21.setTop (mkF m 40 #[iv u0, iv u1, iv u2, .unset, .unset, .unset, .unset, .unset, .unset] [(.ref b1), (.ref b1)])) _
    refine XS.bipush X21.here hx rfl (hb hby at_40) ?_
    show Steps p.tables e below (T21.setTop (mkF m 42 #[iv u0, iv u1, iv u2, .unset, .unset, .unset, .unset, .unset, .unset] [(.int (7 : Int32)), (.ref b1), (.ref b1)])) _
    refine XS.bipush X21.here hx rfl (hb hby at_42) ?_
    show Steps p.tables e below (T21.setTop (mkF m 44 #[iv u0, iv u1, iv u2, .unset, .unset, .unset, .unset, .unset, .unset] [(.int (14 : Int32)), (.int (7 : Int32)), (.ref b1), (.ref b1)])) _
    refine st24 _ ?_
    show Steps p.tables e below (T24.setTop (mkF m 45 #[iv u0, iv u1, iv u2, .unset, .unset, .unset, .unset, .unset, .unset] [(.ref b1)])) _
    refine XS.dup X24.here hx rfl (hb hby at_45) rfl rfl ?_
    show Steps p.tables e below (T24.setTop (mkF m 46 #[iv u0, iv u1, iv u2, .unset, .unset, .unset, .unset, .unset, .unset] [(.ref b1), (.ref b1)])) _
    refine XS.bipush X24.here hx rfl (hb hby at_46) ?_
    show Steps p.tables e below (T24.setTop (mkF m 48 #[iv u0, iv u1, iv u2, .unset, .unset, .unset, .unset, .unset, .unset] [(.int (8 : Int32)), (.ref b1), (.ref b1)])) _
    refine XS.bipush X24.here hx rfl (hb hby at_48) ?_
    show Steps p.tables e below (T24.setTop (mkF m 50 #[iv u0, iv u1, iv u2, .unset, .unset, .unset, .unset, .unset, .unset] [(.int (31 : Int32)), (.int (8 : Int32)), (.ref b1), (.ref b1)])) _
    refine st27 _ ?_
    show Steps p.tables e below (T27.setTop (mkF m 51 #[iv u0, iv u1, iv u2, .unset, .unset, .unset, .unset, .unset, .unset] [(.ref b1)])) _
    refine XS.dup X27.here hx rfl (hb hby at_51) rfl rfl ?_
    show Steps p.tables e below (T27.setTop (mkF m 52 #[iv u0, iv u1, iv u2, .unset, .unset, .unset, .unset, .unset, .unset] [(.ref b1), (.ref b1)])) _
    refine XS.bipush X27.here hx rfl (hb hby at_52) ?_
    show Steps p.tables e below (T27.setTop (mkF m 54 #[iv u0, iv u1, iv u2, .unset, .unset, .unset, .unset, .unset, .unset] [(.int (9 : Int32)), (.ref b1), (.ref b1)])) _
    refine XS.bipush X27.here hx rfl (hb hby at_54) ?_
    show Steps p.tables e below (T27.setTop (mkF m 56 #[iv u0, iv u1, iv u2, .unset, .unset, .unset, .unset, .unset, .unset] [(.int (32 : Int32)), (.int (9 : Int32)), (.ref b1), (.ref b1)])) _
    refine st30 _ ?_
    show Steps p.tables e below (T30.setTop (mkF m 57 #[iv u0, iv u1, iv u2, .unset, .unset, .unset, .unset, .unset, .unset] [(.ref b1)])) _
    refine XS.dup X30.here hx rfl (hb hby at_57) rfl rfl ?_
    show Steps p.tables e below (T30.setTop (mkF m 58 #[iv u0, iv u1, iv u2, .unset, .unset, .unset, .unset, .unset, .unset] [(.ref b1), (.ref b1)])) _
    refine XS.bipush X30.here hx rfl (hb hby at_58) ?_
    show Steps p.tables e below (T30.setTop (mkF m 60 #[iv u0, iv u1, iv u2, .unset, .unset, .unset, .unset, .unset, .unset] [(.int (10 : Int32)), (.ref b1), (.ref b1)])) _
    refine X30.ldcInt hx hown (mvT hZ (hw _ (List.mem_of_getElem? (i := 1) rfl))) (g := (mkF m 60 #[iv u0, iv u1, iv u2, .unset, .unset, .unset, .unset, .unset, .unset] [(.int (10 : Int32)), (.ref b1), (.ref b1)])) rfl (hb hby at_60) _ ?_
    show Steps p.tables e below (T30.setTop (mkF m 62 #[iv u0, iv u1, iv u2, .unset, .unset, .unset, .unset, .unset, .unset] [(.int (55295 : Int32)), (.int (10 : Int32)), (.ref b1), (.ref b1)])) _
    refine st33 _ ?_
    show Steps p.tables e below (T33.setTop (mkF m 63 #[iv u0, iv u1, iv u2, .unset, .unset, .unset, .unset, .unset, .unset] [(.ref b1)])) _
    refine XS.dup X33.here hx rfl (hb hby at_63) rfl rfl ?_
    show Steps p.tables e below (T33.setTop (mkF m 64 #[iv u0, iv u1, iv u2, .unset, .unset, .unset, .unset, .unset, .unset] [(.ref b1), (.ref b1)])) _
    refine XS.bipush X33.here hx rfl (hb hby at_64) ?_
    show Steps p.tables e below (T33.setTop (mkF m 66 #[iv u0, iv u1, iv u2, .unset, .unset, .unset, .unset, .unset, .unset] [(.int (11 : Int32)), (.ref b1), (.ref b1)])) _
    refine X33.ldcInt hx hown (mvT hZ (hw _ (List.mem_of_getElem? (i := 2) rfl))) (g := (mkF m 66 #[iv u0, iv u1, iv u2, .unset, .unset, .unset, .unset, .unset, .unset] [(.int (11 : Int32)), (.ref b1), (.ref b1)])) rfl (hb hby at_66) _ ?_
    show Steps p.tables e below (T33.setTop (mkF m 68 #[iv u0, iv u1, iv u2, .unset, .unset, .unset, .unset, .unset, .unset] [(.int (55296 : Int32)), (.int (11 : Int32)), (.ref b1), (.ref b1)])) _
    refine st36 _ ?_
    show Steps p.tables e below (T36.setTop (mkF m 69 #[iv u0, iv u1, iv u2, .unset, .unset, .unset, .unset, .unset, .unset] [(.ref b1)])) _
    refine XS.dup X36.here hx rfl (hb hby at_69) rfl rfl ?_
    show Steps p.tables e below (T36.setTop (mkF m 70 #[iv u0, iv u1, iv u2, .unset, .unset, .unset, .unset, .unset, .unset] [(.ref b1), (.ref b1)])) _
    refine XS.bipush X36.here hx rfl (hb hby at_70) ?_
    show Steps p.tables e below (T36.setTop (mkF m 72 #[iv u0, iv u1, iv u2, .unset, .unset, .unset, .unset, .unset, .unset] [(.int (12 : Int32)), (.ref b1), (.ref b1)])) _
    refine X36.ldcInt hx hown (mvT hZ (hw _ (List.mem_of_getElem? (i := 3) rfl))) (g := (mkF m 72 #[iv u0, iv u1, iv u2, .unset, .unset, .unset, .unset, .unset, .unset] [(.int (12 : Int32)), (.ref b1), (.ref b1)])) rfl (hb hby at_72) _ ?_
    show Steps p.tables e below (T36.setTop (mkF m 74 #[iv u0, iv u1, iv u2, .unset, .unset, .unset, .unset, .unset, .unset] [(.int (57343 : Int32)), (.int (12 : Int32)), (.ref b1), (.ref b1)])) _
    refine st39 _ ?_
    show Steps p.tables e below (T39.setTop (mkF m 75 #[iv u0, iv u1, iv u2, .unset, .unset, .unset, .unset, .unset, .unset] [(.ref b1)])) _
    refine XS.dup X39.here hx rfl (hb hby at_75) rfl rfl ?_
    show Steps p.tables e below (T39.setTop (mkF m 76 #[iv u0, iv u1, iv u2, .unset, .unset, .unset, .unset, .unset, .unset] [(.ref b1), (.ref b1)])) _
    refine XS.bipush X39.here hx rfl (hb hby at_76) ?_
    show Steps p.tables e below (T39.setTop (mkF m 78 #[iv u0, iv u1, iv u2, .unset, .unset, .unset, .unset, .unset, .unset] [(.int (13 : Int32)), (.ref b1), (.ref b1)])) _
    refine X39.ldcInt hx hown (mvT hZ (hw _ (List.mem_of_getElem? (i := 4) rfl))) (g := (mkF m 78 #[iv u0, iv u1, iv u2, .unset, .unset, .unset, .unset, .unset, .unset] [(.int (13 : Int32)), (.ref b1), (.ref b1)])) rfl (hb hby at_78) _ ?_
    show Steps p.tables e below (T39.setTop (mkF m 80 #[iv u0, iv u1, iv u2, .unset, .unset, .unset, .unset, .unset, .unset] [(.int (57344 : Int32)), (.int (13 : Int32)), (.ref b1), (.ref b1)])) _
    refine st42 _ ?_
    show Steps p.tables e below (T42.setTop (mkF m 81 #[iv u0, iv u1, iv u2, .unset, .unset, .unset, .unset, .unset, .unset] [(.ref b1)])) _
    refine XS.dup X42.here hx rfl (hb hby at_81) rfl rfl ?_
    show Steps p.tables e below (T42.setTop (mkF m 82 #[iv u0, iv u1, iv u2, .unset, .unset, .unset, .unset, .unset, .unset] [(.ref b1), (.ref b1)])) _
    refine XS.bipush X42.here hx rfl (hb hby at_82) ?_
    show Steps p.tables e below (T42.setTop (mkF m 84 #[iv u0, iv u1, iv u2, .unset, .unset, .unset, .unset, .unset, .unset] [(.int (14 : Int32)), (.ref b1), (.ref b1)])) _
    refine X42.ldcInt hx hown (mvT hZ (hw _ (List.mem_of_getElem? (i := 5) rfl))) (g := (mkF m 84 #[iv u0, iv u1, iv u2, .unset, .unset, .unset, .unset, .unset, .unset] [(.int (14 : Int32)), (.ref b1), (.ref b1)])) rfl (hb hby at_84) _ ?_
    show Steps p.tables e below (T42.setTop (mkF m 86 #[iv u0, iv u1, iv u2, .unset, .unset, .unset, .unset, .unset, .unset] [(.int (65533 : Int32)), (.int (14 : Int32)), (.ref b1), (.ref b1)])) _
    refine st45 _ ?_
    show Steps p.tables e below (T45.setTop (mkF m 87 #[iv u0, iv u1, iv u2, .unset, .unset, .unset, .unset, .unset, .unset] [(.ref b1)])) _
    refine XS.dup X45.here hx rfl (hb hby at_87) rfl rfl ?_
    show Steps p.tables e below (T45.setTop (mkF m 88 #[iv u0, iv u1, iv u2, .unset, .unset, .unset, .unset, .unset, .unset] [(.ref b1), (.ref b1)])) _
    refine XS.bipush X45.here hx rfl (hb hby at_88) ?_
    show Steps p.tables e below (T45.setTop (mkF m 90 #[iv u0, iv u1, iv u2, .unset, .unset, .unset, .unset, .unset, .unset] [(.int (15 : Int32)), (.ref b1), (.ref b1)])) _
    refine X45.ldcInt hx hown (mvT hZ (hw _ (List.mem_of_getElem? (i := 6) rfl))) (g := (mkF m 90 #[iv u0, iv u1, iv u2, .unset, .unset, .unset, .unset, .unset, .unset] [(.int (15 : Int32)), (.ref b1), (.ref b1)])) rfl (hb hby at_90) _ ?_
    show Steps p.tables e below (T45.setTop (mkF m 92 #[iv u0, iv u1, iv u2, .unset, .unset, .unset, .unset, .unset, .unset] [(.int (65534 : Int32)), (.int (15 : Int32)), (.ref b1), (.ref b1)])) _
    refine st48 _ ?_
    show Steps p.tables e below (T48.setTop (mkF m 93 #[iv u0, iv u1, iv u2, .unset, .unset, .unset, .unset, .unset, .unset] [(.ref b1)])) _
    refine XS.dup X48.here hx rfl (hb hby at_93) rfl rfl ?_
    show Steps p.tables e below (T48.setTop (mkF m 94 #[iv u0, iv u1, iv u2, .unset, .unset, .unset, .unset, .unset, .unset] [(.ref b1), (.ref b1)])) _
    refine XS.bipush X48.here hx rfl (hb hby at_94) ?_
    show Steps p.tables e below (T48.setTop (mkF m 96 #[iv u0, iv u1, iv u2, .unset, .unset, .unset, .unset, .unset, .unset] [(.int (16 : Int32)), (.ref b1), (.ref b1)])) _
    refine X48.ldcInt hx hown (mvT hZ (hw _ (List.mem_of_getElem? (i := 7) rfl))) (g := (mkF m 96 #[iv u0, iv u1, iv u2, .unset, .unset, .unset, .unset, .unset, .unset] [(.int (16 : Int32)), (.ref b1), (.ref b1)])) rfl (hb hby at_96) _ ?_
    show Steps p.tables e below (T48.setTop (mkF m 98 #[iv u0, iv u1, iv u2, .unset, .unset, .unset, .unset, .unset, .unset] [(.int (65535 : Int32)), (.int (16 : Int32)), (.ref b1), (.ref b1)])) _
    refine st51 _ ?_
    show Steps p.tables e below (T51.setTop (mkF m 99 #[iv u0, iv u1, iv u2, .unset, .unset, .unset, .unset, .unset, .unset] [(.ref b1)])) _
    refine XS.dup X51.here hx rfl (hb hby at_99) rfl rfl ?_
    show Steps p.tables e below (T51.setTop (mkF m 100 #[iv u0, iv u1, iv u2, .unset, .unset, .unset, .unset, .unset, .unset] [(.ref b1), (.ref b1)])) _
    refine XS.bipush X51.here hx rfl (hb hby at_100) ?_
    show Steps p.tables e below (T51.setTop (mkF m 102 #[iv u0, iv u1, iv u2, .unset, .unset, .unset, .unset, .unset, .unset] [(.int (17 : Int32)), (.ref b1), (.ref b1)])) _
    refine X51.ldcInt hx hown (mvT hZ (hw _ (List.mem_of_getElem? (i := 8) rfl))) (g := (mkF m 102 #[iv u0, iv u1, iv u2, .unset, .unset, .unset, .unset, .unset, .unset] [(.int (17 : Int32)), (.ref b1), (.ref b1)])) rfl (hb hby at_102) _ ?_
    show Steps p.tables e below (T51.setTop (mkF m 104 #[iv u0, iv u1, iv u2, .unset, .unset, .unset, .unset, .unset, .unset] [(.int (65536 : Int32)), (.int (17 : Int32)), (.ref b1), (.ref b1)])) _
    refine st54 _ ?_
    show Steps p.tables e below (T54.setTop (mkF m 105 #[iv u0, iv u1, iv u2, .unset, .unset, .unset, .unset, .unset, .unset] [(.ref b1)])) _
    refine XS.dup X54.here hx rfl (hb hby at_105) rfl rfl ?_
    show Steps p.tables e below (T54.setTop (mkF m 106 #[iv u0, iv u1, iv u2, .unset, .unset, .unset, .unset, .unset, .unset] [(.ref b1), (.ref b1)])) _
    refine XS.bipush X54.here hx rfl (hb hby at_106) ?_
    show Steps p.tables e below (T54.setTop (mkF m 108 #[iv u0, iv u1, iv u2, .unset, .unset, .unset, .unset, .unset, .unset] [(.int (18 : Int32)), (.ref b1), (.ref b1)])) _
    refine X54.ldcInt hx hown (mvT hZ (hw _ (List.mem_of_getElem? (i := 9) rfl))) (g := (mkF m 108 #[iv u0, iv u1, iv u2, .unset, .unset, .unset, .unset, .unset, .unset] [(.int (18 : Int32)), (.ref b1), (.ref b1)])) rfl (hb hby at_108) _ ?_
    show Steps p.tables e below (T54.setTop (mkF m 110 #[iv u0, iv u1, iv u2, .unset, .unset, .unset, .unset, .unset, .unset] [(.int (1114111 : Int32)), (.int (18 : Int32)), (.ref b1), (.ref b1)])) _
    refine st57 _ ?_
    show Steps p.tables e below (T57.setTop (mkF m 111 #[iv u0, iv u1, iv u2, .unset, .unset, .unset, .unset, .unset, .unset] [(.ref b1)])) _
    refine XS.dup X57.here hx rfl (hb hby at_111) rfl rfl ?_
    show Steps p.tables e below (T57.setTop (mkF m 112 #[iv u0, iv u1, iv u2, .unset, .unset, .unset, .unset, .unset, .unset] [(.ref b1), (.ref b1)])) _
    refine XS.bipush X57.here hx rfl (hb hby at_112) ?_
    show Steps p.tables e below (T57.setTop (mkF m 114 #[iv u0, iv u1, iv u2, .unset, .unset, .unset, .unset, .unset, .unset] [(.int (19 : Int32)), (.ref b1), (.ref b1)])) _
    refine X57.ldcInt hx hown (mvT hZ (hw _ (List.mem_of_getElem? (i := 10) rfl))) (g := (mkF m 114 #[iv u0, iv u1, iv u2, .unset, .unset, .unset, .unset, .unset, .unset] [(.int (19 : Int32)), (.ref b1), (.ref b1)])) rfl (hb hby at_114) _ ?_
    show Steps p.tables e below (T57.setTop (mkF m 116 #[iv u0, iv u1, iv u2, .unset, .unset, .unset, .unset, .unset, .unset] [(.int (1114112 : Int32)), (.int (19 : Int32)), (.ref b1), (.ref b1)])) _
    refine st60 _ ?_
    show Steps p.tables e below (T60.setTop (mkF m 117 #[iv u0, iv u1, iv u2, .unset, .unset, .unset, .unset, .unset, .unset] [(.ref b1)])) _
    refine XS.dup X60.here hx rfl (hb hby at_117) rfl rfl ?_
    show Steps p.tables e below (T60.setTop (mkF m 118 #[iv u0, iv u1, iv u2, .unset, .unset, .unset, .unset, .unset, .unset] [(.ref b1), (.ref b1)])) _
    refine XS.bipush X60.here hx rfl (hb hby at_118) ?_
    show Steps p.tables e below (T60.setTop (mkF m 120 #[iv u0, iv u1, iv u2, .unset, .unset, .unset, .unset, .unset, .unset] [(.int (20 : Int32)), (.ref b1), (.ref b1)])) _
    refine X60.ldcInt hx hown (mvT hZ (hw _ (List.mem_of_getElem? (i := 11) rfl))) (g := (mkF m 120 #[iv u0, iv u1, iv u2, .unset, .unset, .unset, .unset, .unset, .unset] [(.int (20 : Int32)), (.ref b1), (.ref b1)])) rfl (hb hby at_120) _ ?_
    show Steps p.tables e below (T60.setTop (mkF m 122 #[iv u0, iv u1, iv u2, .unset, .unset, .unset, .unset, .unset, .unset] [(.int (-2147483648 : Int32)), (.int (20 : Int32)), (.ref b1), (.ref b1)])) _
    refine st63 _ ?_
    show Steps p.tables e below (T63.setTop (mkF m 123 #[iv u0, iv u1, iv u2, .unset, .unset, .unset, .unset, .unset, .unset] [(.ref b1)])) _
    refine XS.dup X63.here hx rfl (hb hby at_123) rfl rfl ?_
    show Steps p.tables e below (T63.setTop (mkF m 124 #[iv u0, iv u1, iv u2, .unset, .unset, .unset, .unset, .unset, .unset] [(.ref b1), (.ref b1)])) _
    refine XS.bipush X63.here hx rfl (hb hby at_124) ?_
    show Steps p.tables e below (T63.setTop (mkF m 126 #[iv u0, iv u1, iv u2, .unset, .unset, .unset, .unset, .unset, .unset] [(.int (21 : Int32)), (.ref b1), (.ref b1)])) _
    refine X63.ldcInt hx hown (mvT hZ (hw _ (List.mem_of_getElem? (i := 12) rfl))) (g := (mkF m 126 #[iv u0, iv u1, iv u2, .unset, .unset, .unset, .unset, .unset, .unset] [(.int (21 : Int32)), (.ref b1), (.ref b1)])) rfl (hb hby at_126) _ ?_
    show Steps p.tables e below (T63.setTop (mkF m 128 #[iv u0, iv u1, iv u2, .unset, .unset, .unset, .unset, .unset, .unset] [(.int (2147483647 : Int32)), (.int (21 : Int32)), (.ref b1), (.ref b1)])) _
    refine st66 _ ?_
    show Steps p.tables e below (T66.setTop (mkF m 129 #[iv u0, iv u1, iv u2, .unset, .unset, .unset, .unset, .unset, .unset] [(.ref b1)])) _
    refine XS.astoreN X66.here hx rfl (hb hby at_129) rfl rfl (l' := #[iv u0, iv u1, iv u2, rv b1, .unset, .unset, .unset, .unset, .unset]) rfl ?_
    show Steps p.tables e below (T66.setTop (mkF m 130 #[iv u0, iv u1, iv u2, rv b1, .unset, .unset, .unset, .unset, .unset] [])) _
    refine XS.iloadN X66.here hx rfl (hb hby at_130) rfl ?_
    show Steps p.tables e below (T66.setTop (mkF m 131 #[iv u0, iv u1, iv u2, rv b1, .unset, .unset, .unset, .unset, .unset] [(.int u1)])) _
    refine X66.ldcInt hx hown (mvT hZ (hw _ (List.mem_of_getElem? (i := 12) rfl))) (g := (mkF m 131 #[iv u0, iv u1, iv u2, rv b1, .unset, .unset, .unset, .unset, .unset] [(.int u1)])) rfl (hb hby at_131) _ ?_
    show Steps p.tables e below (T66.setTop (mkF m 133 #[iv u0, iv u1, iv u2, rv b1, .unset, .unset, .unset, .unset, .unset] [(.int (2147483647 : Int32)), (.int u1)])) _
    refine XS.iand X66.here hx rfl (hb hby at_133) rfl ?_
    show Steps p.tables e below (T66.setTop (mkF m 134 #[iv u0, iv u1, iv u2, rv b1, .unset, .unset, .unset, .unset, .unset] [(.int (u1 &&& (2147483647 : Int32)))])) _
    refine XS.bipush X66.here hx rfl (hb hby at_134) ?_
    show Steps p.tables e below (T66.setTop (mkF m 136 #[iv u0, iv u1, iv u2, rv b1, .unset, .unset, .unset, .unset, .unset] [(.int (22 : Int32)), (.int (u1 &&& (2147483647 : Int32)))])) _
    refine iremM X66 hx rfl (hb hby at_136) rfl (by decide) ?_
    show Steps p.tables e below (T66.setTop (mkF m 137 #[iv u0, iv u1, iv u2, rv b1, .unset, .unset, .unset, .unset, .unset] [(.int ((u1 &&& (2147483647 : Int32)) % (22 : Int32)))])) _
    refine XS.istore X66.here hx rfl (hb hby at_137) rfl (l' := #[iv u0, iv u1, iv u2, rv b1, iv ((u1 &&& (2147483647 : Int32)) % (22 : Int32)), .unset, .unset, .unset, .unset]) rfl ?_
    show Steps p.tables e below (T66.setTop (mkF m 139 #[iv u0, iv u1, iv u2, rv b1, iv ((u1 &&& (2147483647 : Int32)) % (22 : Int32)), .unset, .unset, .unset, .unset] [])) _
    refine XS.iloadN X66.here hx rfl (hb hby at_139) rfl ?_
    show Steps p.tables e below (T66.setTop (mkF m 140 #[iv u0, iv u1, iv u2, rv b1, iv ((u1 &&& (2147483647 : Int32)) % (22 : Int32)), .unset, .unset, .unset, .unset] [(.int u2)])) _
    refine X66.ldcInt hx hown (mvT hZ (hw _ (List.mem_of_getElem? (i := 12) rfl))) (g := (mkF m 140 #[iv u0, iv u1, iv u2, rv b1, iv ((u1 &&& (2147483647 : Int32)) % (22 : Int32)), .unset, .unset, .unset, .unset] [(.int u2)])) rfl (hb hby at_140) _ ?_
    show Steps p.tables e below (T66.setTop (mkF m 142 #[iv u0, iv u1, iv u2, rv b1, iv ((u1 &&& (2147483647 : Int32)) % (22 : Int32)), .unset, .unset, .unset, .unset] [(.int (2147483647 : Int32)), (.int u2)])) _
    refine XS.iand X66.here hx rfl (hb hby at_142) rfl ?_
    show Steps p.tables e below (T66.setTop (mkF m 143 #[iv u0, iv u1, iv u2, rv b1, iv ((u1 &&& (2147483647 : Int32)) % (22 : Int32)), .unset, .unset, .unset, .unset] [(.int (u2 &&& (2147483647 : Int32)))])) _
    refine XS.iconst X66.here hx rfl (hb hby at_143) ?_
    show Steps p.tables e below (T66.setTop (mkF m 144 #[iv u0, iv u1, iv u2, rv b1, iv ((u1 &&& (2147483647 : Int32)) % (22 : Int32)), .unset, .unset, .unset, .unset] [(.int (5 : Int32)), (.int (u2 &&& (2147483647 : Int32)))])) _
    refine iremM X66 hx rfl (hb hby at_144) rfl (by decide) ?_
    show Steps p.tables e below (T66.setTop (mkF m 145 #[iv u0, iv u1, iv u2, rv b1, iv ((u1 &&& (2147483647 : Int32)) % (22 : Int32)), .unset, .unset, .unset, .unset] [(.int ((u2 &&& (2147483647 : Int32)) % (5 : Int32)))])) _
    refine XS.iconst X66.here hx rfl (hb hby at_145) ?_
    show Steps p.tables e below (T66.setTop (mkF m 146 #[iv u0, iv u1, iv u2, rv b1, iv ((u1 &&& (2147483647 : Int32)) % (22 : Int32)), .unset, .unset, .unset, .unset] [(.int (2 : Int32)), (.int ((u2 &&& (2147483647 : Int32)) % (5 : Int32)))])) _
    refine XS.isub X66.here hx rfl (hb hby at_146) rfl ?_
    show Steps p.tables e below (T66.setTop (mkF m 147 #[iv u0, iv u1, iv u2, rv b1, iv ((u1 &&& (2147483647 : Int32)) % (22 : Int32)), .unset, .unset, .unset, .unset] [(.int (((u2 &&& (2147483647 : Int32)) % (5 : Int32)) - (2 : Int32)))])) _
    refine XS.istore X66.here hx rfl (hb hby at_147) rfl (l' := #[iv u0, iv u1, iv u2, rv b1, iv ((u1 &&& (2147483647 : Int32)) % (22 : Int32)), iv (((u2 &&& (2147483647 : Int32)) % (5 : Int32)) - (2 : Int32)), .unset, .unset, .unset]) rfl ?_
    show Steps p.tables e below (T66.setTop (mkF m 149 #[iv u0, iv u1, iv u2, rv b1, iv ((u1 &&& (2147483647 : Int32)) % (22 : Int32)), iv (((u2 &&& (2147483647 : Int32)) % (5 : Int32)) - (2 : Int32)), .unset, .unset, .unset] [])) _
    refine XS.aloadN X66.here hx rfl (hb hby at_149) rfl rfl ?_
    show Steps p.tables e below (T66.setTop (mkF m 150 #[iv u0, iv u1, iv u2, rv b1, iv ((u1 &&& (2147483647 : Int32)) % (22 : Int32)), iv (((u2 &&& (2147483647 : Int32)) % (5 : Int32)) - (2 : Int32)), .unset, .unset, .unset] [(.ref b1)])) _
    refine XS.iload X66.here hx rfl (hb hby at_150) rfl ?_
    show Steps p.tables e below (T66.setTop (mkF m 152 #[iv u0, iv u1, iv u2, rv b1, iv ((u1 &&& (2147483647 : Int32)) % (22 : Int32)), iv (((u2 &&& (2147483647 : Int32)) % (5 : Int32)) - (2 : Int32)), .unset, .unset, .unset] [(.int ((u1 &&& (2147483647 : Int32)) % (22 : Int32))), (.ref b1)])) _
    refine X66.iaload hx (j := ((u1 &&& (2147483647 : Int32)) % (22 : Int32))) (v := (.int wv)) (by rw [e66]; exact Ar68.1) (State.isArrayOf_alike hZ.alike Ar68.2.1) Ar68.2.2 hin68 (Has.at Ha68 hin68 ((own_getint [(0 : Int32), (8 : Int32), (9 : Int32), (10 : Int32), (11 : Int32), (12 : Int32), (13 : Int32), (14 : Int32), (31 : Int32), (32 : Int32), (55295 : Int32), (55296 : Int32), (57343 : Int32), (57344 : Int32), (65533 : Int32), (65534 : Int32), (65535 : Int32), (65536 : Int32), (1114111 : Int32), (1114112 : Int32), (-2147483648 : Int32), (2147483647 : Int32)] _).trans (congrArg Value.int ewv.symm))) (g := (mkF m 152 #[iv u0, iv u1, iv u2, rv b1, iv ((u1 &&& (2147483647 : Int32)) % (22 : Int32)), iv (((u2 &&& (2147483647 : Int32)) % (5 : Int32)) - (2 : Int32)), .unset, .unset, .unset] [(.int ((u1 &&& (2147483647 : Int32)) % (22 : Int32))), (.ref b1)])) rfl rfl (hb hby at_152) _ ?_
    show Steps p.tables e below (T66.setTop (mkF m 153 #[iv u0, iv u1, iv u2, rv b1, iv ((u1 &&& (2147483647 : Int32)) % (22 : Int32)), iv (((u2 &&& (2147483647 : Int32)) % (5 : Int32)) - (2 : Int32)), .unset, .unset, .unset] [(.int wv)])) _
    refine XS.iload X66.here hx rfl (hb hby at_153) rfl ?_
    show Steps p.tables e below (T66.setTop (mkF m 155 #[iv u0, iv u1, iv u2, rv b1, iv ((u1 &&& (2147483647 : Int32)) % (22 : Int32)), iv (((u2 &&& (2147483647 : Int32)) % (5 : Int32)) - (2 : Int32)), .unset, .unset, .unset] [(.int (((u2 &&& (2147483647 : Int32)) % (5 : Int32)) - (2 : Int32))), (.int wv)])) _
    refine XS.iadd X66.here hx rfl (hb hby at_155) rfl ?_
    show Steps p.tables e below (T66.setTop (mkF m 156 #[iv u0, iv u1, iv u2, rv b1, iv ((u1 &&& (2147483647 : Int32)) % (22 : Int32)), iv (((u2 &&& (2147483647 : Int32)) % (5 : Int32)) - (2 : Int32)), .unset, .unset, .unset] [(.int (wv + (((u2 &&& (2147483647 : Int32)) % (5 : Int32)) - (2 : Int32))))])) _
    refine XS.istore X66.here hx rfl (hb hby at_156) rfl (l' := #[iv u0, iv u1, iv u2, rv b1, iv ((u1 &&& (2147483647 : Int32)) % (22 : Int32)), iv (((u2 &&& (2147483647 : Int32)) % (5 : Int32)) - (2 : Int32)), iv (wv + (((u2 &&& (2147483647 : Int32)) % (5 : Int32)) - (2 : Int32))), .unset, .unset]) rfl ?_
    show Steps p.tables e below (T66.setTop (mkF m 158 #[iv u0, iv u1, iv u2, rv b1, iv ((u1 &&& (2147483647 : Int32)) % (22 : Int32)), iv (((u2 &&& (2147483647 : Int32)) % (5 : Int32)) - (2 : Int32)), iv (wv + (((u2 &&& (2147483647 : Int32)) % (5 : Int32)) - (2 : Int32))), .unset, .unset] [])) _
    refine XS.iloadN X66.here hx rfl (hb hby at_158) rfl ?_
    show Steps p.tables e below (T66.setTop (mkF m 159 #[iv u0, iv u1, iv u2, rv b1, iv ((u1 &&& (2147483647 : Int32)) % (22 : Int32)), iv (((u2 &&& (2147483647 : Int32)) % (5 : Int32)) - (2 : Int32)), iv (wv + (((u2 &&& (2147483647 : Int32)) % (5 : Int32)) - (2 : Int32))), .unset, .unset] [(.int u0)])) _
    refine st69 _ ?_
    show Steps p.tables e below (T69.setTop (mkF m 162 #[iv u0, iv u1, iv u2, rv b1, iv ((u1 &&& (2147483647 : Int32)) % (22 : Int32)), iv (((u2 &&& (2147483647 : Int32)) % (5 : Int32)) - (2 : Int32)), iv (wv + (((u2 &&& (2147483647 : Int32)) % (5 : Int32)) - (2 : Int32))), .unset, .unset] [(.int (own_f1 u0))])) _
    refine XS.iloadN X69.here hx rfl (hb hby at_162) rfl ?_
    show Steps p.tables e below (T69.setTop (mkF m 163 #[iv u0, iv u1, iv u2, rv b1, iv ((u1 &&& (2147483647 : Int32)) % (22 : Int32)), iv (((u2 &&& (2147483647 : Int32)) % (5 : Int32)) - (2 : Int32)), iv (wv + (((u2 &&& (2147483647 : Int32)) % (5 : Int32)) - (2 : Int32))), .unset, .unset] [(.int u0), (.int (own_f1 u0))])) _
    refine st70 _ ?_
    show Steps p.tables e below (T70.setTop (mkF m 166 #[iv u0, iv u1, iv u2, rv b1, iv ((u1 &&& (2147483647 : Int32)) % (22 : Int32)), iv (((u2 &&& (2147483647 : Int32)) % (5 : Int32)) - (2 : Int32)), iv (wv + (((u2 &&& (2147483647 : Int32)) % (5 : Int32)) - (2 : Int32))), .unset, .unset] [(.int (own_f2 u0)), (.int (own_f1 u0))])) _
    refine XS.icmpNo X70.here hx rfl (hb hby at_166) rfl (teq (own_plain _)).2 ?_
    show Steps p.tables e below (T70.setTop (mkF m 169 #[iv u0, iv u1, iv u2, rv b1, iv ((u1 &&& (2147483647 : Int32)) % (22 : Int32)), iv (((u2 &&& (2147483647 : Int32)) % (5 : Int32)) - (2 : Int32)), iv (wv + (((u2 &&& (2147483647 : Int32)) % (5 : Int32)) - (2 : Int32))), .unset, .unset] [])) _
    refine XS.iconst X70.here hx rfl (hb hby at_169) ?_
    show Steps p.tables e below (T70.setTop (mkF m 170 #[iv u0, iv u1, iv u2, rv b1, iv ((u1 &&& (2147483647 : Int32)) % (22 : Int32)), iv (((u2 &&& (2147483647 : Int32)) % (5 : Int32)) - (2 : Int32)), iv (wv + (((u2 &&& (2147483647 : Int32)) % (5 : Int32)) - (2 : Int32))), .unset, .unset] [(.int (1 : Int32))])) _
    refine XS.goto X70.here hx rfl (pc0 := 170) (pc' := 174) rfl (hb hby at_170) (by decide) (by decide) ?_
    show Steps p.tables e below (T70.setTop (mkF m 174 #[iv u0, iv u1, iv u2, rv b1, iv ((u1 &&& (2147483647 : Int32)) % (22 : Int32)), iv (((u2 &&& (2147483647 : Int32)) % (5 : Int32)) - (2 : Int32)), iv (wv + (((u2 &&& (2147483647 : Int32)) % (5 : Int32)) - (2 : Int32))), .unset, .unset] [(.int (1 : Int32))])) _
    refine XS.istore X70.here hx rfl (hb hby at_174) rfl (l' := #[iv u0, iv u1, iv u2, rv b1, iv ((u1 &&& (2147483647 : Int32)) % (22 : Int32)), iv (((u2 &&& (2147483647 : Int32)) % (5 : Int32)) - (2 : Int32)), iv (wv + (((u2 &&& (2147483647 : Int32)) % (5 : Int32)) - (2 : Int32))), iv (1 : Int32), .unset]) rfl ?_
    show Steps p.tables e below (T70.setTop (mkF m 176 #[iv u0, iv u1, iv u2, rv b1, iv ((u1 &&& (2147483647 : Int32)) % (22 : Int32)), iv (((u2 &&& (2147483647 : Int32)) % (5 : Int32)) - (2 : Int32)), iv (wv + (((u2 &&& (2147483647 : Int32)) % (5 : Int32)) - (2 : Int32))), iv (1 : Int32), .unset] [])) _
    refine XS.iload X70.here hx rfl (hb hby at_176) rfl ?_
    show Steps p.tables e below (T70.setTop (mkF m 178 #[iv u0, iv u1, iv u2, rv b1, iv ((u1 &&& (2147483647 : Int32)) % (22 : Int32)), iv (((u2 &&& (2147483647 : Int32)) % (5 : Int32)) - (2 : Int32)), iv (wv + (((u2 &&& (2147483647 : Int32)) % (5 : Int32)) - (2 : Int32))), iv (1 : Int32), .unset] [(.int (wv + (((u2 &&& (2147483647 : Int32)) % (5 : Int32)) - (2 : Int32))))])) _
    refine st71 _ ?_
    show Steps p.tables e below (T71.setTop (mkF m 181 #[iv u0, iv u1, iv u2, rv b1, iv ((u1 &&& (2147483647 : Int32)) % (22 : Int32)), iv (((u2 &&& (2147483647 : Int32)) % (5 : Int32)) - (2 : Int32)), iv (wv + (((u2 &&& (2147483647 : Int32)) % (5 : Int32)) - (2 : Int32))), iv (1 : Int32), .unset] [(.int (own_f1 (wv + (((u2 &&& (2147483647 : Int32)) % (5 : Int32)) - (2 : Int32)))))])) _
    refine XS.iload X71.here hx rfl (hb hby at_181) rfl ?_
    show Steps p.tables e below (T71.setTop (mkF m 183 #[iv u0, iv u1, iv u2, rv b1, iv ((u1 &&& (2147483647 : Int32)) % (22 : Int32)), iv (((u2 &&& (2147483647 : Int32)) % (5 : Int32)) - (2 : Int32)), iv (wv + (((u2 &&& (2147483647 : Int32)) % (5 : Int32)) - (2 : Int32))), iv (1 : Int32), .unset] [(.int (wv + (((u2 &&& (2147483647 : Int32)) % (5 : Int32)) - (2 : Int32)))), (.int (own_f1 (wv + (((u2 &&& (2147483647 : Int32)) % (5 : Int32)) - (2 : Int32)))))])) _
    refine st72 _ ?_
    show Steps p.tables e below (T72.setTop (mkF m 186 #[iv u0, iv u1, iv u2, rv b1, iv ((u1 &&& (2147483647 : Int32)) % (22 : Int32)), iv (((u2 &&& (2147483647 : Int32)) % (5 : Int32)) - (2 : Int32)), iv (wv + (((u2 &&& (2147483647 : Int32)) % (5 : Int32)) - (2 : Int32))), iv (1 : Int32), .unset] [(.int (own_f2 (wv + (((u2 &&& (2147483647 : Int32)) % (5 : Int32)) - (2 : Int32))))), (.int (own_f1 (wv + (((u2 &&& (2147483647 : Int32)) % (5 : Int32)) - (2 : Int32)))))])) _
    refine XS.icmpNo X72.here hx rfl (hb hby at_186) rfl (teq (own_plain _)).2 ?_
    show Steps p.tables e below (T72.setTop (mkF m 189 #[iv u0, iv u1, iv u2, rv b1, iv ((u1 &&& (2147483647 : Int32)) % (22 : Int32)), iv (((u2 &&& (2147483647 : Int32)) % (5 : Int32)) - (2 : Int32)), iv (wv + (((u2 &&& (2147483647 : Int32)) % (5 : Int32)) - (2 : Int32))), iv (1 : Int32), .unset] [])) _
    refine XS.iconst X72.here hx rfl (hb hby at_189) ?_
    show Steps p.tables e below (T72.setTop (mkF m 190 #[iv u0, iv u1, iv u2, rv b1, iv ((u1 &&& (2147483647 : Int32)) % (22 : Int32)), iv (((u2 &&& (2147483647 : Int32)) % (5 : Int32)) - (2 : Int32)), iv (wv + (((u2 &&& (2147483647 : Int32)) % (5 : Int32)) - (2 : Int32))), iv (1 : Int32), .unset] [(.int (1 : Int32))])) _
    refine XS.goto X72.here hx rfl (pc0 := 190) (pc' := 194) rfl (hb hby at_190) (by decide) (by decide) ?_
    show Steps p.tables e below (T72.setTop (mkF m 194 #[iv u0, iv u1, iv u2, rv b1, iv ((u1 &&& (2147483647 : Int32)) % (22 : Int32)), iv (((u2 &&& (2147483647 : Int32)) % (5 : Int32)) - (2 : Int32)), iv (wv + (((u2 &&& (2147483647 : Int32)) % (5 : Int32)) - (2 : Int32))), iv (1 : Int32), .unset] [(.int (1 : Int32))])) _
    refine XS.istore X72.here hx rfl (hb hby at_194) rfl (l' := #[iv u0, iv u1, iv u2, rv b1, iv ((u1 &&& (2147483647 : Int32)) % (22 : Int32)), iv (((u2 &&& (2147483647 : Int32)) % (5 : Int32)) - (2 : Int32)), iv (wv + (((u2 &&& (2147483647 : Int32)) % (5 : Int32)) - (2 : Int32))), iv (1 : Int32), iv (1 : Int32)]) rfl ?_
    show Steps p.tables e below (T72.setTop (mkF m 196 #[iv u0, iv u1, iv u2, rv b1, iv ((u1 &&& (2147483647 : Int32)) % (22 : Int32)), iv (((u2 &&& (2147483647 : Int32)) % (5 : Int32)) - (2 : Int32)), iv (wv + (((u2 &&& (2147483647 : Int32)) % (5 : Int32)) - (2 : Int32))), iv (1 : Int32), iv (1 : Int32)] [])) _
    refine XS.iload X72.here hx rfl (hb hby at_196) rfl ?_
    show Steps p.tables e below (T72.setTop (mkF m 198 #[iv u0, iv u1, iv u2, rv b1, iv ((u1 &&& (2147483647 : Int32)) % (22 : Int32)), iv (((u2 &&& (2147483647 : Int32)) % (5 : Int32)) - (2 : Int32)), iv (wv + (((u2 &&& (2147483647 : Int32)) % (5 : Int32)) - (2 : Int32))), iv (1 : Int32), iv (1 : Int32)] [(.int (1 : Int32))])) _
    refine XS.ifNo X72.here hx rfl (hb hby at_198) rfl ((if0 _ _).trans (feq (by decide : ¬ ((1 : Int32) = (0 : Int32)))).1) ?_
    show Steps p.tables e below (T72.setTop (mkF m 201 #[iv u0, iv u1, iv u2, rv b1, iv ((u1 &&& (2147483647 : Int32)) % (22 : Int32)), iv (((u2 &&& (2147483647 : Int32)) % (5 : Int32)) - (2 : Int32)), iv (wv + (((u2 &&& (2147483647 : Int32)) % (5 : Int32)) - (2 : Int32))), iv (1 : Int32), iv (1 : Int32)] [])) _
    refine XS.iload X72.here hx rfl (hb hby at_201) rfl ?_
    show Steps p.tables e below (T72.setTop (mkF m 203 #[iv u0, iv u1, iv u2, rv b1, iv ((u1 &&& (2147483647 : Int32)) % (22 : Int32)), iv (((u2 &&& (2147483647 : Int32)) % (5 : Int32)) - (2 : Int32)), iv (wv + (((u2 &&& (2147483647 : Int32)) % (5 : Int32)) - (2 : Int32))), iv (1 : Int32), iv (1 : Int32)] [(.int (1 : Int32))])) _
    refine XS.ifNo X72.here hx rfl (hb hby at_203) rfl ((if0 _ _).trans (feq (by decide : ¬ ((1 : Int32) = (0 : Int32)))).1) ?_
    show Steps p.tables e below (T72.setTop (mkF m 206 #[iv u0, iv u1, iv u2, rv b1, iv ((u1 &&& (2147483647 : Int32)) % (22 : Int32)), iv (((u2 &&& (2147483647 : Int32)) % (5 : Int32)) - (2 : Int32)), iv (wv + (((u2 &&& (2147483647 : Int32)) % (5 : Int32)) - (2 : Int32))), iv (1 : Int32), iv (1 : Int32)] [])) _
    refine XS.iconst X72.here hx rfl (hb hby at_206) ?_
    show Steps p.tables e below (T72.setTop (mkF m 207 #[iv u0, iv u1, iv u2, rv b1, iv ((u1 &&& (2147483647 : Int32)) % (22 : Int32)), iv (((u2 &&& (2147483647 : Int32)) % (5 : Int32)) - (2 : Int32)), iv (wv + (((u2 &&& (2147483647 : Int32)) % (5 : Int32)) - (2 : Int32))), iv (1 : Int32), iv (1 : Int32)] [(.int (1 : Int32))])) _
    refine XS.goto X72.here hx rfl (pc0 := 207) (pc' := 211) rfl (hb hby at_207) (by decide) (by decide) ?_
    show Steps p.tables e below (T72.setTop (mkF m 211 #[iv u0, iv u1, iv u2, rv b1, iv ((u1 &&& (2147483647 : Int32)) % (22 : Int32)), iv (((u2 &&& (2147483647 : Int32)) % (5 : Int32)) - (2 : Int32)), iv (wv + (((u2 &&& (2147483647 : Int32)) % (5 : Int32)) - (2 : Int32))), iv (1 : Int32), iv (1 : Int32)] [(.int (1 : Int32))])) _
    exact retN X72 hx (t := .boolean) Bd.returns (by simp) (hb hby at_211) hr
  · show Q0 Z u0 u1 u2 h0 n0 _ T72.heap _
    rw [eq72]
    exact ⟨rfl, N72⟩
set_option maxRecDepth 65536 in
set_option maxHeartbeats 40000000 in
theorem comes_1 {Post : Tables → Env → Array Value → State → Outcome → State → Prop} (hpost : ∀ tb e args s v u, (limb_1_1.after args s (.returned v) u = true ∧ limb_1_2.after args s (.returned v) u = true ∧ True) → FrameEnd s (.returned v) u (Jvm.fieldLocs frame_1_writes args s ++ Jvm.arrayLocs frame_1_arrays args s ++ Jvm.staticLocs frame_1_statics s) 16 128 → Post tb e args s (.returned v) u) :
    ArmFor flags0 classFile x code maxLocals ret World_1 tables_1 room_1 Calls_1 rest_1 Pre_1 Post := by
  intro l hfl _ _ p e ha hc hk s m args below hf hA hF happ hP
  obtain ⟨hcalls, hrest, hpre⟩ := hP
  obtain ⟨-, -, -, hnamed, -, -, -, hat⟩ := (Spec.applies_iff hf).mp happ
  obtain ⟨hg, hn⟩ := and_e (Cond.before_iff.mp (show (Jvm.Cond.and given_1 narrow_1).before args s = true from hpre))
  obtain ⟨g1, g2⟩ := and_e hg
  obtain ⟨g3, g4⟩ := and_e g2
  obtain ⟨g5, g6⟩ := and_e g4
  obtain ⟨w0, w1, w2, rfl⟩ : ∃ w0 w1 w2 : Value, args = #[w0, w1, w2] := by
    have hs : args.size = 3 := by simpa [Cond.value, given_1] using g1
    obtain ⟨L⟩ := args
    match L, hs with
    | [w0, w1, w2], _ => exact ⟨w0, w1, w2, rfl⟩
  have hw := fun d (hd : d ∈ tables_1) => atoms_spec (ws := Jvm.Cond.code x code maxLocals ret :: tables_1) hat d (List.mem_cons_of_mem _ hd)
  have hfit : Fit s := fun {y c} hc i hi => by
    obtain ⟨ha, rfl⟩ := Array.getElem?_eq_some_iff.mp hc
    have q := List.all_eq_true.mp ((Array.all_eq_true_iff_forall_mem.mp hF) _ (Array.getElem_mem ha)) i (List.mem_range.mpr hi)
    simpa [Array.getElem?_eq_getElem hi] using q
  obtain ⟨i0, ei0⟩ := is_v g3
  obtain rfl : w0 = (.int i0) := Option.some.inj ei0
  obtain ⟨i1, ei1⟩ := is_v g5
  obtain rfl : w1 = (.int i1) := Option.some.inj ei1
  obtain ⟨i2, ei2⟩ := is_v g6
  obtain rfl : w2 = (.int i2) := Option.some.inj ei2
  obtain ⟨n, o, h1, h2, h3, _, L, rfl, ⟨rfl, N⟩, hq⟩ := rm0 l s _ hw tables_1 i0 i1 i2 s.heap s.heap.size (Nat.le_refl _)  p e ha hc hk s m _ below hf ((Spec.applies_iff_loose hf).mp happ).1 ⟨rfl, State.Warmed39.refl s, rfl⟩ trivial
  refine ⟨n, _, h1, h2, h3, hpost _ _ _ _ _ _ ⟨Cond.after_iff.mpr rfl, Cond.after_iff.mpr (eq_i res_at (Term.int_eval (1)) rfl), trivial⟩ ⟨hq.1, hq.2.1, (hq.2.2.sift fun y hy => Or.inr (N y hy)).mono (by decide) (by decide)⟩⟩
theorem main_1_1 : Claimed_1_1 := comes_1 fun _ _ _ _ _ _ h hF => ⟨h.1, hF⟩
theorem main_1_2 : Claimed_1_2 := comes_1 fun _ _ _ _ _ _ h hF => ⟨h.2.1, hF⟩
end Jvm.Pilot.@@N@@
namespace Jvm.Pilot.@@N@@
open Jvm Jvm.ClassFile Sem Op Lib Jvm.Free Jvm.Stand Jvm.Pilot.@@N@@.Jvm.D
/-! MADE BY PROGRAM (witnessworld.py) out of the Statement's table words and the real class files: 9 classes; the members and pool entries that the words name. The judged class is class 1, her method 2. -/
namespace start1
open Jvm.ClassFile
def u (s : String) : CpInfo := .utf8 (stringToUtf16 s)
/-- a pool by its gaps: so many unusable entries, then the entry; so many at the end -/
def gap : Nat → List CpInfo → List CpInfo
  | 0, r => r
  | n + 1, r => .unusable :: gap n r
def poolList (es : List (Nat × CpInfo)) (last : Nat) : List CpInfo := es.foldr (fun e r => gap e.1 (e.2 :: r)) (gap last [])
def pool (es : List (Nat × CpInfo)) (last : Nat) : Array CpInfo := ⟨poolList es last⟩
def fileOf (pool : Array CpInfo) (this : Nat) (attrs : Array Attribute := #[]) (ms : Array MethodInfo := #[]) (fl : Nat := 33) (sup : Nat := 0) (ifs : Array Nat := #[]) (fds : Array FieldInfo := #[]) : ClassFile where
  minorVersion := 0
  majorVersion := 65
  constantPool := pool
  accessFlags := fl
  thisClass := this
  superClass := sup
  interfaces := ifs
  fields := fds
  methods := ms
  attributes := attrs
def plain (name : String) (sup : Option ClassId) : Class where
  name := name
  kind := .ordinary
  loader := none
  accessFlags := 33
  super := sup
  interfaces := #[]
  cf := none
  fields := #[]
  methods := #[]
  instanceTypes := #[]
  staticTypes := #[]
  resolved := #[]
  callSites := []
  init := .initialized
  statics := none
  mirror := none

def pool0 : Array CpInfo := pool [(5, u "<init>"), (0, u "()V"), (1, .class_ 10), (1, u "java/lang/Object")] 113

def k0m0 : Method := { name := "<init>", desc := "()V", sig := { parameters := [], returnType := none }, accessFlags := 1, code := none }
/-- java/lang/Object -/
def k0 : Class := { plain "java/lang/Object" none with
  accessFlags := 33
  interfaces := #[]
  cf := some (fileOf pool0 8 #[] #[{ accessFlags := 1, nameIndex := 5, descriptorIndex := 6, attributes := #[] }] 33 0 #[] #[])
  fields := #[]
  methods := #[k0m0]
  instanceTypes := #[]
  staticTypes := #[]
  resolved := Array.replicate 124 none
  statics := none }

def pool1 : Array CpInfo := pool [(2, .class_ 4), (1, u "java/lang/Object"), (0, u "<init>"), (0, u "()V"), (0, .integer 1114111), (0, .integer 55296), (0, .integer 57343), (0, .integer 65534), (0, .integer 65535), (0, .integer 55295), (0, .integer 57344), (0, .integer 65533), (0, .integer 65536), (0, .integer 1114112), (2, .integer 2147483648), (0, .integer 2147483647), (0, .methodref 22 23), (0, .class_ 24), (0, .nameAndType 25 26), (0, u "com/example/agouti/agouti/xdm/XmlChars"), (0, u "isXmlChar"), (0, u "(I)Z"), (0, .methodref 28 29), (0, .class_ 30), (0, .nameAndType 31 26), (0, u "com/example/agouti/agouti/xdm/XmlCharsIsXmlCharPinLaw"), (0, u "ref"), (3, u "law"), (0, u "(III)Z")] 4

def k1m0 : Method := { name := "<init>", desc := "()V", sig := { parameters := [], returnType := none }, accessFlags := 2, code := none }
def k1c1 : Code := { maxStack := 2, maxLocals := 1, code := method_2_code, exceptionTable := #[], attributes := #[] }
def k1m1 : Method := { name := "ref", desc := "(I)Z", sig := { parameters := [.int], returnType := some .boolean }, accessFlags := 10, code := some k1c1 }
def k1c2 : Code := { maxStack := 4, maxLocals := 9, code := code, exceptionTable := #[], attributes := #[] }
def k1m2 : Method := { name := "law", desc := "(III)Z", sig := { parameters := [.int, .int, .int], returnType := some .boolean }, accessFlags := 9, code := some k1c2 }
/-- com/example/agouti/agouti/xdm/XmlCharsIsXmlCharPinLaw -/
def k1 : Class := { plain "com/example/agouti/agouti/xdm/XmlCharsIsXmlCharPinLaw" (some 0) with
  accessFlags := 49
  interfaces := #[]
  cf := some (fileOf pool1 28 #[] #[{ accessFlags := 2, nameIndex := 5, descriptorIndex := 6, attributes := #[] }, { accessFlags := 10, nameIndex := 31, descriptorIndex := 26, attributes := #[] }, { accessFlags := 9, nameIndex := 35, descriptorIndex := 36, attributes := #[] }] 49 2 #[] #[])
  fields := #[]
  methods := #[k1m0, k1m1, k1m2]
  instanceTypes := #[]
  staticTypes := #[]
  resolved := Array.replicate 41 none
  statics := none }

def pool2 : Array CpInfo := pool [(2, .class_ 4), (1, u "java/lang/Object"), (0, u "<init>"), (0, u "()V"), (0, .integer 55295), (0, .integer 57344), (0, .integer 65533), (0, .integer 65536), (0, .integer 1114111), (5, .class_ 19), (1, u "com/example/agouti/agouti/xdm/XmlChars"), (1, u "(I)Z"), (2, u "isXmlChar")] 4

def k2m0 : Method := { name := "<init>", desc := "()V", sig := { parameters := [], returnType := none }, accessFlags := 2, code := none }
def k2c1 : Code := { maxStack := 2, maxLocals := 1, code := prog_209_method_2_code, exceptionTable := #[], attributes := #[] }
def k2m1 : Method := { name := "isXmlChar", desc := "(I)Z", sig := { parameters := [.int], returnType := some .boolean }, accessFlags := 9, code := some k2c1 }
/-- com/example/agouti/agouti/xdm/XmlChars -/
def k2 : Class := { plain "com/example/agouti/agouti/xdm/XmlChars" (some 0) with
  accessFlags := 49
  interfaces := #[]
  cf := some (fileOf pool2 17 #[] #[{ accessFlags := 2, nameIndex := 5, descriptorIndex := 6, attributes := #[] }, { accessFlags := 9, nameIndex := 24, descriptorIndex := 21, attributes := #[] }] 49 2 #[] #[])
  fields := #[]
  methods := #[k2m0, k2m1]
  instanceTypes := #[]
  staticTypes := #[]
  resolved := Array.replicate 29 none
  statics := none }

def pool3 : Array CpInfo := pool [(1, u "java/lang/Cloneable"), (0, .class_ 1), (0, u "java/lang/Object"), (0, .class_ 3)] 3

/-- java/lang/Cloneable -/
def k3 : Class := { plain "java/lang/Cloneable" (some 0) with
  accessFlags := 1537
  interfaces := #[]
  cf := some (fileOf pool3 2 #[] #[] 1537 4 #[] #[])
  fields := #[]
  methods := #[]
  instanceTypes := #[]
  staticTypes := #[]
  resolved := Array.replicate 8 none
  statics := none }

def pool4 : Array CpInfo := pool [(1, u "java/io/Serializable"), (0, .class_ 1), (0, u "java/lang/Object"), (0, .class_ 3)] 3

/-- java/io/Serializable -/
def k4 : Class := { plain "java/io/Serializable" (some 0) with
  accessFlags := 1537
  interfaces := #[]
  cf := some (fileOf pool4 2 #[] #[] 1537 4 #[] #[])
  fields := #[]
  methods := #[]
  instanceTypes := #[]
  staticTypes := #[]
  resolved := Array.replicate 8 none
  statics := none }

/-- the primitive byte -/
def k5 : Class := { plain "byte" none with kind := .primitive 'B', accessFlags := 0x411 }
/-- [B -/
def k6 : Class := { plain "[B" (some 0) with kind := .array 5 .byte, interfaces := #[3, 4], accessFlags := 1041 }

/-- the primitive int -/
def k7 : Class := { plain "int" none with kind := .primitive 'I', accessFlags := 0x411 }
/-- [I -/
def k8 : Class := { plain "[I" (some 0) with kind := .array 7 .int, interfaces := #[3, 4], accessFlags := 1041 }

def heap : Heap := #[]
def classes : Array Class := #[k0, k1, k2, k3, k4, k5, k6, k7, k8]
def interned : List (Array UInt16 × Addr) := []
def slotsUsed : Nat := 0
def theMethod : MethodId := ⟨1, 2⟩
def args0 : Array Value := #[.int 65, .int 3, .int 4]
def aboutOver (below : List Frame) : State where
  vm := { classes := classes, interned := interned.toArray }
  heap := heap
  slotsUsed := slotsUsed
  threads := #[{ frames := .invoking theMethod args0 :: below }]
def below0 : List Frame := [.native { method := ⟨0, 0⟩, args := #[] }]
def about1 : State := aboutOver below0
def p0 : Program := .bare "" "" ""
def e0 : Env := launch0.env 0 0 0
theorem w_frames : about1.frames = Frame.invoking theMethod args0 :: below0 := rfl
set_option maxRecDepth 65536 in
theorem w_args : argsFit about1.vm theMethod args0 = true := by decide +kernel
set_option maxRecDepth 65536 in
theorem w_heap : heapFits about1 = true := by decide +kernel
set_option maxRecDepth 65536 in
theorem w_runnable : about1.curStatus? = some .runnable := by decide +kernel
set_option maxRecDepth 65536 in
theorem w_alone : about1.alone = true := by decide +kernel
set_option maxRecDepth 65536 in
theorem w_named : about1.methodNamed? x = some theMethod := by decide +kernel
set_option maxRecDepth 65536 in
theorem w_hears : about1.hears theMethod below0 = true := by decide +kernel
set_option maxRecDepth 65536 in
theorem w_ripe : about1.ripe theMethod args0 below0 = true := by decide +kernel
theorem w_running : about1.status = .running := rfl
set_option maxRecDepth 65536 in
theorem w_room : about1.hasRoom e0.platform room_1 = true :=
  launch0.hasRoom_least _ room_1 (by decide +kernel) (by decide +kernel) (by decide +kernel) (by decide +kernel) (by decide +kernel) (by decide +kernel)
theorem allAtoms_all (ts : List Jvm.Cond) (a : Array Jvm.Value) (st : Jvm.State) : (allAtoms ts).before a st = ts.all (fun c => c.before a st) := by
  induction ts with
  | nil => rfl
  | cons c t ih =>
    show (Jvm.Cond.and c (allAtoms t)).before a st = _
    rw [Jvm.Cond.before_and, ih, List.all_cons]
def words1 : List Jvm.Cond := Jvm.Cond.code x code maxLocals ret :: tables_1
/-- a 'code' word, met by the world's own term for the bytes: nothing is compared byte by byte -/
theorem code_word {y : MethodName} {bytes : ByteArray} {mx : Nat} {rt : Option FieldType} {a : Array Value} {s : State} {m : MethodId} {meth : Method} {c : Code} (h1 : s.methodNamed? y = some m) (h2 : s.vm.method? m = some meth) (h3 : meth.code = some c) (h4 : c.code = bytes)
    (h5 : (c.maxLocals == mx && c.exceptionTable.isEmpty && decide (c.maxStack ≤ mostOperands) && decide (meth.sig.returnType = rt) && !meth.locks && decide (parseMethodDescriptor y.desc = some meth.sig)) = true) : (Jvm.Cond.code y bytes mx rt).before a s = true := by
  simp only [Bool.and_eq_true, beq_iff_eq, Bool.not_eq_true', decide_eq_true_eq] at h5
  obtain ⟨⟨⟨⟨⟨g1, g2⟩, g3⟩, g4⟩, g5⟩, g6⟩ := h5
  simp [Cond.before, Cond.holds, Cond.value, h1, h2, h3, h4, g1, g2, g3, g4, g5, g6]
def isCode : Jvm.Cond → Bool
  | .code _ _ _ _ => true
  | _ => false
theorem all_split {L : List Jvm.Cond} {P : Jvm.Cond → Bool} (h1 : L.all (fun c => isCode c || P c) = true) (h2 : ∀ c ∈ L.filter isCode, P c = true) : L.all P = true := by
  refine List.all_eq_true.mpr fun c hc => ?_
  have h := List.all_eq_true.mp h1 c hc
  rcases Bool.eq_false_or_eq_true (isCode c) with hi | hi
  · exact h2 c (List.mem_filter.mpr ⟨hc, hi⟩)
  · simpa [hi] using h
set_option maxRecDepth 65536 in
theorem w_c0 : (Jvm.Cond.code x code maxLocals ret).before args0 about1 = true := code_word (m := ⟨1, 2⟩) (meth := k1m2) (c := k1c2) (by decide +kernel) rfl rfl rfl (by decide +kernel)
set_option maxRecDepth 65536 in
theorem w_c1 : (Jvm.Cond.code ({ cls := "com/example/agouti/agouti/xdm/XmlChars", name := "isXmlChar", desc := "(I)Z" } : Jvm.MethodName) prog_209_method_2_code (1 : Nat) (Option.some Jvm.ClassFile.FieldType.boolean)).before args0 about1 = true := code_word (m := ⟨2, 1⟩) (meth := k2m1) (c := k2c1) (by decide +kernel) rfl rfl rfl (by decide +kernel)
set_option maxRecDepth 65536 in
theorem w_c2 : (Jvm.Cond.code ({ cls := "com/example/agouti/agouti/xdm/XmlCharsIsXmlCharPinLaw", name := "ref", desc := "(I)Z" } : Jvm.MethodName) method_2_code (1 : Nat) (Option.some Jvm.ClassFile.FieldType.boolean)).before args0 about1 = true := code_word (m := ⟨1, 1⟩) (meth := k1m1) (c := k1c1) (by decide +kernel) rfl rfl rfl (by decide +kernel)
def codes1 : List Jvm.Cond := [Jvm.Cond.code x code maxLocals ret, Jvm.Cond.code ({ cls := "com/example/agouti/agouti/xdm/XmlChars", name := "isXmlChar", desc := "(I)Z" } : Jvm.MethodName) prog_209_method_2_code (1 : Nat) (Option.some Jvm.ClassFile.FieldType.boolean), Jvm.Cond.code ({ cls := "com/example/agouti/agouti/xdm/XmlCharsIsXmlCharPinLaw", name := "ref", desc := "(I)Z" } : Jvm.MethodName) method_2_code (1 : Nat) (Option.some Jvm.ClassFile.FieldType.boolean)]
set_option maxRecDepth 65536 in
theorem codes_eq : words1.filter isCode = codes1 := rfl
theorem w_codes : ∀ c ∈ words1.filter isCode, c.before args0 about1 = true := by
  rw [codes_eq]
  intro c hc
  simp only [codes1, List.mem_cons, List.not_mem_nil, or_false] at hc
  rcases hc with rfl | rfl | rfl
  · exact w_c0
  · exact w_c1
  · exact w_c2
set_option maxRecDepth 65536 in
theorem w_t1 : (words1.take 24).all (fun c => isCode c || c.before args0 about1) = true := by decide +kernel
set_option maxRecDepth 65536 in
theorem w_t2 : (words1.drop 24).all (fun c => isCode c || c.before args0 about1) = true := by decide +kernel
theorem w_tables : (allAtoms (Jvm.Cond.code x code maxLocals ret :: tables_1)).before args0 about1 = true := by
  rw [allAtoms_all]
  show words1.all (fun c => c.before args0 about1) = true
  refine all_split ?_ w_codes
  rw [← List.take_append_drop 24 words1, List.all_append, w_t1, w_t2]
  rfl
set_option maxRecDepth 65536 in
theorem w_case : (Jvm.Cond.and given_1 narrow_1).before args0 about1 = true := by decide +kernel
theorem w_applies : (headSpec (Jvm.Cond.code x code maxLocals ret :: tables_1) room_1).applies x e0.platform about1 = true :=
  (Spec.applies_iff w_frames).mpr ⟨w_running, w_runnable, w_alone, w_named, w_hears, w_ripe, w_room, w_tables⟩
theorem atStart : AtStart classFile x code maxLocals ret World_1 tables_1 room_1 Calls_1 rest_1 Pre_1 launch0 p0 e0 about1 theMethod args0 below0 :=
  ⟨lists_1, trivial, launch0.admits_env _ _ _, launch0.least_env, fairChoices_fair.cas, fairChoices_fair.clock, w_frames, w_args, w_heap, w_applies, trivial, trivial, w_case⟩
end start1
theorem witness_1 : WitnessClaimed_1 := ⟨start1.p0, start1.e0, start1.about1, start1.theMethod, start1.args0, start1.below0, start1.atStart⟩
end Jvm.Pilot.@@N@@
