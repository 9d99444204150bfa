import JvmDerived
import JvmDerived.Pilot.@@N@@Statement
import JvmDerived.Pilot.@@N@@Code
set_option linter.unusedVariables false
set_option linter.unusedSimpArgs false
namespace Jvm.Pilot.@@N@@
open Jvm Jvm.ClassFile Sem Op Lib Jvm.Free Jvm.Stand Jvm.LawKit Jvm.RoadKit Bundle Jvm.Pilot.@@N@@.Jvm.D
def own_f1 (u0 : Int32) : Int32 := if u0 < (97 : Int32) then (if u0 < (65 : Int32) then (0 : Int32) else (if (90 : Int32) < u0 then (0 : Int32) else (1 : Int32))) else (if (122 : Int32) < u0 then (if u0 < (65 : Int32) then (0 : Int32) else (if (90 : Int32) < u0 then (0 : Int32) else (1 : Int32))) else (1 : Int32))
theorem d2_0 : decode prog_55_method_2_code 0 = .ok (.iload_n 0, 1) := by decide +kernel
theorem d2_1 : decode prog_55_method_2_code 1 = .ok (.bipush 97, 2) := by decide +kernel
theorem d2_3 : decode prog_55_method_2_code 3 = .ok (.if_icmp .lt 9, 3) := by decide +kernel
theorem d2_12 : decode prog_55_method_2_code 12 = .ok (.iload_n 0, 1) := by decide +kernel
theorem d2_13 : decode prog_55_method_2_code 13 = .ok (.bipush 65, 2) := by decide +kernel
theorem d2_15 : decode prog_55_method_2_code 15 = .ok (.if_icmp .lt 13, 3) := by decide +kernel
theorem d2_28 : decode prog_55_method_2_code 28 = .ok (.iconst 0, 1) := by decide +kernel
theorem d2_29 : decode prog_55_method_2_code 29 = .ok (.ireturn, 1) := by decide +kernel
theorem d2_18 : decode prog_55_method_2_code 18 = .ok (.iload_n 0, 1) := by decide +kernel
theorem d2_19 : decode prog_55_method_2_code 19 = .ok (.bipush 90, 2) := by decide +kernel
theorem d2_21 : decode prog_55_method_2_code 21 = .ok (.if_icmp .gt 7, 3) := by decide +kernel
theorem d2_24 : decode prog_55_method_2_code 24 = .ok (.iconst 1, 1) := by decide +kernel
theorem d2_25 : decode prog_55_method_2_code 25 = .ok (.goto 4, 3) := by decide +kernel
theorem d2_6 : decode prog_55_method_2_code 6 = .ok (.iload_n 0, 1) := by decide +kernel
theorem d2_7 : decode prog_55_method_2_code 7 = .ok (.bipush 122, 2) := by decide +kernel
theorem d2_9 : decode prog_55_method_2_code 9 = .ok (.if_icmp .le 15, 3) := by decide +kernel
theorem pn_0 : plainName "com/example/kilit/kilit/sql/Identifier" = true := by first | (simp [plainName, overriddenIn]; done) | decide +kernel
def Q2 (Z : State) (u0 : Int32)  (h0 : Heap) (n0 : Nat) (v : Option Value) (h : Heap) (L : List Loc) : Prop := v = some (.int (own_f1 u0)) ∧ Fr n0 L ∧ h = h0
theorem ef_rm2 (m : MethodId) (u0 : Int32) : entryFrame m #[(.int u0)] 1 = mkF m 0 #[iv u0] [] := by first | (simp [entryFrame, mkF, argsToLocals, Value.category]; done) | rfl
set_option maxRecDepth 65536 in
set_option maxHeartbeats 40000000 in
theorem rm2 (l : Launch) (Z : State) (a0 : Array Value) (hw : ∀ d ∈ tables_1, d.before a0 Z = true) (ws : List Jvm.Cond) (u0 : Int32)  (h0 : Heap) (n0 : Nat) (Z0 : n0 ≤ h0.size) :
    MetFree l (⟨"com/example/kilit/kilit/sql/Identifier", "isStart", "(C)Z"⟩ : MethodName) (head1 (Jvm.Cond.code (⟨"com/example/kilit/kilit/sql/Identifier", "isStart", "(C)Z"⟩ : MethodName) prog_55_method_2_code 1 (some .boolean) :: ws) ({ frames := 0, cells := 0, slots := 0, locals := 0 } : Room)) (fun a U => a = #[(.int u0)] ∧ Z.Warmed39 U.vm ∧ U.heap = h0) (fun _ _ _ _ _ => True) (fun _ U o U' => ∃ v L, o = .returned v ∧ Q2 Z u0 h0 n0 v U'.heap L ∧ FrameEnd U o U' L ({ frames := 0, cells := 0, slots := 0, locals := 0 } : Room).cells ({ frames := 0, cells := 0, slots := 0, locals := 0 } : Room).slots) := by
  refine MetFree.of_bodySF (plainFor_of_name pn_0) hisR ?_
  intro p e s m args below meth c s₁ Bd hml0 hP hK
  obtain ⟨rfl, hZ, hh⟩ := hP
  have hx := Bd.exec
  have hby := Bd.bytes
  have hml : c.maxLocals = 1 := hml0
  have hown : s.vm.findClass "com/example/kilit/kilit/sql/Identifier" = some m.cls := findClass_of_methodNamed Bd.named
  have hnm := (name_of_methodNamed Bd.named Bd.method).1
  have X0 : Stand p l e ({ frames := 0, cells := 0, slots := 0, locals := 0 } : Room) s m #[(.int u0)] below meth c s₁ [] 0 0 := Stand.of_body Bd
  have e0 : s₁.heap = h0 := by rw [← hh, Bd.state]; rfl
  have N0 := Fr.nil n0
  have S0 : ∀ t, Steps p.tables e below (s₁.setTop (mkF m 0 #[iv u0] [])) t → Steps p.tables e below (s₁.setTop (entryFrame m #[(.int u0)] 1)) t := fun t k => castTop (ef_rm2 m u0) k
  have S1 : ∀ t, Steps p.tables e below (s₁.setTop (mkF m 3 #[iv u0] [(.int (97 : Int32)), (.int u0)])) t → Steps p.tables e below (s₁.setTop (entryFrame m #[(.int u0)] 1)) t := by
    intro t k
    refine S0 t ?_
    show Steps p.tables e below (s₁.setTop (mkF m 0 #[iv u0] [])) _
    refine XS.iloadN X0.here hx rfl (hb hby d2_0) rfl ?_
    show Steps p.tables e below (s₁.setTop (mkF m 1 #[iv u0] [(.int u0)])) _
    refine XS.bipush X0.here hx rfl (hb hby d2_1) ?_
    exact k
  by_cases hc2 : u0 < (97 : Int32)
  · skip
    have S3 : ∀ t, Steps p.tables e below (s₁.setTop (mkF m 15 #[iv u0] [(.int (65 : Int32)), (.int u0)])) t → Steps p.tables e below (s₁.setTop (entryFrame m #[(.int u0)] 1)) t := by
      intro t k
      refine S1 t ?_
      show Steps p.tables e below (s₁.setTop (mkF m 3 #[iv u0] [(.int (97 : Int32)), (.int u0)])) _
      refine XS.icmpYes X0.here hx rfl (pc0 := 3) (pc' := 12) rfl (hb hby d2_3) rfl (tlt hc2).1 (by decide) (by decide) ?_
      show Steps p.tables e below (s₁.setTop (mkF m 12 #[iv u0] [])) _
      refine XS.iloadN X0.here hx rfl (hb hby d2_12) rfl ?_
      show Steps p.tables e below (s₁.setTop (mkF m 13 #[iv u0] [(.int u0)])) _
      refine XS.bipush X0.here hx rfl (hb hby d2_13) ?_
      exact k
    by_cases hc4 : u0 < (65 : Int32)
    · skip
      obtain ⟨fs, hr, hrun, hended, hW, hsame⟩ := X0.leave (v := some (.int (0 : Int32))) (fun h => by rw [Bd.returns] at h; cases h)
      refine ⟨_, _, S3 _ ?_, hrun, hended, _, _, rfl, ?_, ⟨_, rfl⟩, hW, hsame.mono (by decide) (by decide)⟩
      · skip
        show Steps p.tables e below (s₁.setTop (mkF m 15 #[iv u0] [(.int (65 : Int32)), (.int u0)])) _
        refine XS.icmpYes X0.here hx rfl (pc0 := 15) (pc' := 28) rfl (hb hby d2_15) rfl (tlt hc4).1 (by decide) (by decide) ?_
        show Steps p.tables e below (s₁.setTop (mkF m 28 #[iv u0] [])) _
        refine XS.iconst X0.here hx rfl (hb hby d2_28) ?_
        show Steps p.tables e below (s₁.setTop (mkF m 29 #[iv u0] [(.int (0 : Int32))])) _
        exact retN X0 hx (t := .boolean) Bd.returns (by simp) (hb hby d2_29) hr
      · show Q2 Z u0 h0 n0 _ s₁.heap _
        rw [e0]
        exact ⟨(by unfold own_f1; rw [if_pos hc2, if_pos hc4]), N0, rfl⟩
    · skip
      have S5 : ∀ t, Steps p.tables e below (s₁.setTop (mkF m 21 #[iv u0] [(.int (90 : Int32)), (.int u0)])) t → Steps p.tables e below (s₁.setTop (entryFrame m #[(.int u0)] 1)) t := by
        intro t k
        refine S3 t ?_
        show Steps p.tables e below (s₁.setTop (mkF m 15 #[iv u0] [(.int (65 : Int32)), (.int u0)])) _
        refine XS.icmpNo X0.here hx rfl (hb hby d2_15) rfl (flt hc4).1 ?_
        show Steps p.tables e below (s₁.setTop (mkF m 18 #[iv u0] [])) _
        refine XS.iloadN X0.here hx rfl (hb hby d2_18) rfl ?_
        show Steps p.tables e below (s₁.setTop (mkF m 19 #[iv u0] [(.int u0)])) _
        refine XS.bipush X0.here hx rfl (hb hby d2_19) ?_
        exact k
      by_cases hc6 : (90 : Int32) < u0
      · skip
        obtain ⟨fs, hr, hrun, hended, hW, hsame⟩ := X0.leave (v := some (.int (0 : Int32))) (fun h => by rw [Bd.returns] at h; cases h)
        refine ⟨_, _, S5 _ ?_, hrun, hended, _, _, rfl, ?_, ⟨_, rfl⟩, hW, hsame.mono (by decide) (by decide)⟩
        · skip
          show Steps p.tables e below (s₁.setTop (mkF m 21 #[iv u0] [(.int (90 : Int32)), (.int u0)])) _
          refine XS.icmpYes X0.here hx rfl (pc0 := 21) (pc' := 28) rfl (hb hby d2_21) rfl (tlt hc6).2.2.1 (by decide) (by decide) ?_
          show Steps p.tables e below (s₁.setTop (mkF m 28 #[iv u0] [])) _
          refine XS.iconst X0.here hx rfl (hb hby d2_28) ?_
          show Steps p.tables e below (s₁.setTop (mkF m 29 #[iv u0] [(.int (0 : Int32))])) _
          exact retN X0 hx (t := .boolean) Bd.returns (by simp) (hb hby d2_29) hr
        · show Q2 Z u0 h0 n0 _ s₁.heap _
          rw [e0]
          exact ⟨(by unfold own_f1; rw [if_pos hc2, if_neg hc4, if_pos hc6]), N0, rfl⟩
      · skip
        obtain ⟨fs, hr, hrun, hended, hW, hsame⟩ := X0.leave (v := some (.int (1 : Int32))) (fun h => by rw [Bd.returns] at h; cases h)
        refine ⟨_, _, S5 _ ?_, hrun, hended, _, _, rfl, ?_, ⟨_, rfl⟩, hW, hsame.mono (by decide) (by decide)⟩
        · skip
          show Steps p.tables e below (s₁.setTop (mkF m 21 #[iv u0] [(.int (90 : Int32)), (.int u0)])) _
          refine XS.icmpNo X0.here hx rfl (hb hby d2_21) rfl (flt hc6).2.2.1 ?_
          show Steps p.tables e below (s₁.setTop (mkF m 24 #[iv u0] [])) _
          refine XS.iconst X0.here hx rfl (hb hby d2_24) ?_
          show Steps p.tables e below (s₁.setTop (mkF m 25 #[iv u0] [(.int (1 : Int32))])) _
          refine XS.goto X0.here hx rfl (pc0 := 25) (pc' := 29) rfl (hb hby d2_25) (by decide) (by decide) ?_
          show Steps p.tables e below (s₁.setTop (mkF m 29 #[iv u0] [(.int (1 : Int32))])) _
          exact retN X0 hx (t := .boolean) Bd.returns (by simp) (hb hby d2_29) hr
        · show Q2 Z u0 h0 n0 _ s₁.heap _
          rw [e0]
          exact ⟨(by unfold own_f1; rw [if_pos hc2, if_neg hc4, if_neg hc6]), N0, rfl⟩
  · skip
    have S7 : ∀ t, Steps p.tables e below (s₁.setTop (mkF m 9 #[iv u0] [(.int (122 : Int32)), (.int u0)])) t → Steps p.tables e below (s₁.setTop (entryFrame m #[(.int u0)] 1)) t := by
      intro t k
      refine S1 t ?_
      show Steps p.tables e below (s₁.setTop (mkF m 3 #[iv u0] [(.int (97 : Int32)), (.int u0)])) _
      refine XS.icmpNo X0.here hx rfl (hb hby d2_3) rfl (flt hc2).1 ?_
      show Steps p.tables e below (s₁.setTop (mkF m 6 #[iv u0] [])) _
      refine XS.iloadN X0.here hx rfl (hb hby d2_6) rfl ?_
      show Steps p.tables e below (s₁.setTop (mkF m 7 #[iv u0] [(.int u0)])) _
      refine XS.bipush X0.here hx rfl (hb hby d2_7) ?_
      exact k
    by_cases hc8 : (122 : Int32) < u0
    · skip
      have S9 : ∀ t, Steps p.tables e below (s₁.setTop (mkF m 15 #[iv u0] [(.int (65 : Int32)), (.int u0)])) t → Steps p.tables e below (s₁.setTop (entryFrame m #[(.int u0)] 1)) t := by
        intro t k
        refine S7 t ?_
        show Steps p.tables e below (s₁.setTop (mkF m 9 #[iv u0] [(.int (122 : Int32)), (.int u0)])) _
        refine XS.icmpNo X0.here hx rfl (hb hby d2_9) rfl (tlt hc8).2.2.2 ?_
        show Steps p.tables e below (s₁.setTop (mkF m 12 #[iv u0] [])) _
        refine XS.iloadN X0.here hx rfl (hb hby d2_12) rfl ?_
        show Steps p.tables e below (s₁.setTop (mkF m 13 #[iv u0] [(.int u0)])) _
        refine XS.bipush X0.here hx rfl (hb hby d2_13) ?_
        exact k
      by_cases hc10 : u0 < (65 : Int32)
      · skip
        obtain ⟨fs, hr, hrun, hended, hW, hsame⟩ := X0.leave (v := some (.int (0 : Int32))) (fun h => by rw [Bd.returns] at h; cases h)
        refine ⟨_, _, S9 _ ?_, hrun, hended, _, _, rfl, ?_, ⟨_, rfl⟩, hW, hsame.mono (by decide) (by decide)⟩
        · skip
          show Steps p.tables e below (s₁.setTop (mkF m 15 #[iv u0] [(.int (65 : Int32)), (.int u0)])) _
          refine XS.icmpYes X0.here hx rfl (pc0 := 15) (pc' := 28) rfl (hb hby d2_15) rfl (tlt hc10).1 (by decide) (by decide) ?_
          show Steps p.tables e below (s₁.setTop (mkF m 28 #[iv u0] [])) _
          refine XS.iconst X0.here hx rfl (hb hby d2_28) ?_
          show Steps p.tables e below (s₁.setTop (mkF m 29 #[iv u0] [(.int (0 : Int32))])) _
          exact retN X0 hx (t := .boolean) Bd.returns (by simp) (hb hby d2_29) hr
        · show Q2 Z u0 h0 n0 _ s₁.heap _
          rw [e0]
          exact ⟨(by unfold own_f1; rw [if_neg hc2, if_pos hc8, if_pos hc10]), N0, rfl⟩
      · skip
        have S11 : ∀ t, Steps p.tables e below (s₁.setTop (mkF m 21 #[iv u0] [(.int (90 : Int32)), (.int u0)])) t → Steps p.tables e below (s₁.setTop (entryFrame m #[(.int u0)] 1)) t := by
          intro t k
          refine S9 t ?_
          show Steps p.tables e below (s₁.setTop (mkF m 15 #[iv u0] [(.int (65 : Int32)), (.int u0)])) _
          refine XS.icmpNo X0.here hx rfl (hb hby d2_15) rfl (flt hc10).1 ?_
          show Steps p.tables e below (s₁.setTop (mkF m 18 #[iv u0] [])) _
          refine XS.iloadN X0.here hx rfl (hb hby d2_18) rfl ?_
          show Steps p.tables e below (s₁.setTop (mkF m 19 #[iv u0] [(.int u0)])) _
          refine XS.bipush X0.here hx rfl (hb hby d2_19) ?_
          exact k
        by_cases hc12 : (90 : Int32) < u0
        · skip
          obtain ⟨fs, hr, hrun, hended, hW, hsame⟩ := X0.leave (v := some (.int (0 : Int32))) (fun h => by rw [Bd.returns] at h; cases h)
          refine ⟨_, _, S11 _ ?_, hrun, hended, _, _, rfl, ?_, ⟨_, rfl⟩, hW, hsame.mono (by decide) (by decide)⟩
          · skip
            show Steps p.tables e below (s₁.setTop (mkF m 21 #[iv u0] [(.int (90 : Int32)), (.int u0)])) _
            refine XS.icmpYes X0.here hx rfl (pc0 := 21) (pc' := 28) rfl (hb hby d2_21) rfl (tlt hc12).2.2.1 (by decide) (by decide) ?_
            show Steps p.tables e below (s₁.setTop (mkF m 28 #[iv u0] [])) _
            refine XS.iconst X0.here hx rfl (hb hby d2_28) ?_
            show Steps p.tables e below (s₁.setTop (mkF m 29 #[iv u0] [(.int (0 : Int32))])) _
            exact retN X0 hx (t := .boolean) Bd.returns (by simp) (hb hby d2_29) hr
          · show Q2 Z u0 h0 n0 _ s₁.heap _
            rw [e0]
            exact ⟨(by unfold own_f1; rw [if_neg hc2, if_pos hc8, if_neg hc10, if_pos hc12]), N0, rfl⟩
        · skip
          obtain ⟨fs, hr, hrun, hended, hW, hsame⟩ := X0.leave (v := some (.int (1 : Int32))) (fun h => by rw [Bd.returns] at h; cases h)
          refine ⟨_, _, S11 _ ?_, hrun, hended, _, _, rfl, ?_, ⟨_, rfl⟩, hW, hsame.mono (by decide) (by decide)⟩
          · skip
            show Steps p.tables e below (s₁.setTop (mkF m 21 #[iv u0] [(.int (90 : Int32)), (.int u0)])) _
            refine XS.icmpNo X0.here hx rfl (hb hby d2_21) rfl (flt hc12).2.2.1 ?_
            show Steps p.tables e below (s₁.setTop (mkF m 24 #[iv u0] [])) _
            refine XS.iconst X0.here hx rfl (hb hby d2_24) ?_
            show Steps p.tables e below (s₁.setTop (mkF m 25 #[iv u0] [(.int (1 : Int32))])) _
            refine XS.goto X0.here hx rfl (pc0 := 25) (pc' := 29) rfl (hb hby d2_25) (by decide) (by decide) ?_
            show Steps p.tables e below (s₁.setTop (mkF m 29 #[iv u0] [(.int (1 : Int32))])) _
            exact retN X0 hx (t := .boolean) Bd.returns (by simp) (hb hby d2_29) hr
          · show Q2 Z u0 h0 n0 _ s₁.heap _
            rw [e0]
            exact ⟨(by unfold own_f1; rw [if_neg hc2, if_pos hc8, if_neg hc10, if_neg hc12]), N0, rfl⟩
    · skip
      obtain ⟨fs, hr, hrun, hended, hW, hsame⟩ := X0.leave (v := some (.int (1 : Int32))) (fun h => by rw [Bd.returns] at h; cases h)
      refine ⟨_, _, S7 _ ?_, hrun, hended, _, _, rfl, ?_, ⟨_, rfl⟩, hW, hsame.mono (by decide) (by decide)⟩
      · skip
        show Steps p.tables e below (s₁.setTop (mkF m 9 #[iv u0] [(.int (122 : Int32)), (.int u0)])) _
        refine XS.icmpYes X0.here hx rfl (pc0 := 9) (pc' := 24) rfl (hb hby d2_9) rfl (flt hc8).2.2.2 (by decide) (by decide) ?_
        show Steps p.tables e below (s₁.setTop (mkF m 24 #[iv u0] [])) _
        refine XS.iconst X0.here hx rfl (hb hby d2_24) ?_
        show Steps p.tables e below (s₁.setTop (mkF m 25 #[iv u0] [(.int (1 : Int32))])) _
        refine XS.goto X0.here hx rfl (pc0 := 25) (pc' := 29) rfl (hb hby d2_25) (by decide) (by decide) ?_
        show Steps p.tables e below (s₁.setTop (mkF m 29 #[iv u0] [(.int (1 : Int32))])) _
        exact retN X0 hx (t := .boolean) Bd.returns (by simp) (hb hby d2_29) hr
      · show Q2 Z u0 h0 n0 _ s₁.heap _
        rw [e0]
        exact ⟨(by unfold own_f1; rw [if_neg hc2, if_neg hc8]), N0, rfl⟩
def own_f2 (u0 : Int32) : Int32 := if (own_f1 u0) = (0 : Int32) then (if u0 < (48 : Int32) then (if u0 = (95 : Int32) then (1 : Int32) else (if u0 = (36 : Int32) then (1 : Int32) else (if u0 = (35 : Int32) then (1 : Int32) else (0 : Int32)))) else (if (57 : Int32) < u0 then (if u0 = (95 : Int32) then (1 : Int32) else (if u0 = (36 : Int32) then (1 : Int32) else (if u0 = (35 : Int32) then (1 : Int32) else (0 : Int32)))) else (1 : Int32))) else (1 : Int32)
theorem d1_0 : decode prog_55_method_3_code 0 = .ok (.iload_n 0, 1) := by decide +kernel
theorem d1_1 : decode prog_55_method_3_code 1 = .ok (.invokestatic 7, 3) := by decide +kernel
theorem pd_0 : parseMethodDescriptor "(C)Z" = some ⟨[.char], some .boolean⟩ := by decide +kernel
theorem d1_4 : decode prog_55_method_3_code 4 = .ok (.ifCond .ne 33, 3) := by decide +kernel
theorem d1_7 : decode prog_55_method_3_code 7 = .ok (.iload_n 0, 1) := by decide +kernel
theorem d1_8 : decode prog_55_method_3_code 8 = .ok (.bipush 48, 2) := by decide +kernel
theorem d1_10 : decode prog_55_method_3_code 10 = .ok (.if_icmp .lt 9, 3) := by decide +kernel
theorem d1_19 : decode prog_55_method_3_code 19 = .ok (.iload_n 0, 1) := by decide +kernel
theorem d1_20 : decode prog_55_method_3_code 20 = .ok (.bipush 95, 2) := by decide +kernel
theorem d1_22 : decode prog_55_method_3_code 22 = .ok (.if_icmp .eq 15, 3) := by decide +kernel
theorem d1_37 : decode prog_55_method_3_code 37 = .ok (.iconst 1, 1) := by decide +kernel
theorem d1_38 : decode prog_55_method_3_code 38 = .ok (.goto 4, 3) := by decide +kernel
theorem d1_42 : decode prog_55_method_3_code 42 = .ok (.ireturn, 1) := by decide +kernel
theorem d1_25 : decode prog_55_method_3_code 25 = .ok (.iload_n 0, 1) := by decide +kernel
theorem d1_26 : decode prog_55_method_3_code 26 = .ok (.bipush 36, 2) := by decide +kernel
theorem d1_28 : decode prog_55_method_3_code 28 = .ok (.if_icmp .eq 9, 3) := by decide +kernel
theorem d1_31 : decode prog_55_method_3_code 31 = .ok (.iload_n 0, 1) := by decide +kernel
theorem d1_32 : decode prog_55_method_3_code 32 = .ok (.bipush 35, 2) := by decide +kernel
theorem d1_34 : decode prog_55_method_3_code 34 = .ok (.if_icmp .ne 7, 3) := by decide +kernel
theorem d1_41 : decode prog_55_method_3_code 41 = .ok (.iconst 0, 1) := by decide +kernel
theorem d1_13 : decode prog_55_method_3_code 13 = .ok (.iload_n 0, 1) := by decide +kernel
theorem d1_14 : decode prog_55_method_3_code 14 = .ok (.bipush 57, 2) := by decide +kernel
theorem d1_16 : decode prog_55_method_3_code 16 = .ok (.if_icmp .le 21, 3) := by decide +kernel
def Q1 (Z : State) (u0 : Int32)  (h0 : Heap) (n0 : Nat) (v : Option Value) (h : Heap) (L : List Loc) : Prop := v = some (.int (own_f2 u0)) ∧ Fr n0 L ∧ h = h0
theorem ef_rm1 (m : MethodId) (u0 : Int32) : entryFrame m #[(.int u0)] 1 = mkF m 0 #[iv u0] [] := by first | (simp [entryFrame, mkF, argsToLocals, Value.category]; done) | rfl
set_option maxRecDepth 65536 in
set_option maxHeartbeats 40000000 in
theorem rm1 (l : Launch) (Z : State) (a0 : Array Value) (hw : ∀ d ∈ tables_1, d.before a0 Z = true) (ws : List Jvm.Cond) (u0 : Int32)  (h0 : Heap) (n0 : Nat) (Z0 : n0 ≤ h0.size) :
    MetFree l (⟨"com/example/kilit/kilit/sql/Identifier", "isPart", "(C)Z"⟩ : MethodName) (head1 (Jvm.Cond.code (⟨"com/example/kilit/kilit/sql/Identifier", "isPart", "(C)Z"⟩ : MethodName) prog_55_method_3_code 1 (some .boolean) :: ws) ({ frames := 1, cells := 0, slots := 0, locals := 12 } : Room)) (fun a U => a = #[(.int u0)] ∧ Z.Warmed39 U.vm ∧ U.heap = h0) (fun _ _ _ _ _ => True) (fun _ U o U' => ∃ v L, o = .returned v ∧ Q1 Z u0 h0 n0 v U'.heap L ∧ FrameEnd U o U' L ({ frames := 1, cells := 0, slots := 0, locals := 12 } : Room).cells ({ frames := 1, cells := 0, slots := 0, locals := 12 } : Room).slots) := by
  refine MetFree.of_bodySF (plainFor_of_name pn_0) hisR ?_
  intro p e s m args below meth c s₁ Bd hml0 hP hK
  obtain ⟨rfl, hZ, hh⟩ := hP
  have hx := Bd.exec
  have hby := Bd.bytes
  have hml : c.maxLocals = 1 := hml0
  have hown : s.vm.findClass "com/example/kilit/kilit/sql/Identifier" = some m.cls := findClass_of_methodNamed Bd.named
  have hnm := (name_of_methodNamed Bd.named Bd.method).1
  have X0 : Stand p l e ({ frames := 1, cells := 0, slots := 0, locals := 12 } : Room) s m #[(.int u0)] below meth c s₁ [] 0 0 := Stand.of_body Bd
  have e0 : s₁.heap = h0 := by rw [← hh, Bd.state]; rfl
  have N0 := Fr.nil n0
  have S0 : ∀ t, Steps p.tables e below (s₁.setTop (mkF m 0 #[iv u0] [])) t → Steps p.tables e below (s₁.setTop (entryFrame m #[(.int u0)] 1)) t := fun t k => castTop (ef_rm1 m u0) k
  obtain ⟨_, _, ⟨T1, L1, k1, n1⟩, -, X1, ⟨Lc1, hQ1, l1, y1, z1⟩, st1⟩ := Jvm.LawKit.callS X0 hx (y := (⟨"com/example/kilit/kilit/sql/Identifier", "isStart", "(C)Z"⟩ : MethodName)) hown (mvT hZ (hw _ (List.mem_of_getElem? (i := 5) rfl))) (mvT hZ (hw _ (List.mem_of_getElem? (i := 6) rfl))) (mvT hZ (hw _ (List.mem_of_getElem? (i := 3) rfl))) (mvT hZ (hw _ (List.mem_of_getElem? (i := 7) rfl))) (by decide) (backOf (W := 0) (rm2 l Z a0 hw [] u0 h0 n0 Z0) hZ (hw _ (List.mem_of_getElem? (i := 7) rfl)) (hw _ (List.mem_of_getElem? (i := 3) rfl)) (by decide) (by decide)) (g := (mkF m 1 #[iv u0] [(.int u0)])) rfl (by rw [hml]; rfl) (argsL := [(.int u0)]) (rest := []) (lenOf pd_0 rfl) rfl (by show 2 * 0 + _ ≤ _; exact Nat.le_of_eq rfl) (hb hby d1_1) (fun _ _ => ⟨rfl, e0, (by decide : 0 + 0 ≤ _), (by decide : 0 + 0 ≤ _)⟩)
  dsimp only [Pt.U, Pt.locs, Pt.cells, Pt.slots] at X1 l1 y1 z1 st1 hQ1
  subst l1 y1 z1
  obtain ⟨rfl, Nq1, eq1⟩ := hQ1
  have N1 := Fr.app N0 Nq1
  have S2 : ∀ t, Steps p.tables e below (T1.setTop (mkF m 4 #[iv u0] [(.int (own_f1 u0))])) t → Steps p.tables e below (s₁.setTop (entryFrame m #[(.int u0)] 1)) t := by
    intro t k
    refine S0 t ?_
    show Steps p.tables e below (s₁.setTop (mkF m 0 #[iv u0] [])) _
    refine XS.iloadN X0.here hx rfl (hb hby d1_0) rfl ?_
    show Steps p.tables e below (s₁.setTop (mkF m 1 #[iv u0] [(.int u0)])) _
    refine st1 _ ?_
    exact k
  by_cases hc3 : (own_f1 u0) = (0 : Int32)
  · skip
    have S4 : ∀ t, Steps p.tables e below (T1.setTop (mkF m 10 #[iv u0] [(.int (48 : Int32)), (.int u0)])) t → Steps p.tables e below (s₁.setTop (entryFrame m #[(.int u0)] 1)) t := by
      intro t k
      refine S2 t ?_
      show Steps p.tables e below (T1.setTop (mkF m 4 #[iv u0] [(.int (own_f1 u0))])) _
      refine XS.ifNo X1.here hx rfl (hb hby d1_4) rfl ((if0 _ _).trans (teq hc3).2) ?_
      show Steps p.tables e below (T1.setTop (mkF m 7 #[iv u0] [])) _
      refine XS.iloadN X1.here hx rfl (hb hby d1_7) rfl ?_
      show Steps p.tables e below (T1.setTop (mkF m 8 #[iv u0] [(.int u0)])) _
      refine XS.bipush X1.here hx rfl (hb hby d1_8) ?_
      exact k
    by_cases hc5 : u0 < (48 : Int32)
    · skip
      have S6 : ∀ t, Steps p.tables e below (T1.setTop (mkF m 22 #[iv u0] [(.int (95 : Int32)), (.int u0)])) t → Steps p.tables e below (s₁.setTop (entryFrame m #[(.int u0)] 1)) t := by
        intro t k
        refine S4 t ?_
        show Steps p.tables e below (T1.setTop (mkF m 10 #[iv u0] [(.int (48 : Int32)), (.int u0)])) _
        refine XS.icmpYes X1.here hx rfl (pc0 := 10) (pc' := 19) rfl (hb hby d1_10) rfl (tlt hc5).1 (by decide) (by decide) ?_
        show Steps p.tables e below (T1.setTop (mkF m 19 #[iv u0] [])) _
        refine XS.iloadN X1.here hx rfl (hb hby d1_19) rfl ?_
        show Steps p.tables e below (T1.setTop (mkF m 20 #[iv u0] [(.int u0)])) _
        refine XS.bipush X1.here hx rfl (hb hby d1_20) ?_
        exact k
      by_cases hc7 : u0 = (95 : Int32)
      · skip
        obtain ⟨fs, hr, hrun, hended, hW, hsame⟩ := X1.leave (v := some (.int (1 : Int32))) (fun h => by rw [Bd.returns] at h; cases h)
        refine ⟨_, _, S6 _ ?_, hrun, hended, _, _, rfl, ?_, ⟨_, rfl⟩, hW, hsame.mono (by decide) (by decide)⟩
        · skip
          show Steps p.tables e below (T1.setTop (mkF m 22 #[iv u0] [(.int (95 : Int32)), (.int u0)])) _
          refine XS.icmpYes X1.here hx rfl (pc0 := 22) (pc' := 37) rfl (hb hby d1_22) rfl (teq hc7).1 (by decide) (by decide) ?_
          show Steps p.tables e below (T1.setTop (mkF m 37 #[iv u0] [])) _
          refine XS.iconst X1.here hx rfl (hb hby d1_37) ?_
          show Steps p.tables e below (T1.setTop (mkF m 38 #[iv u0] [(.int (1 : Int32))])) _
          refine XS.goto X1.here hx rfl (pc0 := 38) (pc' := 42) rfl (hb hby d1_38) (by decide) (by decide) ?_
          show Steps p.tables e below (T1.setTop (mkF m 42 #[iv u0] [(.int (1 : Int32))])) _
          exact retN X1 hx (t := .boolean) Bd.returns (by simp) (hb hby d1_42) hr
        · show Q1 Z u0 h0 n0 _ T1.heap _
          rw [eq1]
          exact ⟨(by unfold own_f2; rw [if_pos hc3, if_pos hc5, if_pos hc7]), N1, rfl⟩
      · skip
        have S8 : ∀ t, Steps p.tables e below (T1.setTop (mkF m 28 #[iv u0] [(.int (36 : Int32)), (.int u0)])) t → Steps p.tables e below (s₁.setTop (entryFrame m #[(.int u0)] 1)) t := by
          intro t k
          refine S6 t ?_
          show Steps p.tables e below (T1.setTop (mkF m 22 #[iv u0] [(.int (95 : Int32)), (.int u0)])) _
          refine XS.icmpNo X1.here hx rfl (hb hby d1_22) rfl (feq hc7).1 ?_
          show Steps p.tables e below (T1.setTop (mkF m 25 #[iv u0] [])) _
          refine XS.iloadN X1.here hx rfl (hb hby d1_25) rfl ?_
          show Steps p.tables e below (T1.setTop (mkF m 26 #[iv u0] [(.int u0)])) _
          refine XS.bipush X1.here hx rfl (hb hby d1_26) ?_
          exact k
        by_cases hc9 : u0 = (36 : Int32)
        · skip
          obtain ⟨fs, hr, hrun, hended, hW, hsame⟩ := X1.leave (v := some (.int (1 : Int32))) (fun h => by rw [Bd.returns] at h; cases h)
          refine ⟨_, _, S8 _ ?_, hrun, hended, _, _, rfl, ?_, ⟨_, rfl⟩, hW, hsame.mono (by decide) (by decide)⟩
          · skip
            show Steps p.tables e below (T1.setTop (mkF m 28 #[iv u0] [(.int (36 : Int32)), (.int u0)])) _
            refine XS.icmpYes X1.here hx rfl (pc0 := 28) (pc' := 37) rfl (hb hby d1_28) rfl (teq hc9).1 (by decide) (by decide) ?_
            show Steps p.tables e below (T1.setTop (mkF m 37 #[iv u0] [])) _
            refine XS.iconst X1.here hx rfl (hb hby d1_37) ?_
            show Steps p.tables e below (T1.setTop (mkF m 38 #[iv u0] [(.int (1 : Int32))])) _
            refine XS.goto X1.here hx rfl (pc0 := 38) (pc' := 42) rfl (hb hby d1_38) (by decide) (by decide) ?_
            show Steps p.tables e below (T1.setTop (mkF m 42 #[iv u0] [(.int (1 : Int32))])) _
            exact retN X1 hx (t := .boolean) Bd.returns (by simp) (hb hby d1_42) hr
          · show Q1 Z u0 h0 n0 _ T1.heap _
            rw [eq1]
            exact ⟨(by unfold own_f2; rw [if_pos hc3, if_pos hc5, if_neg hc7, if_pos hc9]), N1, rfl⟩
        · skip
          have S10 : ∀ t, Steps p.tables e below (T1.setTop (mkF m 34 #[iv u0] [(.int (35 : Int32)), (.int u0)])) t → Steps p.tables e below (s₁.setTop (entryFrame m #[(.int u0)] 1)) t := by
            intro t k
            refine S8 t ?_
            show Steps p.tables e below (T1.setTop (mkF m 28 #[iv u0] [(.int (36 : Int32)), (.int u0)])) _
            refine XS.icmpNo X1.here hx rfl (hb hby d1_28) rfl (feq hc9).1 ?_
            show Steps p.tables e below (T1.setTop (mkF m 31 #[iv u0] [])) _
            refine XS.iloadN X1.here hx rfl (hb hby d1_31) rfl ?_
            show Steps p.tables e below (T1.setTop (mkF m 32 #[iv u0] [(.int u0)])) _
            refine XS.bipush X1.here hx rfl (hb hby d1_32) ?_
            exact k
          by_cases hc11 : u0 = (35 : Int32)
          · skip
            obtain ⟨fs, hr, hrun, hended, hW, hsame⟩ := X1.leave (v := some (.int (1 : Int32))) (fun h => by rw [Bd.returns] at h; cases h)
            refine ⟨_, _, S10 _ ?_, hrun, hended, _, _, rfl, ?_, ⟨_, rfl⟩, hW, hsame.mono (by decide) (by decide)⟩
            · skip
              show Steps p.tables e below (T1.setTop (mkF m 34 #[iv u0] [(.int (35 : Int32)), (.int u0)])) _
              refine XS.icmpNo X1.here hx rfl (hb hby d1_34) rfl (teq hc11).2 ?_
              show Steps p.tables e below (T1.setTop (mkF m 37 #[iv u0] [])) _
              refine XS.iconst X1.here hx rfl (hb hby d1_37) ?_
              show Steps p.tables e below (T1.setTop (mkF m 38 #[iv u0] [(.int (1 : Int32))])) _
              refine XS.goto X1.here hx rfl (pc0 := 38) (pc' := 42) rfl (hb hby d1_38) (by decide) (by decide) ?_
              show Steps p.tables e below (T1.setTop (mkF m 42 #[iv u0] [(.int (1 : Int32))])) _
              exact retN X1 hx (t := .boolean) Bd.returns (by simp) (hb hby d1_42) hr
            · show Q1 Z u0 h0 n0 _ T1.heap _
              rw [eq1]
              exact ⟨(by unfold own_f2; rw [if_pos hc3, if_pos hc5, if_neg hc7, if_neg hc9, if_pos hc11]), N1, rfl⟩
          · skip
            obtain ⟨fs, hr, hrun, hended, hW, hsame⟩ := X1.leave (v := some (.int (0 : Int32))) (fun h => by rw [Bd.returns] at h; cases h)
            refine ⟨_, _, S10 _ ?_, hrun, hended, _, _, rfl, ?_, ⟨_, rfl⟩, hW, hsame.mono (by decide) (by decide)⟩
            · skip
              show Steps p.tables e below (T1.setTop (mkF m 34 #[iv u0] [(.int (35 : Int32)), (.int u0)])) _
              refine XS.icmpYes X1.here hx rfl (pc0 := 34) (pc' := 41) rfl (hb hby d1_34) rfl (feq hc11).2 (by decide) (by decide) ?_
              show Steps p.tables e below (T1.setTop (mkF m 41 #[iv u0] [])) _
              refine XS.iconst X1.here hx rfl (hb hby d1_41) ?_
              show Steps p.tables e below (T1.setTop (mkF m 42 #[iv u0] [(.int (0 : Int32))])) _
              exact retN X1 hx (t := .boolean) Bd.returns (by simp) (hb hby d1_42) hr
            · show Q1 Z u0 h0 n0 _ T1.heap _
              rw [eq1]
              exact ⟨(by unfold own_f2; rw [if_pos hc3, if_pos hc5, if_neg hc7, if_neg hc9, if_neg hc11]), N1, rfl⟩
    · skip
      have S12 : ∀ t, Steps p.tables e below (T1.setTop (mkF m 16 #[iv u0] [(.int (57 : Int32)), (.int u0)])) t → Steps p.tables e below (s₁.setTop (entryFrame m #[(.int u0)] 1)) t := by
        intro t k
        refine S4 t ?_
        show Steps p.tables e below (T1.setTop (mkF m 10 #[iv u0] [(.int (48 : Int32)), (.int u0)])) _
        refine XS.icmpNo X1.here hx rfl (hb hby d1_10) rfl (flt hc5).1 ?_
        show Steps p.tables e below (T1.setTop (mkF m 13 #[iv u0] [])) _
        refine XS.iloadN X1.here hx rfl (hb hby d1_13) rfl ?_
        show Steps p.tables e below (T1.setTop (mkF m 14 #[iv u0] [(.int u0)])) _
        refine XS.bipush X1.here hx rfl (hb hby d1_14) ?_
        exact k
      by_cases hc13 : (57 : Int32) < u0
      · skip
        have S14 : ∀ t, Steps p.tables e below (T1.setTop (mkF m 22 #[iv u0] [(.int (95 : Int32)), (.int u0)])) t → Steps p.tables e below (s₁.setTop (entryFrame m #[(.int u0)] 1)) t := by
          intro t k
          refine S12 t ?_
          show Steps p.tables e below (T1.setTop (mkF m 16 #[iv u0] [(.int (57 : Int32)), (.int u0)])) _
          refine XS.icmpNo X1.here hx rfl (hb hby d1_16) rfl (tlt hc13).2.2.2 ?_
          show Steps p.tables e below (T1.setTop (mkF m 19 #[iv u0] [])) _
          refine XS.iloadN X1.here hx rfl (hb hby d1_19) rfl ?_
          show Steps p.tables e below (T1.setTop (mkF m 20 #[iv u0] [(.int u0)])) _
          refine XS.bipush X1.here hx rfl (hb hby d1_20) ?_
          exact k
        by_cases hc15 : u0 = (95 : Int32)
        · skip
          obtain ⟨fs, hr, hrun, hended, hW, hsame⟩ := X1.leave (v := some (.int (1 : Int32))) (fun h => by rw [Bd.returns] at h; cases h)
          refine ⟨_, _, S14 _ ?_, hrun, hended, _, _, rfl, ?_, ⟨_, rfl⟩, hW, hsame.mono (by decide) (by decide)⟩
          · skip
            show Steps p.tables e below (T1.setTop (mkF m 22 #[iv u0] [(.int (95 : Int32)), (.int u0)])) _
            refine XS.icmpYes X1.here hx rfl (pc0 := 22) (pc' := 37) rfl (hb hby d1_22) rfl (teq hc15).1 (by decide) (by decide) ?_
            show Steps p.tables e below (T1.setTop (mkF m 37 #[iv u0] [])) _
            refine XS.iconst X1.here hx rfl (hb hby d1_37) ?_
            show Steps p.tables e below (T1.setTop (mkF m 38 #[iv u0] [(.int (1 : Int32))])) _
            refine XS.goto X1.here hx rfl (pc0 := 38) (pc' := 42) rfl (hb hby d1_38) (by decide) (by decide) ?_
            show Steps p.tables e below (T1.setTop (mkF m 42 #[iv u0] [(.int (1 : Int32))])) _
            exact retN X1 hx (t := .boolean) Bd.returns (by simp) (hb hby d1_42) hr
          · show Q1 Z u0 h0 n0 _ T1.heap _
            rw [eq1]
            exact ⟨(by unfold own_f2; rw [if_pos hc3, if_neg hc5, if_pos hc13, if_pos hc15]), N1, rfl⟩
        · skip
          have S16 : ∀ t, Steps p.tables e below (T1.setTop (mkF m 28 #[iv u0] [(.int (36 : Int32)), (.int u0)])) t → Steps p.tables e below (s₁.setTop (entryFrame m #[(.int u0)] 1)) t := by
            intro t k
            refine S14 t ?_
            show Steps p.tables e below (T1.setTop (mkF m 22 #[iv u0] [(.int (95 : Int32)), (.int u0)])) _
            refine XS.icmpNo X1.here hx rfl (hb hby d1_22) rfl (feq hc15).1 ?_
            show Steps p.tables e below (T1.setTop (mkF m 25 #[iv u0] [])) _
            refine XS.iloadN X1.here hx rfl (hb hby d1_25) rfl ?_
            show Steps p.tables e below (T1.setTop (mkF m 26 #[iv u0] [(.int u0)])) _
            refine XS.bipush X1.here hx rfl (hb hby d1_26) ?_
            exact k
          by_cases hc17 : u0 = (36 : Int32)
          · skip
            obtain ⟨fs, hr, hrun, hended, hW, hsame⟩ := X1.leave (v := some (.int (1 : Int32))) (fun h => by rw [Bd.returns] at h; cases h)
            refine ⟨_, _, S16 _ ?_, hrun, hended, _, _, rfl, ?_, ⟨_, rfl⟩, hW, hsame.mono (by decide) (by decide)⟩
            · skip
              show Steps p.tables e below (T1.setTop (mkF m 28 #[iv u0] [(.int (36 : Int32)), (.int u0)])) _
              refine XS.icmpYes X1.here hx rfl (pc0 := 28) (pc' := 37) rfl (hb hby d1_28) rfl (teq hc17).1 (by decide) (by decide) ?_
              show Steps p.tables e below (T1.setTop (mkF m 37 #[iv u0] [])) _
              refine XS.iconst X1.here hx rfl (hb hby d1_37) ?_
              show Steps p.tables e below (T1.setTop (mkF m 38 #[iv u0] [(.int (1 : Int32))])) _
              refine XS.goto X1.here hx rfl (pc0 := 38) (pc' := 42) rfl (hb hby d1_38) (by decide) (by decide) ?_
              show Steps p.tables e below (T1.setTop (mkF m 42 #[iv u0] [(.int (1 : Int32))])) _
              exact retN X1 hx (t := .boolean) Bd.returns (by simp) (hb hby d1_42) hr
            · show Q1 Z u0 h0 n0 _ T1.heap _
              rw [eq1]
              exact ⟨(by unfold own_f2; rw [if_pos hc3, if_neg hc5, if_pos hc13, if_neg hc15, if_pos hc17]), N1, rfl⟩
          · skip
            have S18 : ∀ t, Steps p.tables e below (T1.setTop (mkF m 34 #[iv u0] [(.int (35 : Int32)), (.int u0)])) t → Steps p.tables e below (s₁.setTop (entryFrame m #[(.int u0)] 1)) t := by
              intro t k
              refine S16 t ?_
              show Steps p.tables e below (T1.setTop (mkF m 28 #[iv u0] [(.int (36 : Int32)), (.int u0)])) _
              refine XS.icmpNo X1.here hx rfl (hb hby d1_28) rfl (feq hc17).1 ?_
              show Steps p.tables e below (T1.setTop (mkF m 31 #[iv u0] [])) _
              refine XS.iloadN X1.here hx rfl (hb hby d1_31) rfl ?_
              show Steps p.tables e below (T1.setTop (mkF m 32 #[iv u0] [(.int u0)])) _
              refine XS.bipush X1.here hx rfl (hb hby d1_32) ?_
              exact k
            by_cases hc19 : u0 = (35 : Int32)
            · skip
              obtain ⟨fs, hr, hrun, hended, hW, hsame⟩ := X1.leave (v := some (.int (1 : Int32))) (fun h => by rw [Bd.returns] at h; cases h)
              refine ⟨_, _, S18 _ ?_, hrun, hended, _, _, rfl, ?_, ⟨_, rfl⟩, hW, hsame.mono (by decide) (by decide)⟩
              · skip
                show Steps p.tables e below (T1.setTop (mkF m 34 #[iv u0] [(.int (35 : Int32)), (.int u0)])) _
                refine XS.icmpNo X1.here hx rfl (hb hby d1_34) rfl (teq hc19).2 ?_
                show Steps p.tables e below (T1.setTop (mkF m 37 #[iv u0] [])) _
                refine XS.iconst X1.here hx rfl (hb hby d1_37) ?_
                show Steps p.tables e below (T1.setTop (mkF m 38 #[iv u0] [(.int (1 : Int32))])) _
                refine XS.goto X1.here hx rfl (pc0 := 38) (pc' := 42) rfl (hb hby d1_38) (by decide) (by decide) ?_
                show Steps p.tables e below (T1.setTop (mkF m 42 #[iv u0] [(.int (1 : Int32))])) _
                exact retN X1 hx (t := .boolean) Bd.returns (by simp) (hb hby d1_42) hr
              · show Q1 Z u0 h0 n0 _ T1.heap _
                rw [eq1]
                exact ⟨(by unfold own_f2; rw [if_pos hc3, if_neg hc5, if_pos hc13, if_neg hc15, if_neg hc17, if_pos hc19]), N1, rfl⟩
            · skip
              obtain ⟨fs, hr, hrun, hended, hW, hsame⟩ := X1.leave (v := some (.int (0 : Int32))) (fun h => by rw [Bd.returns] at h; cases h)
              refine ⟨_, _, S18 _ ?_, hrun, hended, _, _, rfl, ?_, ⟨_, rfl⟩, hW, hsame.mono (by decide) (by decide)⟩
              · skip
                show Steps p.tables e below (T1.setTop (mkF m 34 #[iv u0] [(.int (35 : Int32)), (.int u0)])) _
                refine XS.icmpYes X1.here hx rfl (pc0 := 34) (pc' := 41) rfl (hb hby d1_34) rfl (feq hc19).2 (by decide) (by decide) ?_
                show Steps p.tables e below (T1.setTop (mkF m 41 #[iv u0] [])) _
                refine XS.iconst X1.here hx rfl (hb hby d1_41) ?_
                show Steps p.tables e below (T1.setTop (mkF m 42 #[iv u0] [(.int (0 : Int32))])) _
                exact retN X1 hx (t := .boolean) Bd.returns (by simp) (hb hby d1_42) hr
              · show Q1 Z u0 h0 n0 _ T1.heap _
                rw [eq1]
                exact ⟨(by unfold own_f2; rw [if_pos hc3, if_neg hc5, if_pos hc13, if_neg hc15, if_neg hc17, if_neg hc19]), N1, rfl⟩
      · skip
        obtain ⟨fs, hr, hrun, hended, hW, hsame⟩ := X1.leave (v := some (.int (1 : Int32))) (fun h => by rw [Bd.returns] at h; cases h)
        refine ⟨_, _, S12 _ ?_, hrun, hended, _, _, rfl, ?_, ⟨_, rfl⟩, hW, hsame.mono (by decide) (by decide)⟩
        · skip
          show Steps p.tables e below (T1.setTop (mkF m 16 #[iv u0] [(.int (57 : Int32)), (.int u0)])) _
          refine XS.icmpYes X1.here hx rfl (pc0 := 16) (pc' := 37) rfl (hb hby d1_16) rfl (flt hc13).2.2.2 (by decide) (by decide) ?_
          show Steps p.tables e below (T1.setTop (mkF m 37 #[iv u0] [])) _
          refine XS.iconst X1.here hx rfl (hb hby d1_37) ?_
          show Steps p.tables e below (T1.setTop (mkF m 38 #[iv u0] [(.int (1 : Int32))])) _
          refine XS.goto X1.here hx rfl (pc0 := 38) (pc' := 42) rfl (hb hby d1_38) (by decide) (by decide) ?_
          show Steps p.tables e below (T1.setTop (mkF m 42 #[iv u0] [(.int (1 : Int32))])) _
          exact retN X1 hx (t := .boolean) Bd.returns (by simp) (hb hby d1_42) hr
        · show Q1 Z u0 h0 n0 _ T1.heap _
          rw [eq1]
          exact ⟨(by unfold own_f2; rw [if_pos hc3, if_neg hc5, if_neg hc13]), N1, rfl⟩
  · skip
    obtain ⟨fs, hr, hrun, hended, hW, hsame⟩ := X1.leave (v := some (.int (1 : Int32))) (fun h => by rw [Bd.returns] at h; cases h)
    refine ⟨_, _, S2 _ ?_, hrun, hended, _, _, rfl, ?_, ⟨_, rfl⟩, hW, hsame.mono (by decide) (by decide)⟩
    · skip
      show Steps p.tables e below (T1.setTop (mkF m 4 #[iv u0] [(.int (own_f1 u0))])) _
      refine XS.ifYes X1.here hx rfl (pc0 := 4) (pc' := 37) rfl (hb hby d1_4) rfl ((if0 _ _).trans (feq hc3).2) (by decide) (by decide) ?_
      show Steps p.tables e below (T1.setTop (mkF m 37 #[iv u0] [])) _
      refine XS.iconst X1.here hx rfl (hb hby d1_37) ?_
      show Steps p.tables e below (T1.setTop (mkF m 38 #[iv u0] [(.int (1 : Int32))])) _
      refine XS.goto X1.here hx rfl (pc0 := 38) (pc' := 42) rfl (hb hby d1_38) (by decide) (by decide) ?_
      show Steps p.tables e below (T1.setTop (mkF m 42 #[iv u0] [(.int (1 : Int32))])) _
      exact retN X1 hx (t := .boolean) Bd.returns (by simp) (hb hby d1_42) hr
    · show Q1 Z u0 h0 n0 _ T1.heap _
      rw [eq1]
      exact ⟨(by unfold own_f2; rw [if_neg hc3]), N1, rfl⟩
def own_f3 (u0 : Int32) : Int32 := if (u0 ||| (32 : Int32)) < (97 : Int32) then (if (u0 - (48 : Int32)) < (0 : Int32) then (if u0 = (95 : Int32) then (1 : Int32) else (if u0 = (36 : Int32) then (1 : Int32) else (if u0 = (35 : Int32) then (1 : Int32) else (0 : Int32)))) else (if (u0 - (48 : Int32)) < (10 : Int32) then (if u0 = (95 : Int32) then (1 : Int32) else (if u0 = (36 : Int32) then (1 : Int32) else (if u0 = (35 : Int32) then (1 : Int32) else (1 : Int32)))) else (if u0 = (95 : Int32) then (1 : Int32) else (if u0 = (36 : Int32) then (1 : Int32) else (if u0 = (35 : Int32) then (1 : Int32) else (0 : Int32)))))) else (if (122 : Int32) < (u0 ||| (32 : Int32)) then (if (u0 - (48 : Int32)) < (0 : Int32) then (if u0 = (95 : Int32) then (1 : Int32) else (if u0 = (36 : Int32) then (1 : Int32) else (if u0 = (35 : Int32) then (1 : Int32) else (0 : Int32)))) else (if (u0 - (48 : Int32)) < (10 : Int32) then (if u0 = (95 : Int32) then (1 : Int32) else (if u0 = (36 : Int32) then (1 : Int32) else (if u0 = (35 : Int32) then (1 : Int32) else (1 : Int32)))) else (if u0 = (95 : Int32) then (1 : Int32) else (if u0 = (36 : Int32) then (1 : Int32) else (if u0 = (35 : Int32) then (1 : Int32) else (0 : Int32)))))) else (if (u0 - (48 : Int32)) < (0 : Int32) then (if u0 = (95 : Int32) then (1 : Int32) else (if u0 = (36 : Int32) then (1 : Int32) else (if u0 = (35 : Int32) then (1 : Int32) else (1 : Int32)))) else (if (u0 - (48 : Int32)) < (10 : Int32) then (if u0 = (95 : Int32) then (1 : Int32) else (if u0 = (36 : Int32) then (1 : Int32) else (if u0 = (35 : Int32) then (1 : Int32) else (1 : Int32)))) else (if u0 = (95 : Int32) then (1 : Int32) else (if u0 = (36 : Int32) then (1 : Int32) else (if u0 = (35 : Int32) then (1 : Int32) else (1 : Int32)))))))
theorem d3_0 : decode method_2_code 0 = .ok (.iload_n 0, 1) := by decide +kernel
theorem d3_1 : decode method_2_code 1 = .ok (.bipush 32, 2) := by decide +kernel
theorem d3_3 : decode method_2_code 3 = .ok (.ior, 1) := by decide +kernel
theorem d3_4 : decode method_2_code 4 = .ok (.istore_n 1, 1) := by decide +kernel
theorem d3_5 : decode method_2_code 5 = .ok (.iload_n 1, 1) := by decide +kernel
theorem d3_6 : decode method_2_code 6 = .ok (.bipush 97, 2) := by decide +kernel
theorem d3_8 : decode method_2_code 8 = .ok (.if_icmp .lt 13, 3) := by decide +kernel
theorem d3_21 : decode method_2_code 21 = .ok (.iconst 0, 1) := by decide +kernel
theorem d3_22 : decode method_2_code 22 = .ok (.istore_n 2, 1) := by decide +kernel
theorem d3_23 : decode method_2_code 23 = .ok (.iload_n 0, 1) := by decide +kernel
theorem d3_24 : decode method_2_code 24 = .ok (.bipush 48, 2) := by decide +kernel
theorem d3_26 : decode method_2_code 26 = .ok (.isub, 1) := by decide +kernel
theorem d3_27 : decode method_2_code 27 = .ok (.istore_n 3, 1) := by decide +kernel
theorem d3_28 : decode method_2_code 28 = .ok (.iload_n 3, 1) := by decide +kernel
theorem d3_29 : decode method_2_code 29 = .ok (.ifCond .lt 13, 3) := by decide +kernel
theorem d3_42 : decode method_2_code 42 = .ok (.iconst 0, 1) := by decide +kernel
theorem d3_43 : decode method_2_code 43 = .ok (.istore 4, 2) := by decide +kernel
theorem d3_45 : decode method_2_code 45 = .ok (.iload_n 0, 1) := by decide +kernel
theorem d3_46 : decode method_2_code 46 = .ok (.bipush 95, 2) := by decide +kernel
theorem d3_48 : decode method_2_code 48 = .ok (.if_icmp .eq 15, 3) := by decide +kernel
theorem d3_63 : decode method_2_code 63 = .ok (.iconst 1, 1) := by decide +kernel
theorem d3_64 : decode method_2_code 64 = .ok (.goto 4, 3) := by decide +kernel
theorem d3_68 : decode method_2_code 68 = .ok (.istore 5, 2) := by decide +kernel
theorem d3_70 : decode method_2_code 70 = .ok (.iload_n 2, 1) := by decide +kernel
theorem d3_71 : decode method_2_code 71 = .ok (.ifCond .ne 13, 3) := by decide +kernel
theorem d3_74 : decode method_2_code 74 = .ok (.iload 4, 2) := by decide +kernel
theorem d3_76 : decode method_2_code 76 = .ok (.ifCond .ne 8, 3) := by decide +kernel
theorem d3_79 : decode method_2_code 79 = .ok (.iload 5, 2) := by decide +kernel
theorem d3_81 : decode method_2_code 81 = .ok (.ifCond .eq 7, 3) := by decide +kernel
theorem d3_84 : decode method_2_code 84 = .ok (.iconst 1, 1) := by decide +kernel
theorem d3_85 : decode method_2_code 85 = .ok (.goto 4, 3) := by decide +kernel
theorem d3_89 : decode method_2_code 89 = .ok (.ireturn, 1) := by decide +kernel
theorem d3_51 : decode method_2_code 51 = .ok (.iload_n 0, 1) := by decide +kernel
theorem d3_52 : decode method_2_code 52 = .ok (.bipush 36, 2) := by decide +kernel
theorem d3_54 : decode method_2_code 54 = .ok (.if_icmp .eq 9, 3) := by decide +kernel
theorem d3_57 : decode method_2_code 57 = .ok (.iload_n 0, 1) := by decide +kernel
theorem d3_58 : decode method_2_code 58 = .ok (.bipush 35, 2) := by decide +kernel
theorem d3_60 : decode method_2_code 60 = .ok (.if_icmp .ne 7, 3) := by decide +kernel
theorem d3_67 : decode method_2_code 67 = .ok (.iconst 0, 1) := by decide +kernel
theorem d3_88 : decode method_2_code 88 = .ok (.iconst 0, 1) := by decide +kernel
theorem d3_32 : decode method_2_code 32 = .ok (.iload_n 3, 1) := by decide +kernel
theorem d3_33 : decode method_2_code 33 = .ok (.bipush 10, 2) := by decide +kernel
theorem d3_35 : decode method_2_code 35 = .ok (.if_icmp .ge 7, 3) := by decide +kernel
theorem d3_38 : decode method_2_code 38 = .ok (.iconst 1, 1) := by decide +kernel
theorem d3_39 : decode method_2_code 39 = .ok (.goto 4, 3) := by decide +kernel
theorem d3_11 : decode method_2_code 11 = .ok (.iload_n 1, 1) := by decide +kernel
theorem d3_12 : decode method_2_code 12 = .ok (.bipush 122, 2) := by decide +kernel
theorem d3_14 : decode method_2_code 14 = .ok (.if_icmp .gt 7, 3) := by decide +kernel
theorem d3_17 : decode method_2_code 17 = .ok (.iconst 1, 1) := by decide +kernel
theorem d3_18 : decode method_2_code 18 = .ok (.goto 4, 3) := by decide +kernel
theorem pn_1 : plainName "com/example/kilit/kilit/sql/IdentifierIsPartPinLaw" = true := by first | (simp [plainName, overriddenIn]; done) | decide +kernel
def Q3 (Z : State) (u0 : Int32)  (h0 : Heap) (n0 : Nat) (v : Option Value) (h : Heap) (L : List Loc) : Prop := v = some (.int (own_f3 u0)) ∧ Fr n0 L ∧ h = h0
theorem ef_rm3 (m : MethodId) (u0 : Int32) : entryFrame m #[(.int u0)] 6 = mkF m 0 #[iv u0, .unset, .unset, .unset, .unset, .unset] [] := by first | (simp [entryFrame, mkF, argsToLocals, Value.category]; done) | rfl
set_option maxRecDepth 65536 in
set_option maxHeartbeats 40000000 in
theorem rm3 (l : Launch) (Z : State) (a0 : Array Value) (hw : ∀ d ∈ tables_1, d.before a0 Z = true) (ws : List Jvm.Cond) (u0 : Int32)  (h0 : Heap) (n0 : Nat) (Z0 : n0 ≤ h0.size) :
    MetFree l (⟨"com/example/kilit/kilit/sql/IdentifierIsPartPinLaw", "expected", "(I)Z"⟩ : MethodName) (head1 (Jvm.Cond.code (⟨"com/example/kilit/kilit/sql/IdentifierIsPartPinLaw", "expected", "(I)Z"⟩ : MethodName) method_2_code 6 (some .boolean) :: ws) ({ frames := 0, cells := 0, slots := 0, locals := 0 } : Room)) (fun a U => a = #[(.int u0)] ∧ Z.Warmed39 U.vm ∧ U.heap = h0) (fun _ _ _ _ _ => True) (fun _ U o U' => ∃ v L, o = .returned v ∧ Q3 Z u0 h0 n0 v U'.heap L ∧ FrameEnd U o U' L ({ frames := 0, cells := 0, slots := 0, locals := 0 } : Room).cells ({ frames := 0, cells := 0, slots := 0, locals := 0 } : Room).slots) := by
  refine MetFree.of_bodySF (plainFor_of_name pn_1) hisR ?_
  intro p e s m args below meth c s₁ Bd hml0 hP hK
  obtain ⟨rfl, hZ, hh⟩ := hP
  have hx := Bd.exec
  have hby := Bd.bytes
  have hml : c.maxLocals = 6 := hml0
  have hown : s.vm.findClass "com/example/kilit/kilit/sql/IdentifierIsPartPinLaw" = some m.cls := findClass_of_methodNamed Bd.named
  have hnm := (name_of_methodNamed Bd.named Bd.method).1
  have X0 : Stand p l e ({ frames := 0, cells := 0, slots := 0, locals := 0 } : Room) s m #[(.int u0)] below meth c s₁ [] 0 0 := Stand.of_body Bd
  have e0 : s₁.heap = h0 := by rw [← hh, Bd.state]; rfl
  have N0 := Fr.nil n0
  have S0 : ∀ t, Steps p.tables e below (s₁.setTop (mkF m 0 #[iv u0, .unset, .unset, .unset, .unset, .unset] [])) t → Steps p.tables e below (s₁.setTop (entryFrame m #[(.int u0)] 6)) t := fun t k => castTop (ef_rm3 m u0) k
  have S1 : ∀ t, Steps p.tables e below (s₁.setTop (mkF m 8 #[iv u0, iv (u0 ||| (32 : Int32)), .unset, .unset, .unset, .unset] [(.int (97 : Int32)), (.int (u0 ||| (32 : Int32)))])) t → Steps p.tables e below (s₁.setTop (entryFrame m #[(.int u0)] 6)) t := by
    intro t k
    refine S0 t ?_
    show Steps p.tables e below (s₁.setTop (mkF m 0 #[iv u0, .unset, .unset, .unset, .unset, .unset] [])) _
    refine XS.iloadN X0.here hx rfl (hb hby d3_0) rfl ?_
    show Steps p.tables e below (s₁.setTop (mkF m 1 #[iv u0, .unset, .unset, .unset, .unset, .unset] [(.int u0)])) _
    refine XS.bipush X0.here hx rfl (hb hby d3_1) ?_
    show Steps p.tables e below (s₁.setTop (mkF m 3 #[iv u0, .unset, .unset, .unset, .unset, .unset] [(.int (32 : Int32)), (.int u0)])) _
    refine XS.ior X0.here hx rfl (hb hby d3_3) rfl ?_
    show Steps p.tables e below (s₁.setTop (mkF m 4 #[iv u0, .unset, .unset, .unset, .unset, .unset] [(.int (u0 ||| (32 : Int32)))])) _
    refine XS.istoreN X0.here hx rfl (hb hby d3_4) rfl (l' := #[iv u0, iv (u0 ||| (32 : Int32)), .unset, .unset, .unset, .unset]) rfl ?_
    show Steps p.tables e below (s₁.setTop (mkF m 5 #[iv u0, iv (u0 ||| (32 : Int32)), .unset, .unset, .unset, .unset] [])) _
    refine XS.iloadN X0.here hx rfl (hb hby d3_5) rfl ?_
    show Steps p.tables e below (s₁.setTop (mkF m 6 #[iv u0, iv (u0 ||| (32 : Int32)), .unset, .unset, .unset, .unset] [(.int (u0 ||| (32 : Int32)))])) _
    refine XS.bipush X0.here hx rfl (hb hby d3_6) ?_
    exact k
  by_cases hc2 : (u0 ||| (32 : Int32)) < (97 : Int32)
  · skip
    have S3 : ∀ t, Steps p.tables e below (s₁.setTop (mkF m 29 #[iv u0, iv (u0 ||| (32 : Int32)), iv (0 : Int32), iv (u0 - (48 : Int32)), .unset, .unset] [(.int (u0 - (48 : Int32)))])) t → Steps p.tables e below (s₁.setTop (entryFrame m #[(.int u0)] 6)) t := by
      intro t k
      refine S1 t ?_
      show Steps p.tables e below (s₁.setTop (mkF m 8 #[iv u0, iv (u0 ||| (32 : Int32)), .unset, .unset, .unset, .unset] [(.int (97 : Int32)), (.int (u0 ||| (32 : Int32)))])) _
      refine XS.icmpYes X0.here hx rfl (pc0 := 8) (pc' := 21) rfl (hb hby d3_8) rfl (tlt hc2).1 (by decide) (by decide) ?_
      show Steps p.tables e below (s₁.setTop (mkF m 21 #[iv u0, iv (u0 ||| (32 : Int32)), .unset, .unset, .unset, .unset] [])) _
      refine XS.iconst X0.here hx rfl (hb hby d3_21) ?_
      show Steps p.tables e below (s₁.setTop (mkF m 22 #[iv u0, iv (u0 ||| (32 : Int32)), .unset, .unset, .unset, .unset] [(.int (0 : Int32))])) _
      refine XS.istoreN X0.here hx rfl (hb hby d3_22) rfl (l' := #[iv u0, iv (u0 ||| (32 : Int32)), iv (0 : Int32), .unset, .unset, .unset]) rfl ?_
      show Steps p.tables e below (s₁.setTop (mkF m 23 #[iv u0, iv (u0 ||| (32 : Int32)), iv (0 : Int32), .unset, .unset, .unset] [])) _
      refine XS.iloadN X0.here hx rfl (hb hby d3_23) rfl ?_
      show Steps p.tables e below (s₁.setTop (mkF m 24 #[iv u0, iv (u0 ||| (32 : Int32)), iv (0 : Int32), .unset, .unset, .unset] [(.int u0)])) _
      refine XS.bipush X0.here hx rfl (hb hby d3_24) ?_
      show Steps p.tables e below (s₁.setTop (mkF m 26 #[iv u0, iv (u0 ||| (32 : Int32)), iv (0 : Int32), .unset, .unset, .unset] [(.int (48 : Int32)), (.int u0)])) _
      refine XS.isub X0.here hx rfl (hb hby d3_26) rfl ?_
      show Steps p.tables e below (s₁.setTop (mkF m 27 #[iv u0, iv (u0 ||| (32 : Int32)), iv (0 : Int32), .unset, .unset, .unset] [(.int (u0 - (48 : Int32)))])) _
      refine XS.istoreN X0.here hx rfl (hb hby d3_27) rfl (l' := #[iv u0, iv (u0 ||| (32 : Int32)), iv (0 : Int32), iv (u0 - (48 : Int32)), .unset, .unset]) rfl ?_
      show Steps p.tables e below (s₁.setTop (mkF m 28 #[iv u0, iv (u0 ||| (32 : Int32)), iv (0 : Int32), iv (u0 - (48 : Int32)), .unset, .unset] [])) _
      refine XS.iloadN X0.here hx rfl (hb hby d3_28) rfl ?_
      exact k
    by_cases hc4 : (u0 - (48 : Int32)) < (0 : Int32)
    · skip
      have S5 : ∀ t, Steps p.tables e below (s₁.setTop (mkF m 48 #[iv u0, iv (u0 ||| (32 : Int32)), iv (0 : Int32), iv (u0 - (48 : Int32)), iv (0 : Int32), .unset] [(.int (95 : Int32)), (.int u0)])) t → Steps p.tables e below (s₁.setTop (entryFrame m #[(.int u0)] 6)) t := by
        intro t k
        refine S3 t ?_
        show Steps p.tables e below (s₁.setTop (mkF m 29 #[iv u0, iv (u0 ||| (32 : Int32)), iv (0 : Int32), iv (u0 - (48 : Int32)), .unset, .unset] [(.int (u0 - (48 : Int32)))])) _
        refine XS.ifYes X0.here hx rfl (pc0 := 29) (pc' := 42) rfl (hb hby d3_29) rfl ((if0 _ _).trans (tlt hc4).1) (by decide) (by decide) ?_
        show Steps p.tables e below (s₁.setTop (mkF m 42 #[iv u0, iv (u0 ||| (32 : Int32)), iv (0 : Int32), iv (u0 - (48 : Int32)), .unset, .unset] [])) _
        refine XS.iconst X0.here hx rfl (hb hby d3_42) ?_
        show Steps p.tables e below (s₁.setTop (mkF m 43 #[iv u0, iv (u0 ||| (32 : Int32)), iv (0 : Int32), iv (u0 - (48 : Int32)), .unset, .unset] [(.int (0 : Int32))])) _
        refine XS.istore X0.here hx rfl (hb hby d3_43) rfl (l' := #[iv u0, iv (u0 ||| (32 : Int32)), iv (0 : Int32), iv (u0 - (48 : Int32)), iv (0 : Int32), .unset]) rfl ?_
        show Steps p.tables e below (s₁.setTop (mkF m 45 #[iv u0, iv (u0 ||| (32 : Int32)), iv (0 : Int32), iv (u0 - (48 : Int32)), iv (0 : Int32), .unset] [])) _
        refine XS.iloadN X0.here hx rfl (hb hby d3_45) rfl ?_
        show Steps p.tables e below (s₁.setTop (mkF m 46 #[iv u0, iv (u0 ||| (32 : Int32)), iv (0 : Int32), iv (u0 - (48 : Int32)), iv (0 : Int32), .unset] [(.int u0)])) _
        refine XS.bipush X0.here hx rfl (hb hby d3_46) ?_
        exact k
      by_cases hc6 : u0 = (95 : Int32)
      · skip
        obtain ⟨fs, hr, hrun, hended, hW, hsame⟩ := X0.leave (v := some (.int (1 : Int32))) (fun h => by rw [Bd.returns] at h; cases h)
        refine ⟨_, _, S5 _ ?_, hrun, hended, _, _, rfl, ?_, ⟨_, rfl⟩, hW, hsame.mono (by decide) (by decide)⟩
        · skip
          show Steps p.tables e below (s₁.setTop (mkF m 48 #[iv u0, iv (u0 ||| (32 : Int32)), iv (0 : Int32), iv (u0 - (48 : Int32)), iv (0 : Int32), .unset] [(.int (95 : Int32)), (.int u0)])) _
          refine XS.icmpYes X0.here hx rfl (pc0 := 48) (pc' := 63) rfl (hb hby d3_48) rfl (teq hc6).1 (by decide) (by decide) ?_
          show Steps p.tables e below (s₁.setTop (mkF m 63 #[iv u0, iv (u0 ||| (32 : Int32)), iv (0 : Int32), iv (u0 - (48 : Int32)), iv (0 : Int32), .unset] [])) _
          refine XS.iconst X0.here hx rfl (hb hby d3_63) ?_
          show Steps p.tables e below (s₁.setTop (mkF m 64 #[iv u0, iv (u0 ||| (32 : Int32)), iv (0 : Int32), iv (u0 - (48 : Int32)), iv (0 : Int32), .unset] [(.int (1 : Int32))])) _
          refine XS.goto X0.here hx rfl (pc0 := 64) (pc' := 68) rfl (hb hby d3_64) (by decide) (by decide) ?_
          show Steps p.tables e below (s₁.setTop (mkF m 68 #[iv u0, iv (u0 ||| (32 : Int32)), iv (0 : Int32), iv (u0 - (48 : Int32)), iv (0 : Int32), .unset] [(.int (1 : Int32))])) _
          refine XS.istore X0.here hx rfl (hb hby d3_68) rfl (l' := #[iv u0, iv (u0 ||| (32 : Int32)), iv (0 : Int32), iv (u0 - (48 : Int32)), iv (0 : Int32), iv (1 : Int32)]) rfl ?_
          show Steps p.tables e below (s₁.setTop (mkF m 70 #[iv u0, iv (u0 ||| (32 : Int32)), iv (0 : Int32), iv (u0 - (48 : Int32)), iv (0 : Int32), iv (1 : Int32)] [])) _
          refine XS.iloadN X0.here hx rfl (hb hby d3_70) rfl ?_
          show Steps p.tables e below (s₁.setTop (mkF m 71 #[iv u0, iv (u0 ||| (32 : Int32)), iv (0 : Int32), iv (u0 - (48 : Int32)), iv (0 : Int32), iv (1 : Int32)] [(.int (0 : Int32))])) _
          refine XS.ifNo X0.here hx rfl (hb hby d3_71) rfl ((if0 _ _).trans (teq (by decide : (0 : Int32) = (0 : Int32))).2) ?_
          show Steps p.tables e below (s₁.setTop (mkF m 74 #[iv u0, iv (u0 ||| (32 : Int32)), iv (0 : Int32), iv (u0 - (48 : Int32)), iv (0 : Int32), iv (1 : Int32)] [])) _
          refine XS.iload X0.here hx rfl (hb hby d3_74) rfl ?_
          show Steps p.tables e below (s₁.setTop (mkF m 76 #[iv u0, iv (u0 ||| (32 : Int32)), iv (0 : Int32), iv (u0 - (48 : Int32)), iv (0 : Int32), iv (1 : Int32)] [(.int (0 : Int32))])) _
          refine XS.ifNo X0.here hx rfl (hb hby d3_76) rfl ((if0 _ _).trans (teq (by decide : (0 : Int32) = (0 : Int32))).2) ?_
          show Steps p.tables e below (s₁.setTop (mkF m 79 #[iv u0, iv (u0 ||| (32 : Int32)), iv (0 : Int32), iv (u0 - (48 : Int32)), iv (0 : Int32), iv (1 : Int32)] [])) _
          refine XS.iload X0.here hx rfl (hb hby d3_79) rfl ?_
          show Steps p.tables e below (s₁.setTop (mkF m 81 #[iv u0, iv (u0 ||| (32 : Int32)), iv (0 : Int32), iv (u0 - (48 : Int32)), iv (0 : Int32), iv (1 : Int32)] [(.int (1 : Int32))])) _
          refine XS.ifNo X0.here hx rfl (hb hby d3_81) rfl ((if0 _ _).trans (feq (by decide : ¬ ((1 : Int32) = (0 : Int32)))).1) ?_
          show Steps p.tables e below (s₁.setTop (mkF m 84 #[iv u0, iv (u0 ||| (32 : Int32)), iv (0 : Int32), iv (u0 - (48 : Int32)), iv (0 : Int32), iv (1 : Int32)] [])) _
          refine XS.iconst X0.here hx rfl (hb hby d3_84) ?_
          show Steps p.tables e below (s₁.setTop (mkF m 85 #[iv u0, iv (u0 ||| (32 : Int32)), iv (0 : Int32), iv (u0 - (48 : Int32)), iv (0 : Int32), iv (1 : Int32)] [(.int (1 : Int32))])) _
          refine XS.goto X0.here hx rfl (pc0 := 85) (pc' := 89) rfl (hb hby d3_85) (by decide) (by decide) ?_
          show Steps p.tables e below (s₁.setTop (mkF m 89 #[iv u0, iv (u0 ||| (32 : Int32)), iv (0 : Int32), iv (u0 - (48 : Int32)), iv (0 : Int32), iv (1 : Int32)] [(.int (1 : Int32))])) _
          exact retN X0 hx (t := .boolean) Bd.returns (by simp) (hb hby d3_89) hr
        · show Q3 Z u0 h0 n0 _ s₁.heap _
          rw [e0]
          exact ⟨(by unfold own_f3; rw [if_pos hc2, if_pos hc4, if_pos hc6]), N0, rfl⟩
      · skip
        have S7 : ∀ t, Steps p.tables e below (s₁.setTop (mkF m 54 #[iv u0, iv (u0 ||| (32 : Int32)), iv (0 : Int32), iv (u0 - (48 : Int32)), iv (0 : Int32), .unset] [(.int (36 : Int32)), (.int u0)])) t → Steps p.tables e below (s₁.setTop (entryFrame m #[(.int u0)] 6)) t := by
          intro t k
          refine S5 t ?_
          show Steps p.tables e below (s₁.setTop (mkF m 48 #[iv u0, iv (u0 ||| (32 : Int32)), iv (0 : Int32), iv (u0 - (48 : Int32)), iv (0 : Int32), .unset] [(.int (95 : Int32)), (.int u0)])) _
          refine XS.icmpNo X0.here hx rfl (hb hby d3_48) rfl (feq hc6).1 ?_
          show Steps p.tables e below (s₁.setTop (mkF m 51 #[iv u0, iv (u0 ||| (32 : Int32)), iv (0 : Int32), iv (u0 - (48 : Int32)), iv (0 : Int32), .unset] [])) _
          refine XS.iloadN X0.here hx rfl (hb hby d3_51) rfl ?_
          show Steps p.tables e below (s₁.setTop (mkF m 52 #[iv u0, iv (u0 ||| (32 : Int32)), iv (0 : Int32), iv (u0 - (48 : Int32)), iv (0 : Int32), .unset] [(.int u0)])) _
          refine XS.bipush X0.here hx rfl (hb hby d3_52) ?_
          exact k
        by_cases hc8 : u0 = (36 : Int32)
        · skip
          obtain ⟨fs, hr, hrun, hended, hW, hsame⟩ := X0.leave (v := some (.int (1 : Int32))) (fun h => by rw [Bd.returns] at h; cases h)
          refine ⟨_, _, S7 _ ?_, hrun, hended, _, _, rfl, ?_, ⟨_, rfl⟩, hW, hsame.mono (by decide) (by decide)⟩
          · skip
            show Steps p.tables e below (s₁.setTop (mkF m 54 #[iv u0, iv (u0 ||| (32 : Int32)), iv (0 : Int32), iv (u0 - (48 : Int32)), iv (0 : Int32), .unset] [(.int (36 : Int32)), (.int u0)])) _
            refine XS.icmpYes X0.here hx rfl (pc0 := 54) (pc' := 63) rfl (hb hby d3_54) rfl (teq hc8).1 (by decide) (by decide) ?_
            show Steps p.tables e below (s₁.setTop (mkF m 63 #[iv u0, iv (u0 ||| (32 : Int32)), iv (0 : Int32), iv (u0 - (48 : Int32)), iv (0 : Int32), .unset] [])) _
            refine XS.iconst X0.here hx rfl (hb hby d3_63) ?_
            show Steps p.tables e below (s₁.setTop (mkF m 64 #[iv u0, iv (u0 ||| (32 : Int32)), iv (0 : Int32), iv (u0 - (48 : Int32)), iv (0 : Int32), .unset] [(.int (1 : Int32))])) _
            refine XS.goto X0.here hx rfl (pc0 := 64) (pc' := 68) rfl (hb hby d3_64) (by decide) (by decide) ?_
            show Steps p.tables e below (s₁.setTop (mkF m 68 #[iv u0, iv (u0 ||| (32 : Int32)), iv (0 : Int32), iv (u0 - (48 : Int32)), iv (0 : Int32), .unset] [(.int (1 : Int32))])) _
            refine XS.istore X0.here hx rfl (hb hby d3_68) rfl (l' := #[iv u0, iv (u0 ||| (32 : Int32)), iv (0 : Int32), iv (u0 - (48 : Int32)), iv (0 : Int32), iv (1 : Int32)]) rfl ?_
            show Steps p.tables e below (s₁.setTop (mkF m 70 #[iv u0, iv (u0 ||| (32 : Int32)), iv (0 : Int32), iv (u0 - (48 : Int32)), iv (0 : Int32), iv (1 : Int32)] [])) _
            refine XS.iloadN X0.here hx rfl (hb hby d3_70) rfl ?_
            show Steps p.tables e below (s₁.setTop (mkF m 71 #[iv u0, iv (u0 ||| (32 : Int32)), iv (0 : Int32), iv (u0 - (48 : Int32)), iv (0 : Int32), iv (1 : Int32)] [(.int (0 : Int32))])) _
            refine XS.ifNo X0.here hx rfl (hb hby d3_71) rfl ((if0 _ _).trans (teq (by decide : (0 : Int32) = (0 : Int32))).2) ?_
            show Steps p.tables e below (s₁.setTop (mkF m 74 #[iv u0, iv (u0 ||| (32 : Int32)), iv (0 : Int32), iv (u0 - (48 : Int32)), iv (0 : Int32), iv (1 : Int32)] [])) _
            refine XS.iload X0.here hx rfl (hb hby d3_74) rfl ?_
            show Steps p.tables e below (s₁.setTop (mkF m 76 #[iv u0, iv (u0 ||| (32 : Int32)), iv (0 : Int32), iv (u0 - (48 : Int32)), iv (0 : Int32), iv (1 : Int32)] [(.int (0 : Int32))])) _
            refine XS.ifNo X0.here hx rfl (hb hby d3_76) rfl ((if0 _ _).trans (teq (by decide : (0 : Int32) = (0 : Int32))).2) ?_
            show Steps p.tables e below (s₁.setTop (mkF m 79 #[iv u0, iv (u0 ||| (32 : Int32)), iv (0 : Int32), iv (u0 - (48 : Int32)), iv (0 : Int32), iv (1 : Int32)] [])) _
            refine XS.iload X0.here hx rfl (hb hby d3_79) rfl ?_
            show Steps p.tables e below (s₁.setTop (mkF m 81 #[iv u0, iv (u0 ||| (32 : Int32)), iv (0 : Int32), iv (u0 - (48 : Int32)), iv (0 : Int32), iv (1 : Int32)] [(.int (1 : Int32))])) _
            refine XS.ifNo X0.here hx rfl (hb hby d3_81) rfl ((if0 _ _).trans (feq (by decide : ¬ ((1 : Int32) = (0 : Int32)))).1) ?_
            show Steps p.tables e below (s₁.setTop (mkF m 84 #[iv u0, iv (u0 ||| (32 : Int32)), iv (0 : Int32), iv (u0 - (48 : Int32)), iv (0 : Int32), iv (1 : Int32)] [])) _
            refine XS.iconst X0.here hx rfl (hb hby d3_84) ?_
            show Steps p.tables e below (s₁.setTop (mkF m 85 #[iv u0, iv (u0 ||| (32 : Int32)), iv (0 : Int32), iv (u0 - (48 : Int32)), iv (0 : Int32), iv (1 : Int32)] [(.int (1 : Int32))])) _
            refine XS.goto X0.here hx rfl (pc0 := 85) (pc' := 89) rfl (hb hby d3_85) (by decide) (by decide) ?_
            show Steps p.tables e below (s₁.setTop (mkF m 89 #[iv u0, iv (u0 ||| (32 : Int32)), iv (0 : Int32), iv (u0 - (48 : Int32)), iv (0 : Int32), iv (1 : Int32)] [(.int (1 : Int32))])) _
            exact retN X0 hx (t := .boolean) Bd.returns (by simp) (hb hby d3_89) hr
          · show Q3 Z u0 h0 n0 _ s₁.heap _
            rw [e0]
            exact ⟨(by unfold own_f3; rw [if_pos hc2, if_pos hc4, if_neg hc6, if_pos hc8]), N0, rfl⟩
        · skip
          have S9 : ∀ t, Steps p.tables e below (s₁.setTop (mkF m 60 #[iv u0, iv (u0 ||| (32 : Int32)), iv (0 : Int32), iv (u0 - (48 : Int32)), iv (0 : Int32), .unset] [(.int (35 : Int32)), (.int u0)])) t → Steps p.tables e below (s₁.setTop (entryFrame m #[(.int u0)] 6)) t := by
            intro t k
            refine S7 t ?_
            show Steps p.tables e below (s₁.setTop (mkF m 54 #[iv u0, iv (u0 ||| (32 : Int32)), iv (0 : Int32), iv (u0 - (48 : Int32)), iv (0 : Int32), .unset] [(.int (36 : Int32)), (.int u0)])) _
            refine XS.icmpNo X0.here hx rfl (hb hby d3_54) rfl (feq hc8).1 ?_
            show Steps p.tables e below (s₁.setTop (mkF m 57 #[iv u0, iv (u0 ||| (32 : Int32)), iv (0 : Int32), iv (u0 - (48 : Int32)), iv (0 : Int32), .unset] [])) _
            refine XS.iloadN X0.here hx rfl (hb hby d3_57) rfl ?_
            show Steps p.tables e below (s₁.setTop (mkF m 58 #[iv u0, iv (u0 ||| (32 : Int32)), iv (0 : Int32), iv (u0 - (48 : Int32)), iv (0 : Int32), .unset] [(.int u0)])) _
            refine XS.bipush X0.here hx rfl (hb hby d3_58) ?_
            exact k
          by_cases hc10 : u0 = (35 : Int32)
          · skip
            obtain ⟨fs, hr, hrun, hended, hW, hsame⟩ := X0.leave (v := some (.int (1 : Int32))) (fun h => by rw [Bd.returns] at h; cases h)
            refine ⟨_, _, S9 _ ?_, hrun, hended, _, _, rfl, ?_, ⟨_, rfl⟩, hW, hsame.mono (by decide) (by decide)⟩
            · skip
              show Steps p.tables e below (s₁.setTop (mkF m 60 #[iv u0, iv (u0 ||| (32 : Int32)), iv (0 : Int32), iv (u0 - (48 : Int32)), iv (0 : Int32), .unset] [(.int (35 : Int32)), (.int u0)])) _
              refine XS.icmpNo X0.here hx rfl (hb hby d3_60) rfl (teq hc10).2 ?_
              show Steps p.tables e below (s₁.setTop (mkF m 63 #[iv u0, iv (u0 ||| (32 : Int32)), iv (0 : Int32), iv (u0 - (48 : Int32)), iv (0 : Int32), .unset] [])) _
              refine XS.iconst X0.here hx rfl (hb hby d3_63) ?_
              show Steps p.tables e below (s₁.setTop (mkF m 64 #[iv u0, iv (u0 ||| (32 : Int32)), iv (0 : Int32), iv (u0 - (48 : Int32)), iv (0 : Int32), .unset] [(.int (1 : Int32))])) _
              refine XS.goto X0.here hx rfl (pc0 := 64) (pc' := 68) rfl (hb hby d3_64) (by decide) (by decide) ?_
              show Steps p.tables e below (s₁.setTop (mkF m 68 #[iv u0, iv (u0 ||| (32 : Int32)), iv (0 : Int32), iv (u0 - (48 : Int32)), iv (0 : Int32), .unset] [(.int (1 : Int32))])) _
              refine XS.istore X0.here hx rfl (hb hby d3_68) rfl (l' := #[iv u0, iv (u0 ||| (32 : Int32)), iv (0 : Int32), iv (u0 - (48 : Int32)), iv (0 : Int32), iv (1 : Int32)]) rfl ?_
              show Steps p.tables e below (s₁.setTop (mkF m 70 #[iv u0, iv (u0 ||| (32 : Int32)), iv (0 : Int32), iv (u0 - (48 : Int32)), iv (0 : Int32), iv (1 : Int32)] [])) _
              refine XS.iloadN X0.here hx rfl (hb hby d3_70) rfl ?_
              show Steps p.tables e below (s₁.setTop (mkF m 71 #[iv u0, iv (u0 ||| (32 : Int32)), iv (0 : Int32), iv (u0 - (48 : Int32)), iv (0 : Int32), iv (1 : Int32)] [(.int (0 : Int32))])) _
              refine XS.ifNo X0.here hx rfl (hb hby d3_71) rfl ((if0 _ _).trans (teq (by decide : (0 : Int32) = (0 : Int32))).2) ?_
              show Steps p.tables e below (s₁.setTop (mkF m 74 #[iv u0, iv (u0 ||| (32 : Int32)), iv (0 : Int32), iv (u0 - (48 : Int32)), iv (0 : Int32), iv (1 : Int32)] [])) _
              refine XS.iload X0.here hx rfl (hb hby d3_74) rfl ?_
              show Steps p.tables e below (s₁.setTop (mkF m 76 #[iv u0, iv (u0 ||| (32 : Int32)), iv (0 : Int32), iv (u0 - (48 : Int32)), iv (0 : Int32), iv (1 : Int32)] [(.int (0 : Int32))])) _
              refine XS.ifNo X0.here hx rfl (hb hby d3_76) rfl ((if0 _ _).trans (teq (by decide : (0 : Int32) = (0 : Int32))).2) ?_
              show Steps p.tables e below (s₁.setTop (mkF m 79 #[iv u0, iv (u0 ||| (32 : Int32)), iv (0 : Int32), iv (u0 - (48 : Int32)), iv (0 : Int32), iv (1 : Int32)] [])) _
              refine XS.iload X0.here hx rfl (hb hby d3_79) rfl ?_
              show Steps p.tables e below (s₁.setTop (mkF m 81 #[iv u0, iv (u0 ||| (32 : Int32)), iv (0 : Int32), iv (u0 - (48 : Int32)), iv (0 : Int32), iv (1 : Int32)] [(.int (1 : Int32))])) _
              refine XS.ifNo X0.here hx rfl (hb hby d3_81) rfl ((if0 _ _).trans (feq (by decide : ¬ ((1 : Int32) = (0 : Int32)))).1) ?_
              show Steps p.tables e below (s₁.setTop (mkF m 84 #[iv u0, iv (u0 ||| (32 : Int32)), iv (0 : Int32), iv (u0 - (48 : Int32)), iv (0 : Int32), iv (1 : Int32)] [])) _
              refine XS.iconst X0.here hx rfl (hb hby d3_84) ?_
              show Steps p.tables e below (s₁.setTop (mkF m 85 #[iv u0, iv (u0 ||| (32 : Int32)), iv (0 : Int32), iv (u0 - (48 : Int32)), iv (0 : Int32), iv (1 : Int32)] [(.int (1 : Int32))])) _
              refine XS.goto X0.here hx rfl (pc0 := 85) (pc' := 89) rfl (hb hby d3_85) (by decide) (by decide) ?_
              show Steps p.tables e below (s₁.setTop (mkF m 89 #[iv u0, iv (u0 ||| (32 : Int32)), iv (0 : Int32), iv (u0 - (48 : Int32)), iv (0 : Int32), iv (1 : Int32)] [(.int (1 : Int32))])) _
              exact retN X0 hx (t := .boolean) Bd.returns (by simp) (hb hby d3_89) hr
            · show Q3 Z u0 h0 n0 _ s₁.heap _
              rw [e0]
              exact ⟨(by unfold own_f3; rw [if_pos hc2, if_pos hc4, if_neg hc6, if_neg hc8, if_pos hc10]), N0, rfl⟩
          · skip
            obtain ⟨fs, hr, hrun, hended, hW, hsame⟩ := X0.leave (v := some (.int (0 : Int32))) (fun h => by rw [Bd.returns] at h; cases h)
            refine ⟨_, _, S9 _ ?_, hrun, hended, _, _, rfl, ?_, ⟨_, rfl⟩, hW, hsame.mono (by decide) (by decide)⟩
            · skip
              show Steps p.tables e below (s₁.setTop (mkF m 60 #[iv u0, iv (u0 ||| (32 : Int32)), iv (0 : Int32), iv (u0 - (48 : Int32)), iv (0 : Int32), .unset] [(.int (35 : Int32)), (.int u0)])) _
              refine XS.icmpYes X0.here hx rfl (pc0 := 60) (pc' := 67) rfl (hb hby d3_60) rfl (feq hc10).2 (by decide) (by decide) ?_
              show Steps p.tables e below (s₁.setTop (mkF m 67 #[iv u0, iv (u0 ||| (32 : Int32)), iv (0 : Int32), iv (u0 - (48 : Int32)), iv (0 : Int32), .unset] [])) _
              refine XS.iconst X0.here hx rfl (hb hby d3_67) ?_
              show Steps p.tables e below (s₁.setTop (mkF m 68 #[iv u0, iv (u0 ||| (32 : Int32)), iv (0 : Int32), iv (u0 - (48 : Int32)), iv (0 : Int32), .unset] [(.int (0 : Int32))])) _
              refine XS.istore X0.here hx rfl (hb hby d3_68) rfl (l' := #[iv u0, iv (u0 ||| (32 : Int32)), iv (0 : Int32), iv (u0 - (48 : Int32)), iv (0 : Int32), iv (0 : Int32)]) rfl ?_
              show Steps p.tables e below (s₁.setTop (mkF m 70 #[iv u0, iv (u0 ||| (32 : Int32)), iv (0 : Int32), iv (u0 - (48 : Int32)), iv (0 : Int32), iv (0 : Int32)] [])) _
              refine XS.iloadN X0.here hx rfl (hb hby d3_70) rfl ?_
              show Steps p.tables e below (s₁.setTop (mkF m 71 #[iv u0, iv (u0 ||| (32 : Int32)), iv (0 : Int32), iv (u0 - (48 : Int32)), iv (0 : Int32), iv (0 : Int32)] [(.int (0 : Int32))])) _
              refine XS.ifNo X0.here hx rfl (hb hby d3_71) rfl ((if0 _ _).trans (teq (by decide : (0 : Int32) = (0 : Int32))).2) ?_
              show Steps p.tables e below (s₁.setTop (mkF m 74 #[iv u0, iv (u0 ||| (32 : Int32)), iv (0 : Int32), iv (u0 - (48 : Int32)), iv (0 : Int32), iv (0 : Int32)] [])) _
              refine XS.iload X0.here hx rfl (hb hby d3_74) rfl ?_
              show Steps p.tables e below (s₁.setTop (mkF m 76 #[iv u0, iv (u0 ||| (32 : Int32)), iv (0 : Int32), iv (u0 - (48 : Int32)), iv (0 : Int32), iv (0 : Int32)] [(.int (0 : Int32))])) _
              refine XS.ifNo X0.here hx rfl (hb hby d3_76) rfl ((if0 _ _).trans (teq (by decide : (0 : Int32) = (0 : Int32))).2) ?_
              show Steps p.tables e below (s₁.setTop (mkF m 79 #[iv u0, iv (u0 ||| (32 : Int32)), iv (0 : Int32), iv (u0 - (48 : Int32)), iv (0 : Int32), iv (0 : Int32)] [])) _
              refine XS.iload X0.here hx rfl (hb hby d3_79) rfl ?_
              show Steps p.tables e below (s₁.setTop (mkF m 81 #[iv u0, iv (u0 ||| (32 : Int32)), iv (0 : Int32), iv (u0 - (48 : Int32)), iv (0 : Int32), iv (0 : Int32)] [(.int (0 : Int32))])) _
              refine XS.ifYes X0.here hx rfl (pc0 := 81) (pc' := 88) rfl (hb hby d3_81) rfl ((if0 _ _).trans (teq (by decide : (0 : Int32) = (0 : Int32))).1) (by decide) (by decide) ?_
              show Steps p.tables e below (s₁.setTop (mkF m 88 #[iv u0, iv (u0 ||| (32 : Int32)), iv (0 : Int32), iv (u0 - (48 : Int32)), iv (0 : Int32), iv (0 : Int32)] [])) _
              refine XS.iconst X0.here hx rfl (hb hby d3_88) ?_
              show Steps p.tables e below (s₁.setTop (mkF m 89 #[iv u0, iv (u0 ||| (32 : Int32)), iv (0 : Int32), iv (u0 - (48 : Int32)), iv (0 : Int32), iv (0 : Int32)] [(.int (0 : Int32))])) _
              exact retN X0 hx (t := .boolean) Bd.returns (by simp) (hb hby d3_89) hr
            · show Q3 Z u0 h0 n0 _ s₁.heap _
              rw [e0]
              exact ⟨(by unfold own_f3; rw [if_pos hc2, if_pos hc4, if_neg hc6, if_neg hc8, if_neg hc10]), N0, rfl⟩
    · skip
      have S11 : ∀ t, Steps p.tables e below (s₁.setTop (mkF m 35 #[iv u0, iv (u0 ||| (32 : Int32)), iv (0 : Int32), iv (u0 - (48 : Int32)), .unset, .unset] [(.int (10 : Int32)), (.int (u0 - (48 : Int32)))])) t → Steps p.tables e below (s₁.setTop (entryFrame m #[(.int u0)] 6)) t := by
        intro t k
        refine S3 t ?_
        show Steps p.tables e below (s₁.setTop (mkF m 29 #[iv u0, iv (u0 ||| (32 : Int32)), iv (0 : Int32), iv (u0 - (48 : Int32)), .unset, .unset] [(.int (u0 - (48 : Int32)))])) _
        refine XS.ifNo X0.here hx rfl (hb hby d3_29) rfl ((if0 _ _).trans (flt hc4).1) ?_
        show Steps p.tables e below (s₁.setTop (mkF m 32 #[iv u0, iv (u0 ||| (32 : Int32)), iv (0 : Int32), iv (u0 - (48 : Int32)), .unset, .unset] [])) _
        refine XS.iloadN X0.here hx rfl (hb hby d3_32) rfl ?_
        show Steps p.tables e below (s₁.setTop (mkF m 33 #[iv u0, iv (u0 ||| (32 : Int32)), iv (0 : Int32), iv (u0 - (48 : Int32)), .unset, .unset] [(.int (u0 - (48 : Int32)))])) _
        refine XS.bipush X0.here hx rfl (hb hby d3_33) ?_
        exact k
      by_cases hc12 : (u0 - (48 : Int32)) < (10 : Int32)
      · skip
        have S13 : ∀ t, Steps p.tables e below (s₁.setTop (mkF m 48 #[iv u0, iv (u0 ||| (32 : Int32)), iv (0 : Int32), iv (u0 - (48 : Int32)), iv (1 : Int32), .unset] [(.int (95 : Int32)), (.int u0)])) t → Steps p.tables e below (s₁.setTop (entryFrame m #[(.int u0)] 6)) t := by
          intro t k
          refine S11 t ?_
          show Steps p.tables e below (s₁.setTop (mkF m 35 #[iv u0, iv (u0 ||| (32 : Int32)), iv (0 : Int32), iv (u0 - (48 : Int32)), .unset, .unset] [(.int (10 : Int32)), (.int (u0 - (48 : Int32)))])) _
          refine XS.icmpNo X0.here hx rfl (hb hby d3_35) rfl (tlt hc12).2.1 ?_
          show Steps p.tables e below (s₁.setTop (mkF m 38 #[iv u0, iv (u0 ||| (32 : Int32)), iv (0 : Int32), iv (u0 - (48 : Int32)), .unset, .unset] [])) _
          refine XS.iconst X0.here hx rfl (hb hby d3_38) ?_
          show Steps p.tables e below (s₁.setTop (mkF m 39 #[iv u0, iv (u0 ||| (32 : Int32)), iv (0 : Int32), iv (u0 - (48 : Int32)), .unset, .unset] [(.int (1 : Int32))])) _
          refine XS.goto X0.here hx rfl (pc0 := 39) (pc' := 43) rfl (hb hby d3_39) (by decide) (by decide) ?_
          show Steps p.tables e below (s₁.setTop (mkF m 43 #[iv u0, iv (u0 ||| (32 : Int32)), iv (0 : Int32), iv (u0 - (48 : Int32)), .unset, .unset] [(.int (1 : Int32))])) _
          refine XS.istore X0.here hx rfl (hb hby d3_43) rfl (l' := #[iv u0, iv (u0 ||| (32 : Int32)), iv (0 : Int32), iv (u0 - (48 : Int32)), iv (1 : Int32), .unset]) rfl ?_
          show Steps p.tables e below (s₁.setTop (mkF m 45 #[iv u0, iv (u0 ||| (32 : Int32)), iv (0 : Int32), iv (u0 - (48 : Int32)), iv (1 : Int32), .unset] [])) _
          refine XS.iloadN X0.here hx rfl (hb hby d3_45) rfl ?_
          show Steps p.tables e below (s₁.setTop (mkF m 46 #[iv u0, iv (u0 ||| (32 : Int32)), iv (0 : Int32), iv (u0 - (48 : Int32)), iv (1 : Int32), .unset] [(.int u0)])) _
          refine XS.bipush X0.here hx rfl (hb hby d3_46) ?_
          exact k
        by_cases hc14 : u0 = (95 : Int32)
        · skip
          obtain ⟨fs, hr, hrun, hended, hW, hsame⟩ := X0.leave (v := some (.int (1 : Int32))) (fun h => by rw [Bd.returns] at h; cases h)
          refine ⟨_, _, S13 _ ?_, hrun, hended, _, _, rfl, ?_, ⟨_, rfl⟩, hW, hsame.mono (by decide) (by decide)⟩
          · skip
            show Steps p.tables e below (s₁.setTop (mkF m 48 #[iv u0, iv (u0 ||| (32 : Int32)), iv (0 : Int32), iv (u0 - (48 : Int32)), iv (1 : Int32), .unset] [(.int (95 : Int32)), (.int u0)])) _
            refine XS.icmpYes X0.here hx rfl (pc0 := 48) (pc' := 63) rfl (hb hby d3_48) rfl (teq hc14).1 (by decide) (by decide) ?_
            show Steps p.tables e below (s₁.setTop (mkF m 63 #[iv u0, iv (u0 ||| (32 : Int32)), iv (0 : Int32), iv (u0 - (48 : Int32)), iv (1 : Int32), .unset] [])) _
            refine XS.iconst X0.here hx rfl (hb hby d3_63) ?_
            show Steps p.tables e below (s₁.setTop (mkF m 64 #[iv u0, iv (u0 ||| (32 : Int32)), iv (0 : Int32), iv (u0 - (48 : Int32)), iv (1 : Int32), .unset] [(.int (1 : Int32))])) _
            refine XS.goto X0.here hx rfl (pc0 := 64) (pc' := 68) rfl (hb hby d3_64) (by decide) (by decide) ?_
            show Steps p.tables e below (s₁.setTop (mkF m 68 #[iv u0, iv (u0 ||| (32 : Int32)), iv (0 : Int32), iv (u0 - (48 : Int32)), iv (1 : Int32), .unset] [(.int (1 : Int32))])) _
            refine XS.istore X0.here hx rfl (hb hby d3_68) rfl (l' := #[iv u0, iv (u0 ||| (32 : Int32)), iv (0 : Int32), iv (u0 - (48 : Int32)), iv (1 : Int32), iv (1 : Int32)]) rfl ?_
            show Steps p.tables e below (s₁.setTop (mkF m 70 #[iv u0, iv (u0 ||| (32 : Int32)), iv (0 : Int32), iv (u0 - (48 : Int32)), iv (1 : Int32), iv (1 : Int32)] [])) _
            refine XS.iloadN X0.here hx rfl (hb hby d3_70) rfl ?_
            show Steps p.tables e below (s₁.setTop (mkF m 71 #[iv u0, iv (u0 ||| (32 : Int32)), iv (0 : Int32), iv (u0 - (48 : Int32)), iv (1 : Int32), iv (1 : Int32)] [(.int (0 : Int32))])) _
            refine XS.ifNo X0.here hx rfl (hb hby d3_71) rfl ((if0 _ _).trans (teq (by decide : (0 : Int32) = (0 : Int32))).2) ?_
            show Steps p.tables e below (s₁.setTop (mkF m 74 #[iv u0, iv (u0 ||| (32 : Int32)), iv (0 : Int32), iv (u0 - (48 : Int32)), iv (1 : Int32), iv (1 : Int32)] [])) _
            refine XS.iload X0.here hx rfl (hb hby d3_74) rfl ?_
            show Steps p.tables e below (s₁.setTop (mkF m 76 #[iv u0, iv (u0 ||| (32 : Int32)), iv (0 : Int32), iv (u0 - (48 : Int32)), iv (1 : Int32), iv (1 : Int32)] [(.int (1 : Int32))])) _
            refine XS.ifYes X0.here hx rfl (pc0 := 76) (pc' := 84) rfl (hb hby d3_76) rfl ((if0 _ _).trans (feq (by decide : ¬ ((1 : Int32) = (0 : Int32)))).2) (by decide) (by decide) ?_
            show Steps p.tables e below (s₁.setTop (mkF m 84 #[iv u0, iv (u0 ||| (32 : Int32)), iv (0 : Int32), iv (u0 - (48 : Int32)), iv (1 : Int32), iv (1 : Int32)] [])) _
            refine XS.iconst X0.here hx rfl (hb hby d3_84) ?_
            show Steps p.tables e below (s₁.setTop (mkF m 85 #[iv u0, iv (u0 ||| (32 : Int32)), iv (0 : Int32), iv (u0 - (48 : Int32)), iv (1 : Int32), iv (1 : Int32)] [(.int (1 : Int32))])) _
            refine XS.goto X0.here hx rfl (pc0 := 85) (pc' := 89) rfl (hb hby d3_85) (by decide) (by decide) ?_
            show Steps p.tables e below (s₁.setTop (mkF m 89 #[iv u0, iv (u0 ||| (32 : Int32)), iv (0 : Int32), iv (u0 - (48 : Int32)), iv (1 : Int32), iv (1 : Int32)] [(.int (1 : Int32))])) _
            exact retN X0 hx (t := .boolean) Bd.returns (by simp) (hb hby d3_89) hr
          · show Q3 Z u0 h0 n0 _ s₁.heap _
            rw [e0]
            exact ⟨(by unfold own_f3; rw [if_pos hc2, if_neg hc4, if_pos hc12, if_pos hc14]), N0, rfl⟩
        · skip
          have S15 : ∀ t, Steps p.tables e below (s₁.setTop (mkF m 54 #[iv u0, iv (u0 ||| (32 : Int32)), iv (0 : Int32), iv (u0 - (48 : Int32)), iv (1 : Int32), .unset] [(.int (36 : Int32)), (.int u0)])) t → Steps p.tables e below (s₁.setTop (entryFrame m #[(.int u0)] 6)) t := by
            intro t k
            refine S13 t ?_
            show Steps p.tables e below (s₁.setTop (mkF m 48 #[iv u0, iv (u0 ||| (32 : Int32)), iv (0 : Int32), iv (u0 - (48 : Int32)), iv (1 : Int32), .unset] [(.int (95 : Int32)), (.int u0)])) _
            refine XS.icmpNo X0.here hx rfl (hb hby d3_48) rfl (feq hc14).1 ?_
            show Steps p.tables e below (s₁.setTop (mkF m 51 #[iv u0, iv (u0 ||| (32 : Int32)), iv (0 : Int32), iv (u0 - (48 : Int32)), iv (1 : Int32), .unset] [])) _
            refine XS.iloadN X0.here hx rfl (hb hby d3_51) rfl ?_
            show Steps p.tables e below (s₁.setTop (mkF m 52 #[iv u0, iv (u0 ||| (32 : Int32)), iv (0 : Int32), iv (u0 - (48 : Int32)), iv (1 : Int32), .unset] [(.int u0)])) _
            refine XS.bipush X0.here hx rfl (hb hby d3_52) ?_
            exact k
          by_cases hc16 : u0 = (36 : Int32)
          · skip
            obtain ⟨fs, hr, hrun, hended, hW, hsame⟩ := X0.leave (v := some (.int (1 : Int32))) (fun h => by rw [Bd.returns] at h; cases h)
            refine ⟨_, _, S15 _ ?_, hrun, hended, _, _, rfl, ?_, ⟨_, rfl⟩, hW, hsame.mono (by decide) (by decide)⟩
            · skip
              show Steps p.tables e below (s₁.setTop (mkF m 54 #[iv u0, iv (u0 ||| (32 : Int32)), iv (0 : Int32), iv (u0 - (48 : Int32)), iv (1 : Int32), .unset] [(.int (36 : Int32)), (.int u0)])) _
              refine XS.icmpYes X0.here hx rfl (pc0 := 54) (pc' := 63) rfl (hb hby d3_54) rfl (teq hc16).1 (by decide) (by decide) ?_
              show Steps p.tables e below (s₁.setTop (mkF m 63 #[iv u0, iv (u0 ||| (32 : Int32)), iv (0 : Int32), iv (u0 - (48 : Int32)), iv (1 : Int32), .unset] [])) _
              refine XS.iconst X0.here hx rfl (hb hby d3_63) ?_
              show Steps p.tables e below (s₁.setTop (mkF m 64 #[iv u0, iv (u0 ||| (32 : Int32)), iv (0 : Int32), iv (u0 - (48 : Int32)), iv (1 : Int32), .unset] [(.int (1 : Int32))])) _
              refine XS.goto X0.here hx rfl (pc0 := 64) (pc' := 68) rfl (hb hby d3_64) (by decide) (by decide) ?_
              show Steps p.tables e below (s₁.setTop (mkF m 68 #[iv u0, iv (u0 ||| (32 : Int32)), iv (0 : Int32), iv (u0 - (48 : Int32)), iv (1 : Int32), .unset] [(.int (1 : Int32))])) _
              refine XS.istore X0.here hx rfl (hb hby d3_68) rfl (l' := #[iv u0, iv (u0 ||| (32 : Int32)), iv (0 : Int32), iv (u0 - (48 : Int32)), iv (1 : Int32), iv (1 : Int32)]) rfl ?_
              show Steps p.tables e below (s₁.setTop (mkF m 70 #[iv u0, iv (u0 ||| (32 : Int32)), iv (0 : Int32), iv (u0 - (48 : Int32)), iv (1 : Int32), iv (1 : Int32)] [])) _
              refine XS.iloadN X0.here hx rfl (hb hby d3_70) rfl ?_
              show Steps p.tables e below (s₁.setTop (mkF m 71 #[iv u0, iv (u0 ||| (32 : Int32)), iv (0 : Int32), iv (u0 - (48 : Int32)), iv (1 : Int32), iv (1 : Int32)] [(.int (0 : Int32))])) _
              refine XS.ifNo X0.here hx rfl (hb hby d3_71) rfl ((if0 _ _).trans (teq (by decide : (0 : Int32) = (0 : Int32))).2) ?_
              show Steps p.tables e below (s₁.setTop (mkF m 74 #[iv u0, iv (u0 ||| (32 : Int32)), iv (0 : Int32), iv (u0 - (48 : Int32)), iv (1 : Int32), iv (1 : Int32)] [])) _
              refine XS.iload X0.here hx rfl (hb hby d3_74) rfl ?_
              show Steps p.tables e below (s₁.setTop (mkF m 76 #[iv u0, iv (u0 ||| (32 : Int32)), iv (0 : Int32), iv (u0 - (48 : Int32)), iv (1 : Int32), iv (1 : Int32)] [(.int (1 : Int32))])) _
              refine XS.ifYes X0.here hx rfl (pc0 := 76) (pc' := 84) rfl (hb hby d3_76) rfl ((if0 _ _).trans (feq (by decide : ¬ ((1 : Int32) = (0 : Int32)))).2) (by decide) (by decide) ?_
              show Steps p.tables e below (s₁.setTop (mkF m 84 #[iv u0, iv (u0 ||| (32 : Int32)), iv (0 : Int32), iv (u0 - (48 : Int32)), iv (1 : Int32), iv (1 : Int32)] [])) _
              refine XS.iconst X0.here hx rfl (hb hby d3_84) ?_
              show Steps p.tables e below (s₁.setTop (mkF m 85 #[iv u0, iv (u0 ||| (32 : Int32)), iv (0 : Int32), iv (u0 - (48 : Int32)), iv (1 : Int32), iv (1 : Int32)] [(.int (1 : Int32))])) _
              refine XS.goto X0.here hx rfl (pc0 := 85) (pc' := 89) rfl (hb hby d3_85) (by decide) (by decide) ?_
              show Steps p.tables e below (s₁.setTop (mkF m 89 #[iv u0, iv (u0 ||| (32 : Int32)), iv (0 : Int32), iv (u0 - (48 : Int32)), iv (1 : Int32), iv (1 : Int32)] [(.int (1 : Int32))])) _
              exact retN X0 hx (t := .boolean) Bd.returns (by simp) (hb hby d3_89) hr
            · show Q3 Z u0 h0 n0 _ s₁.heap _
              rw [e0]
              exact ⟨(by unfold own_f3; rw [if_pos hc2, if_neg hc4, if_pos hc12, if_neg hc14, if_pos hc16]), N0, rfl⟩
          · skip
            have S17 : ∀ t, Steps p.tables e below (s₁.setTop (mkF m 60 #[iv u0, iv (u0 ||| (32 : Int32)), iv (0 : Int32), iv (u0 - (48 : Int32)), iv (1 : Int32), .unset] [(.int (35 : Int32)), (.int u0)])) t → Steps p.tables e below (s₁.setTop (entryFrame m #[(.int u0)] 6)) t := by
              intro t k
              refine S15 t ?_
              show Steps p.tables e below (s₁.setTop (mkF m 54 #[iv u0, iv (u0 ||| (32 : Int32)), iv (0 : Int32), iv (u0 - (48 : Int32)), iv (1 : Int32), .unset] [(.int (36 : Int32)), (.int u0)])) _
              refine XS.icmpNo X0.here hx rfl (hb hby d3_54) rfl (feq hc16).1 ?_
              show Steps p.tables e below (s₁.setTop (mkF m 57 #[iv u0, iv (u0 ||| (32 : Int32)), iv (0 : Int32), iv (u0 - (48 : Int32)), iv (1 : Int32), .unset] [])) _
              refine XS.iloadN X0.here hx rfl (hb hby d3_57) rfl ?_
              show Steps p.tables e below (s₁.setTop (mkF m 58 #[iv u0, iv (u0 ||| (32 : Int32)), iv (0 : Int32), iv (u0 - (48 : Int32)), iv (1 : Int32), .unset] [(.int u0)])) _
              refine XS.bipush X0.here hx rfl (hb hby d3_58) ?_
              exact k
            by_cases hc18 : u0 = (35 : Int32)
            · skip
              obtain ⟨fs, hr, hrun, hended, hW, hsame⟩ := X0.leave (v := some (.int (1 : Int32))) (fun h => by rw [Bd.returns] at h; cases h)
              refine ⟨_, _, S17 _ ?_, hrun, hended, _, _, rfl, ?_, ⟨_, rfl⟩, hW, hsame.mono (by decide) (by decide)⟩
              · skip
                show Steps p.tables e below (s₁.setTop (mkF m 60 #[iv u0, iv (u0 ||| (32 : Int32)), iv (0 : Int32), iv (u0 - (48 : Int32)), iv (1 : Int32), .unset] [(.int (35 : Int32)), (.int u0)])) _
                refine XS.icmpNo X0.here hx rfl (hb hby d3_60) rfl (teq hc18).2 ?_
                show Steps p.tables e below (s₁.setTop (mkF m 63 #[iv u0, iv (u0 ||| (32 : Int32)), iv (0 : Int32), iv (u0 - (48 : Int32)), iv (1 : Int32), .unset] [])) _
                refine XS.iconst X0.here hx rfl (hb hby d3_63) ?_
                show Steps p.tables e below (s₁.setTop (mkF m 64 #[iv u0, iv (u0 ||| (32 : Int32)), iv (0 : Int32), iv (u0 - (48 : Int32)), iv (1 : Int32), .unset] [(.int (1 : Int32))])) _
                refine XS.goto X0.here hx rfl (pc0 := 64) (pc' := 68) rfl (hb hby d3_64) (by decide) (by decide) ?_
                show Steps p.tables e below (s₁.setTop (mkF m 68 #[iv u0, iv (u0 ||| (32 : Int32)), iv (0 : Int32), iv (u0 - (48 : Int32)), iv (1 : Int32), .unset] [(.int (1 : Int32))])) _
                refine XS.istore X0.here hx rfl (hb hby d3_68) rfl (l' := #[iv u0, iv (u0 ||| (32 : Int32)), iv (0 : Int32), iv (u0 - (48 : Int32)), iv (1 : Int32), iv (1 : Int32)]) rfl ?_
                show Steps p.tables e below (s₁.setTop (mkF m 70 #[iv u0, iv (u0 ||| (32 : Int32)), iv (0 : Int32), iv (u0 - (48 : Int32)), iv (1 : Int32), iv (1 : Int32)] [])) _
                refine XS.iloadN X0.here hx rfl (hb hby d3_70) rfl ?_
                show Steps p.tables e below (s₁.setTop (mkF m 71 #[iv u0, iv (u0 ||| (32 : Int32)), iv (0 : Int32), iv (u0 - (48 : Int32)), iv (1 : Int32), iv (1 : Int32)] [(.int (0 : Int32))])) _
                refine XS.ifNo X0.here hx rfl (hb hby d3_71) rfl ((if0 _ _).trans (teq (by decide : (0 : Int32) = (0 : Int32))).2) ?_
                show Steps p.tables e below (s₁.setTop (mkF m 74 #[iv u0, iv (u0 ||| (32 : Int32)), iv (0 : Int32), iv (u0 - (48 : Int32)), iv (1 : Int32), iv (1 : Int32)] [])) _
                refine XS.iload X0.here hx rfl (hb hby d3_74) rfl ?_
                show Steps p.tables e below (s₁.setTop (mkF m 76 #[iv u0, iv (u0 ||| (32 : Int32)), iv (0 : Int32), iv (u0 - (48 : Int32)), iv (1 : Int32), iv (1 : Int32)] [(.int (1 : Int32))])) _
                refine XS.ifYes X0.here hx rfl (pc0 := 76) (pc' := 84) rfl (hb hby d3_76) rfl ((if0 _ _).trans (feq (by decide : ¬ ((1 : Int32) = (0 : Int32)))).2) (by decide) (by decide) ?_
                show Steps p.tables e below (s₁.setTop (mkF m 84 #[iv u0, iv (u0 ||| (32 : Int32)), iv (0 : Int32), iv (u0 - (48 : Int32)), iv (1 : Int32), iv (1 : Int32)] [])) _
                refine XS.iconst X0.here hx rfl (hb hby d3_84) ?_
                show Steps p.tables e below (s₁.setTop (mkF m 85 #[iv u0, iv (u0 ||| (32 : Int32)), iv (0 : Int32), iv (u0 - (48 : Int32)), iv (1 : Int32), iv (1 : Int32)] [(.int (1 : Int32))])) _
                refine XS.goto X0.here hx rfl (pc0 := 85) (pc' := 89) rfl (hb hby d3_85) (by decide) (by decide) ?_
                show Steps p.tables e below (s₁.setTop (mkF m 89 #[iv u0, iv (u0 ||| (32 : Int32)), iv (0 : Int32), iv (u0 - (48 : Int32)), iv (1 : Int32), iv (1 : Int32)] [(.int (1 : Int32))])) _
                exact retN X0 hx (t := .boolean) Bd.returns (by simp) (hb hby d3_89) hr
              · show Q3 Z u0 h0 n0 _ s₁.heap _
                rw [e0]
                exact ⟨(by unfold own_f3; rw [if_pos hc2, if_neg hc4, if_pos hc12, if_neg hc14, if_neg hc16, if_pos hc18]), N0, rfl⟩
            · skip
              obtain ⟨fs, hr, hrun, hended, hW, hsame⟩ := X0.leave (v := some (.int (1 : Int32))) (fun h => by rw [Bd.returns] at h; cases h)
              refine ⟨_, _, S17 _ ?_, hrun, hended, _, _, rfl, ?_, ⟨_, rfl⟩, hW, hsame.mono (by decide) (by decide)⟩
              · skip
                show Steps p.tables e below (s₁.setTop (mkF m 60 #[iv u0, iv (u0 ||| (32 : Int32)), iv (0 : Int32), iv (u0 - (48 : Int32)), iv (1 : Int32), .unset] [(.int (35 : Int32)), (.int u0)])) _
                refine XS.icmpYes X0.here hx rfl (pc0 := 60) (pc' := 67) rfl (hb hby d3_60) rfl (feq hc18).2 (by decide) (by decide) ?_
                show Steps p.tables e below (s₁.setTop (mkF m 67 #[iv u0, iv (u0 ||| (32 : Int32)), iv (0 : Int32), iv (u0 - (48 : Int32)), iv (1 : Int32), .unset] [])) _
                refine XS.iconst X0.here hx rfl (hb hby d3_67) ?_
                show Steps p.tables e below (s₁.setTop (mkF m 68 #[iv u0, iv (u0 ||| (32 : Int32)), iv (0 : Int32), iv (u0 - (48 : Int32)), iv (1 : Int32), .unset] [(.int (0 : Int32))])) _
                refine XS.istore X0.here hx rfl (hb hby d3_68) rfl (l' := #[iv u0, iv (u0 ||| (32 : Int32)), iv (0 : Int32), iv (u0 - (48 : Int32)), iv (1 : Int32), iv (0 : Int32)]) rfl ?_
                show Steps p.tables e below (s₁.setTop (mkF m 70 #[iv u0, iv (u0 ||| (32 : Int32)), iv (0 : Int32), iv (u0 - (48 : Int32)), iv (1 : Int32), iv (0 : Int32)] [])) _
                refine XS.iloadN X0.here hx rfl (hb hby d3_70) rfl ?_
                show Steps p.tables e below (s₁.setTop (mkF m 71 #[iv u0, iv (u0 ||| (32 : Int32)), iv (0 : Int32), iv (u0 - (48 : Int32)), iv (1 : Int32), iv (0 : Int32)] [(.int (0 : Int32))])) _
                refine XS.ifNo X0.here hx rfl (hb hby d3_71) rfl ((if0 _ _).trans (teq (by decide : (0 : Int32) = (0 : Int32))).2) ?_
                show Steps p.tables e below (s₁.setTop (mkF m 74 #[iv u0, iv (u0 ||| (32 : Int32)), iv (0 : Int32), iv (u0 - (48 : Int32)), iv (1 : Int32), iv (0 : Int32)] [])) _
                refine XS.iload X0.here hx rfl (hb hby d3_74) rfl ?_
                show Steps p.tables e below (s₁.setTop (mkF m 76 #[iv u0, iv (u0 ||| (32 : Int32)), iv (0 : Int32), iv (u0 - (48 : Int32)), iv (1 : Int32), iv (0 : Int32)] [(.int (1 : Int32))])) _
                refine XS.ifYes X0.here hx rfl (pc0 := 76) (pc' := 84) rfl (hb hby d3_76) rfl ((if0 _ _).trans (feq (by decide : ¬ ((1 : Int32) = (0 : Int32)))).2) (by decide) (by decide) ?_
                show Steps p.tables e below (s₁.setTop (mkF m 84 #[iv u0, iv (u0 ||| (32 : Int32)), iv (0 : Int32), iv (u0 - (48 : Int32)), iv (1 : Int32), iv (0 : Int32)] [])) _
                refine XS.iconst X0.here hx rfl (hb hby d3_84) ?_
                show Steps p.tables e below (s₁.setTop (mkF m 85 #[iv u0, iv (u0 ||| (32 : Int32)), iv (0 : Int32), iv (u0 - (48 : Int32)), iv (1 : Int32), iv (0 : Int32)] [(.int (1 : Int32))])) _
                refine XS.goto X0.here hx rfl (pc0 := 85) (pc' := 89) rfl (hb hby d3_85) (by decide) (by decide) ?_
                show Steps p.tables e below (s₁.setTop (mkF m 89 #[iv u0, iv (u0 ||| (32 : Int32)), iv (0 : Int32), iv (u0 - (48 : Int32)), iv (1 : Int32), iv (0 : Int32)] [(.int (1 : Int32))])) _
                exact retN X0 hx (t := .boolean) Bd.returns (by simp) (hb hby d3_89) hr
              · show Q3 Z u0 h0 n0 _ s₁.heap _
                rw [e0]
                exact ⟨(by unfold own_f3; rw [if_pos hc2, if_neg hc4, if_pos hc12, if_neg hc14, if_neg hc16, if_neg hc18]), N0, rfl⟩
      · skip
        have S19 : ∀ t, Steps p.tables e below (s₁.setTop (mkF m 48 #[iv u0, iv (u0 ||| (32 : Int32)), iv (0 : Int32), iv (u0 - (48 : Int32)), iv (0 : Int32), .unset] [(.int (95 : Int32)), (.int u0)])) t → Steps p.tables e below (s₁.setTop (entryFrame m #[(.int u0)] 6)) t := by
          intro t k
          refine S11 t ?_
          show Steps p.tables e below (s₁.setTop (mkF m 35 #[iv u0, iv (u0 ||| (32 : Int32)), iv (0 : Int32), iv (u0 - (48 : Int32)), .unset, .unset] [(.int (10 : Int32)), (.int (u0 - (48 : Int32)))])) _
          refine XS.icmpYes X0.here hx rfl (pc0 := 35) (pc' := 42) rfl (hb hby d3_35) rfl (flt hc12).2.1 (by decide) (by decide) ?_
          show Steps p.tables e below (s₁.setTop (mkF m 42 #[iv u0, iv (u0 ||| (32 : Int32)), iv (0 : Int32), iv (u0 - (48 : Int32)), .unset, .unset] [])) _
          refine XS.iconst X0.here hx rfl (hb hby d3_42) ?_
          show Steps p.tables e below (s₁.setTop (mkF m 43 #[iv u0, iv (u0 ||| (32 : Int32)), iv (0 : Int32), iv (u0 - (48 : Int32)), .unset, .unset] [(.int (0 : Int32))])) _
          refine XS.istore X0.here hx rfl (hb hby d3_43) rfl (l' := #[iv u0, iv (u0 ||| (32 : Int32)), iv (0 : Int32), iv (u0 - (48 : Int32)), iv (0 : Int32), .unset]) rfl ?_
          show Steps p.tables e below (s₁.setTop (mkF m 45 #[iv u0, iv (u0 ||| (32 : Int32)), iv (0 : Int32), iv (u0 - (48 : Int32)), iv (0 : Int32), .unset] [])) _
          refine XS.iloadN X0.here hx rfl (hb hby d3_45) rfl ?_
          show Steps p.tables e below (s₁.setTop (mkF m 46 #[iv u0, iv (u0 ||| (32 : Int32)), iv (0 : Int32), iv (u0 - (48 : Int32)), iv (0 : Int32), .unset] [(.int u0)])) _
          refine XS.bipush X0.here hx rfl (hb hby d3_46) ?_
          exact k
        by_cases hc20 : u0 = (95 : Int32)
        · skip
          obtain ⟨fs, hr, hrun, hended, hW, hsame⟩ := X0.leave (v := some (.int (1 : Int32))) (fun h => by rw [Bd.returns] at h; cases h)
          refine ⟨_, _, S19 _ ?_, hrun, hended, _, _, rfl, ?_, ⟨_, rfl⟩, hW, hsame.mono (by decide) (by decide)⟩
          · skip
            show Steps p.tables e below (s₁.setTop (mkF m 48 #[iv u0, iv (u0 ||| (32 : Int32)), iv (0 : Int32), iv (u0 - (48 : Int32)), iv (0 : Int32), .unset] [(.int (95 : Int32)), (.int u0)])) _
            refine XS.icmpYes X0.here hx rfl (pc0 := 48) (pc' := 63) rfl (hb hby d3_48) rfl (teq hc20).1 (by decide) (by decide) ?_
            show Steps p.tables e below (s₁.setTop (mkF m 63 #[iv u0, iv (u0 ||| (32 : Int32)), iv (0 : Int32), iv (u0 - (48 : Int32)), iv (0 : Int32), .unset] [])) _
            refine XS.iconst X0.here hx rfl (hb hby d3_63) ?_
            show Steps p.tables e below (s₁.setTop (mkF m 64 #[iv u0, iv (u0 ||| (32 : Int32)), iv (0 : Int32), iv (u0 - (48 : Int32)), iv (0 : Int32), .unset] [(.int (1 : Int32))])) _
            refine XS.goto X0.here hx rfl (pc0 := 64) (pc' := 68) rfl (hb hby d3_64) (by decide) (by decide) ?_
            show Steps p.tables e below (s₁.setTop (mkF m 68 #[iv u0, iv (u0 ||| (32 : Int32)), iv (0 : Int32), iv (u0 - (48 : Int32)), iv (0 : Int32), .unset] [(.int (1 : Int32))])) _
            refine XS.istore X0.here hx rfl (hb hby d3_68) rfl (l' := #[iv u0, iv (u0 ||| (32 : Int32)), iv (0 : Int32), iv (u0 - (48 : Int32)), iv (0 : Int32), iv (1 : Int32)]) rfl ?_
            show Steps p.tables e below (s₁.setTop (mkF m 70 #[iv u0, iv (u0 ||| (32 : Int32)), iv (0 : Int32), iv (u0 - (48 : Int32)), iv (0 : Int32), iv (1 : Int32)] [])) _
            refine XS.iloadN X0.here hx rfl (hb hby d3_70) rfl ?_
            show Steps p.tables e below (s₁.setTop (mkF m 71 #[iv u0, iv (u0 ||| (32 : Int32)), iv (0 : Int32), iv (u0 - (48 : Int32)), iv (0 : Int32), iv (1 : Int32)] [(.int (0 : Int32))])) _
            refine XS.ifNo X0.here hx rfl (hb hby d3_71) rfl ((if0 _ _).trans (teq (by decide : (0 : Int32) = (0 : Int32))).2) ?_
            show Steps p.tables e below (s₁.setTop (mkF m 74 #[iv u0, iv (u0 ||| (32 : Int32)), iv (0 : Int32), iv (u0 - (48 : Int32)), iv (0 : Int32), iv (1 : Int32)] [])) _
            refine XS.iload X0.here hx rfl (hb hby d3_74) rfl ?_
            show Steps p.tables e below (s₁.setTop (mkF m 76 #[iv u0, iv (u0 ||| (32 : Int32)), iv (0 : Int32), iv (u0 - (48 : Int32)), iv (0 : Int32), iv (1 : Int32)] [(.int (0 : Int32))])) _
            refine XS.ifNo X0.here hx rfl (hb hby d3_76) rfl ((if0 _ _).trans (teq (by decide : (0 : Int32) = (0 : Int32))).2) ?_
            show Steps p.tables e below (s₁.setTop (mkF m 79 #[iv u0, iv (u0 ||| (32 : Int32)), iv (0 : Int32), iv (u0 - (48 : Int32)), iv (0 : Int32), iv (1 : Int32)] [])) _
            refine XS.iload X0.here hx rfl (hb hby d3_79) rfl ?_
            show Steps p.tables e below (s₁.setTop (mkF m 81 #[iv u0, iv (u0 ||| (32 : Int32)), iv (0 : Int32), iv (u0 - (48 : Int32)), iv (0 : Int32), iv (1 : Int32)] [(.int (1 : Int32))])) _
            refine XS.ifNo X0.here hx rfl (hb hby d3_81) rfl ((if0 _ _).trans (feq (by decide : ¬ ((1 : Int32) = (0 : Int32)))).1) ?_
            show Steps p.tables e below (s₁.setTop (mkF m 84 #[iv u0, iv (u0 ||| (32 : Int32)), iv (0 : Int32), iv (u0 - (48 : Int32)), iv (0 : Int32), iv (1 : Int32)] [])) _
            refine XS.iconst X0.here hx rfl (hb hby d3_84) ?_
            show Steps p.tables e below (s₁.setTop (mkF m 85 #[iv u0, iv (u0 ||| (32 : Int32)), iv (0 : Int32), iv (u0 - (48 : Int32)), iv (0 : Int32), iv (1 : Int32)] [(.int (1 : Int32))])) _
            refine XS.goto X0.here hx rfl (pc0 := 85) (pc' := 89) rfl (hb hby d3_85) (by decide) (by decide) ?_
            show Steps p.tables e below (s₁.setTop (mkF m 89 #[iv u0, iv (u0 ||| (32 : Int32)), iv (0 : Int32), iv (u0 - (48 : Int32)), iv (0 : Int32), iv (1 : Int32)] [(.int (1 : Int32))])) _
            exact retN X0 hx (t := .boolean) Bd.returns (by simp) (hb hby d3_89) hr
          · show Q3 Z u0 h0 n0 _ s₁.heap _
            rw [e0]
            exact ⟨(by unfold own_f3; rw [if_pos hc2, if_neg hc4, if_neg hc12, if_pos hc20]), N0, rfl⟩
        · skip
          have S21 : ∀ t, Steps p.tables e below (s₁.setTop (mkF m 54 #[iv u0, iv (u0 ||| (32 : Int32)), iv (0 : Int32), iv (u0 - (48 : Int32)), iv (0 : Int32), .unset] [(.int (36 : Int32)), (.int u0)])) t → Steps p.tables e below (s₁.setTop (entryFrame m #[(.int u0)] 6)) t := by
            intro t k
            refine S19 t ?_
            show Steps p.tables e below (s₁.setTop (mkF m 48 #[iv u0, iv (u0 ||| (32 : Int32)), iv (0 : Int32), iv (u0 - (48 : Int32)), iv (0 : Int32), .unset] [(.int (95 : Int32)), (.int u0)])) _
            refine XS.icmpNo X0.here hx rfl (hb hby d3_48) rfl (feq hc20).1 ?_
            show Steps p.tables e below (s₁.setTop (mkF m 51 #[iv u0, iv (u0 ||| (32 : Int32)), iv (0 : Int32), iv (u0 - (48 : Int32)), iv (0 : Int32), .unset] [])) _
            refine XS.iloadN X0.here hx rfl (hb hby d3_51) rfl ?_
            show Steps p.tables e below (s₁.setTop (mkF m 52 #[iv u0, iv (u0 ||| (32 : Int32)), iv (0 : Int32), iv (u0 - (48 : Int32)), iv (0 : Int32), .unset] [(.int u0)])) _
            refine XS.bipush X0.here hx rfl (hb hby d3_52) ?_
            exact k
          by_cases hc22 : u0 = (36 : Int32)
          · skip
            obtain ⟨fs, hr, hrun, hended, hW, hsame⟩ := X0.leave (v := some (.int (1 : Int32))) (fun h => by rw [Bd.returns] at h; cases h)
            refine ⟨_, _, S21 _ ?_, hrun, hended, _, _, rfl, ?_, ⟨_, rfl⟩, hW, hsame.mono (by decide) (by decide)⟩
            · skip
              show Steps p.tables e below (s₁.setTop (mkF m 54 #[iv u0, iv (u0 ||| (32 : Int32)), iv (0 : Int32), iv (u0 - (48 : Int32)), iv (0 : Int32), .unset] [(.int (36 : Int32)), (.int u0)])) _
              refine XS.icmpYes X0.here hx rfl (pc0 := 54) (pc' := 63) rfl (hb hby d3_54) rfl (teq hc22).1 (by decide) (by decide) ?_
              show Steps p.tables e below (s₁.setTop (mkF m 63 #[iv u0, iv (u0 ||| (32 : Int32)), iv (0 : Int32), iv (u0 - (48 : Int32)), iv (0 : Int32), .unset] [])) _
              refine XS.iconst X0.here hx rfl (hb hby d3_63) ?_
              show Steps p.tables e below (s₁.setTop (mkF m 64 #[iv u0, iv (u0 ||| (32 : Int32)), iv (0 : Int32), iv (u0 - (48 : Int32)), iv (0 : Int32), .unset] [(.int (1 : Int32))])) _
              refine XS.goto X0.here hx rfl (pc0 := 64) (pc' := 68) rfl (hb hby d3_64) (by decide) (by decide) ?_
              show Steps p.tables e below (s₁.setTop (mkF m 68 #[iv u0, iv (u0 ||| (32 : Int32)), iv (0 : Int32), iv (u0 - (48 : Int32)), iv (0 : Int32), .unset] [(.int (1 : Int32))])) _
              refine XS.istore X0.here hx rfl (hb hby d3_68) rfl (l' := #[iv u0, iv (u0 ||| (32 : Int32)), iv (0 : Int32), iv (u0 - (48 : Int32)), iv (0 : Int32), iv (1 : Int32)]) rfl ?_
              show Steps p.tables e below (s₁.setTop (mkF m 70 #[iv u0, iv (u0 ||| (32 : Int32)), iv (0 : Int32), iv (u0 - (48 : Int32)), iv (0 : Int32), iv (1 : Int32)] [])) _
              refine XS.iloadN X0.here hx rfl (hb hby d3_70) rfl ?_
              show Steps p.tables e below (s₁.setTop (mkF m 71 #[iv u0, iv (u0 ||| (32 : Int32)), iv (0 : Int32), iv (u0 - (48 : Int32)), iv (0 : Int32), iv (1 : Int32)] [(.int (0 : Int32))])) _
              refine XS.ifNo X0.here hx rfl (hb hby d3_71) rfl ((if0 _ _).trans (teq (by decide : (0 : Int32) = (0 : Int32))).2) ?_
              show Steps p.tables e below (s₁.setTop (mkF m 74 #[iv u0, iv (u0 ||| (32 : Int32)), iv (0 : Int32), iv (u0 - (48 : Int32)), iv (0 : Int32), iv (1 : Int32)] [])) _
              refine XS.iload X0.here hx rfl (hb hby d3_74) rfl ?_
              show Steps p.tables e below (s₁.setTop (mkF m 76 #[iv u0, iv (u0 ||| (32 : Int32)), iv (0 : Int32), iv (u0 - (48 : Int32)), iv (0 : Int32), iv (1 : Int32)] [(.int (0 : Int32))])) _
              refine XS.ifNo X0.here hx rfl (hb hby d3_76) rfl ((if0 _ _).trans (teq (by decide : (0 : Int32) = (0 : Int32))).2) ?_
              show Steps p.tables e below (s₁.setTop (mkF m 79 #[iv u0, iv (u0 ||| (32 : Int32)), iv (0 : Int32), iv (u0 - (48 : Int32)), iv (0 : Int32), iv (1 : Int32)] [])) _
              refine XS.iload X0.here hx rfl (hb hby d3_79) rfl ?_
              show Steps p.tables e below (s₁.setTop (mkF m 81 #[iv u0, iv (u0 ||| (32 : Int32)), iv (0 : Int32), iv (u0 - (48 : Int32)), iv (0 : Int32), iv (1 : Int32)] [(.int (1 : Int32))])) _
              refine XS.ifNo X0.here hx rfl (hb hby d3_81) rfl ((if0 _ _).trans (feq (by decide : ¬ ((1 : Int32) = (0 : Int32)))).1) ?_
              show Steps p.tables e below (s₁.setTop (mkF m 84 #[iv u0, iv (u0 ||| (32 : Int32)), iv (0 : Int32), iv (u0 - (48 : Int32)), iv (0 : Int32), iv (1 : Int32)] [])) _
              refine XS.iconst X0.here hx rfl (hb hby d3_84) ?_
              show Steps p.tables e below (s₁.setTop (mkF m 85 #[iv u0, iv (u0 ||| (32 : Int32)), iv (0 : Int32), iv (u0 - (48 : Int32)), iv (0 : Int32), iv (1 : Int32)] [(.int (1 : Int32))])) _
              refine XS.goto X0.here hx rfl (pc0 := 85) (pc' := 89) rfl (hb hby d3_85) (by decide) (by decide) ?_
              show Steps p.tables e below (s₁.setTop (mkF m 89 #[iv u0, iv (u0 ||| (32 : Int32)), iv (0 : Int32), iv (u0 - (48 : Int32)), iv (0 : Int32), iv (1 : Int32)] [(.int (1 : Int32))])) _
              exact retN X0 hx (t := .boolean) Bd.returns (by simp) (hb hby d3_89) hr
            · show Q3 Z u0 h0 n0 _ s₁.heap _
              rw [e0]
              exact ⟨(by unfold own_f3; rw [if_pos hc2, if_neg hc4, if_neg hc12, if_neg hc20, if_pos hc22]), N0, rfl⟩
          · skip
            have S23 : ∀ t, Steps p.tables e below (s₁.setTop (mkF m 60 #[iv u0, iv (u0 ||| (32 : Int32)), iv (0 : Int32), iv (u0 - (48 : Int32)), iv (0 : Int32), .unset] [(.int (35 : Int32)), (.int u0)])) t → Steps p.tables e below (s₁.setTop (entryFrame m #[(.int u0)] 6)) t := by
              intro t k
              refine S21 t ?_
              show Steps p.tables e below (s₁.setTop (mkF m 54 #[iv u0, iv (u0 ||| (32 : Int32)), iv (0 : Int32), iv (u0 - (48 : Int32)), iv (0 : Int32), .unset] [(.int (36 : Int32)), (.int u0)])) _
              refine XS.icmpNo X0.here hx rfl (hb hby d3_54) rfl (feq hc22).1 ?_
              show Steps p.tables e below (s₁.setTop (mkF m 57 #[iv u0, iv (u0 ||| (32 : Int32)), iv (0 : Int32), iv (u0 - (48 : Int32)), iv (0 : Int32), .unset] [])) _
              refine XS.iloadN X0.here hx rfl (hb hby d3_57) rfl ?_
              show Steps p.tables e below (s₁.setTop (mkF m 58 #[iv u0, iv (u0 ||| (32 : Int32)), iv (0 : Int32), iv (u0 - (48 : Int32)), iv (0 : Int32), .unset] [(.int u0)])) _
              refine XS.bipush X0.here hx rfl (hb hby d3_58) ?_
              exact k
            by_cases hc24 : u0 = (35 : Int32)
            · skip
              obtain ⟨fs, hr, hrun, hended, hW, hsame⟩ := X0.leave (v := some (.int (1 : Int32))) (fun h => by rw [Bd.returns] at h; cases h)
              refine ⟨_, _, S23 _ ?_, hrun, hended, _, _, rfl, ?_, ⟨_, rfl⟩, hW, hsame.mono (by decide) (by decide)⟩
              · skip
                show Steps p.tables e below (s₁.setTop (mkF m 60 #[iv u0, iv (u0 ||| (32 : Int32)), iv (0 : Int32), iv (u0 - (48 : Int32)), iv (0 : Int32), .unset] [(.int (35 : Int32)), (.int u0)])) _
                refine XS.icmpNo X0.here hx rfl (hb hby d3_60) rfl (teq hc24).2 ?_
                show Steps p.tables e below (s₁.setTop (mkF m 63 #[iv u0, iv (u0 ||| (32 : Int32)), iv (0 : Int32), iv (u0 - (48 : Int32)), iv (0 : Int32), .unset] [])) _
                refine XS.iconst X0.here hx rfl (hb hby d3_63) ?_
                show Steps p.tables e below (s₁.setTop (mkF m 64 #[iv u0, iv (u0 ||| (32 : Int32)), iv (0 : Int32), iv (u0 - (48 : Int32)), iv (0 : Int32), .unset] [(.int (1 : Int32))])) _
                refine XS.goto X0.here hx rfl (pc0 := 64) (pc' := 68) rfl (hb hby d3_64) (by decide) (by decide) ?_
                show Steps p.tables e below (s₁.setTop (mkF m 68 #[iv u0, iv (u0 ||| (32 : Int32)), iv (0 : Int32), iv (u0 - (48 : Int32)), iv (0 : Int32), .unset] [(.int (1 : Int32))])) _
                refine XS.istore X0.here hx rfl (hb hby d3_68) rfl (l' := #[iv u0, iv (u0 ||| (32 : Int32)), iv (0 : Int32), iv (u0 - (48 : Int32)), iv (0 : Int32), iv (1 : Int32)]) rfl ?_
                show Steps p.tables e below (s₁.setTop (mkF m 70 #[iv u0, iv (u0 ||| (32 : Int32)), iv (0 : Int32), iv (u0 - (48 : Int32)), iv (0 : Int32), iv (1 : Int32)] [])) _
                refine XS.iloadN X0.here hx rfl (hb hby d3_70) rfl ?_
                show Steps p.tables e below (s₁.setTop (mkF m 71 #[iv u0, iv (u0 ||| (32 : Int32)), iv (0 : Int32), iv (u0 - (48 : Int32)), iv (0 : Int32), iv (1 : Int32)] [(.int (0 : Int32))])) _
                refine XS.ifNo X0.here hx rfl (hb hby d3_71) rfl ((if0 _ _).trans (teq (by decide : (0 : Int32) = (0 : Int32))).2) ?_
                show Steps p.tables e below (s₁.setTop (mkF m 74 #[iv u0, iv (u0 ||| (32 : Int32)), iv (0 : Int32), iv (u0 - (48 : Int32)), iv (0 : Int32), iv (1 : Int32)] [])) _
                refine XS.iload X0.here hx rfl (hb hby d3_74) rfl ?_
                show Steps p.tables e below (s₁.setTop (mkF m 76 #[iv u0, iv (u0 ||| (32 : Int32)), iv (0 : Int32), iv (u0 - (48 : Int32)), iv (0 : Int32), iv (1 : Int32)] [(.int (0 : Int32))])) _
                refine XS.ifNo X0.here hx rfl (hb hby d3_76) rfl ((if0 _ _).trans (teq (by decide : (0 : Int32) = (0 : Int32))).2) ?_
                show Steps p.tables e below (s₁.setTop (mkF m 79 #[iv u0, iv (u0 ||| (32 : Int32)), iv (0 : Int32), iv (u0 - (48 : Int32)), iv (0 : Int32), iv (1 : Int32)] [])) _
                refine XS.iload X0.here hx rfl (hb hby d3_79) rfl ?_
                show Steps p.tables e below (s₁.setTop (mkF m 81 #[iv u0, iv (u0 ||| (32 : Int32)), iv (0 : Int32), iv (u0 - (48 : Int32)), iv (0 : Int32), iv (1 : Int32)] [(.int (1 : Int32))])) _
                refine XS.ifNo X0.here hx rfl (hb hby d3_81) rfl ((if0 _ _).trans (feq (by decide : ¬ ((1 : Int32) = (0 : Int32)))).1) ?_
                show Steps p.tables e below (s₁.setTop (mkF m 84 #[iv u0, iv (u0 ||| (32 : Int32)), iv (0 : Int32), iv (u0 - (48 : Int32)), iv (0 : Int32), iv (1 : Int32)] [])) _
                refine XS.iconst X0.here hx rfl (hb hby d3_84) ?_
                show Steps p.tables e below (s₁.setTop (mkF m 85 #[iv u0, iv (u0 ||| (32 : Int32)), iv (0 : Int32), iv (u0 - (48 : Int32)), iv (0 : Int32), iv (1 : Int32)] [(.int (1 : Int32))])) _
                refine XS.goto X0.here hx rfl (pc0 := 85) (pc' := 89) rfl (hb hby d3_85) (by decide) (by decide) ?_
                show Steps p.tables e below (s₁.setTop (mkF m 89 #[iv u0, iv (u0 ||| (32 : Int32)), iv (0 : Int32), iv (u0 - (48 : Int32)), iv (0 : Int32), iv (1 : Int32)] [(.int (1 : Int32))])) _
                exact retN X0 hx (t := .boolean) Bd.returns (by simp) (hb hby d3_89) hr
              · show Q3 Z u0 h0 n0 _ s₁.heap _
                rw [e0]
                exact ⟨(by unfold own_f3; rw [if_pos hc2, if_neg hc4, if_neg hc12, if_neg hc20, if_neg hc22, if_pos hc24]), N0, rfl⟩
            · skip
              obtain ⟨fs, hr, hrun, hended, hW, hsame⟩ := X0.leave (v := some (.int (0 : Int32))) (fun h => by rw [Bd.returns] at h; cases h)
              refine ⟨_, _, S23 _ ?_, hrun, hended, _, _, rfl, ?_, ⟨_, rfl⟩, hW, hsame.mono (by decide) (by decide)⟩
              · skip
                show Steps p.tables e below (s₁.setTop (mkF m 60 #[iv u0, iv (u0 ||| (32 : Int32)), iv (0 : Int32), iv (u0 - (48 : Int32)), iv (0 : Int32), .unset] [(.int (35 : Int32)), (.int u0)])) _
                refine XS.icmpYes X0.here hx rfl (pc0 := 60) (pc' := 67) rfl (hb hby d3_60) rfl (feq hc24).2 (by decide) (by decide) ?_
                show Steps p.tables e below (s₁.setTop (mkF m 67 #[iv u0, iv (u0 ||| (32 : Int32)), iv (0 : Int32), iv (u0 - (48 : Int32)), iv (0 : Int32), .unset] [])) _
                refine XS.iconst X0.here hx rfl (hb hby d3_67) ?_
                show Steps p.tables e below (s₁.setTop (mkF m 68 #[iv u0, iv (u0 ||| (32 : Int32)), iv (0 : Int32), iv (u0 - (48 : Int32)), iv (0 : Int32), .unset] [(.int (0 : Int32))])) _
                refine XS.istore X0.here hx rfl (hb hby d3_68) rfl (l' := #[iv u0, iv (u0 ||| (32 : Int32)), iv (0 : Int32), iv (u0 - (48 : Int32)), iv (0 : Int32), iv (0 : Int32)]) rfl ?_
                show Steps p.tables e below (s₁.setTop (mkF m 70 #[iv u0, iv (u0 ||| (32 : Int32)), iv (0 : Int32), iv (u0 - (48 : Int32)), iv (0 : Int32), iv (0 : Int32)] [])) _
                refine XS.iloadN X0.here hx rfl (hb hby d3_70) rfl ?_
                show Steps p.tables e below (s₁.setTop (mkF m 71 #[iv u0, iv (u0 ||| (32 : Int32)), iv (0 : Int32), iv (u0 - (48 : Int32)), iv (0 : Int32), iv (0 : Int32)] [(.int (0 : Int32))])) _
                refine XS.ifNo X0.here hx rfl (hb hby d3_71) rfl ((if0 _ _).trans (teq (by decide : (0 : Int32) = (0 : Int32))).2) ?_
                show Steps p.tables e below (s₁.setTop (mkF m 74 #[iv u0, iv (u0 ||| (32 : Int32)), iv (0 : Int32), iv (u0 - (48 : Int32)), iv (0 : Int32), iv (0 : Int32)] [])) _
                refine XS.iload X0.here hx rfl (hb hby d3_74) rfl ?_
                show Steps p.tables e below (s₁.setTop (mkF m 76 #[iv u0, iv (u0 ||| (32 : Int32)), iv (0 : Int32), iv (u0 - (48 : Int32)), iv (0 : Int32), iv (0 : Int32)] [(.int (0 : Int32))])) _
                refine XS.ifNo X0.here hx rfl (hb hby d3_76) rfl ((if0 _ _).trans (teq (by decide : (0 : Int32) = (0 : Int32))).2) ?_
                show Steps p.tables e below (s₁.setTop (mkF m 79 #[iv u0, iv (u0 ||| (32 : Int32)), iv (0 : Int32), iv (u0 - (48 : Int32)), iv (0 : Int32), iv (0 : Int32)] [])) _
                refine XS.iload X0.here hx rfl (hb hby d3_79) rfl ?_
                show Steps p.tables e below (s₁.setTop (mkF m 81 #[iv u0, iv (u0 ||| (32 : Int32)), iv (0 : Int32), iv (u0 - (48 : Int32)), iv (0 : Int32), iv (0 : Int32)] [(.int (0 : Int32))])) _
                refine XS.ifYes X0.here hx rfl (pc0 := 81) (pc' := 88) rfl (hb hby d3_81) rfl ((if0 _ _).trans (teq (by decide : (0 : Int32) = (0 : Int32))).1) (by decide) (by decide) ?_
                show Steps p.tables e below (s₁.setTop (mkF m 88 #[iv u0, iv (u0 ||| (32 : Int32)), iv (0 : Int32), iv (u0 - (48 : Int32)), iv (0 : Int32), iv (0 : Int32)] [])) _
                refine XS.iconst X0.here hx rfl (hb hby d3_88) ?_
                show Steps p.tables e below (s₁.setTop (mkF m 89 #[iv u0, iv (u0 ||| (32 : Int32)), iv (0 : Int32), iv (u0 - (48 : Int32)), iv (0 : Int32), iv (0 : Int32)] [(.int (0 : Int32))])) _
                exact retN X0 hx (t := .boolean) Bd.returns (by simp) (hb hby d3_89) hr
              · show Q3 Z u0 h0 n0 _ s₁.heap _
                rw [e0]
                exact ⟨(by unfold own_f3; rw [if_pos hc2, if_neg hc4, if_neg hc12, if_neg hc20, if_neg hc22, if_neg hc24]), N0, rfl⟩
  · skip
    have S25 : ∀ t, Steps p.tables e below (s₁.setTop (mkF m 14 #[iv u0, iv (u0 ||| (32 : Int32)), .unset, .unset, .unset, .unset] [(.int (122 : Int32)), (.int (u0 ||| (32 : Int32)))])) t → Steps p.tables e below (s₁.setTop (entryFrame m #[(.int u0)] 6)) t := by
      intro t k
      refine S1 t ?_
      show Steps p.tables e below (s₁.setTop (mkF m 8 #[iv u0, iv (u0 ||| (32 : Int32)), .unset, .unset, .unset, .unset] [(.int (97 : Int32)), (.int (u0 ||| (32 : Int32)))])) _
      refine XS.icmpNo X0.here hx rfl (hb hby d3_8) rfl (flt hc2).1 ?_
      show Steps p.tables e below (s₁.setTop (mkF m 11 #[iv u0, iv (u0 ||| (32 : Int32)), .unset, .unset, .unset, .unset] [])) _
      refine XS.iloadN X0.here hx rfl (hb hby d3_11) rfl ?_
      show Steps p.tables e below (s₁.setTop (mkF m 12 #[iv u0, iv (u0 ||| (32 : Int32)), .unset, .unset, .unset, .unset] [(.int (u0 ||| (32 : Int32)))])) _
      refine XS.bipush X0.here hx rfl (hb hby d3_12) ?_
      exact k
    by_cases hc26 : (122 : Int32) < (u0 ||| (32 : Int32))
    · skip
      have S27 : ∀ t, Steps p.tables e below (s₁.setTop (mkF m 29 #[iv u0, iv (u0 ||| (32 : Int32)), iv (0 : Int32), iv (u0 - (48 : Int32)), .unset, .unset] [(.int (u0 - (48 : Int32)))])) t → Steps p.tables e below (s₁.setTop (entryFrame m #[(.int u0)] 6)) t := by
        intro t k
        refine S25 t ?_
        show Steps p.tables e below (s₁.setTop (mkF m 14 #[iv u0, iv (u0 ||| (32 : Int32)), .unset, .unset, .unset, .unset] [(.int (122 : Int32)), (.int (u0 ||| (32 : Int32)))])) _
        refine XS.icmpYes X0.here hx rfl (pc0 := 14) (pc' := 21) rfl (hb hby d3_14) rfl (tlt hc26).2.2.1 (by decide) (by decide) ?_
        show Steps p.tables e below (s₁.setTop (mkF m 21 #[iv u0, iv (u0 ||| (32 : Int32)), .unset, .unset, .unset, .unset] [])) _
        refine XS.iconst X0.here hx rfl (hb hby d3_21) ?_
        show Steps p.tables e below (s₁.setTop (mkF m 22 #[iv u0, iv (u0 ||| (32 : Int32)), .unset, .unset, .unset, .unset] [(.int (0 : Int32))])) _
        refine XS.istoreN X0.here hx rfl (hb hby d3_22) rfl (l' := #[iv u0, iv (u0 ||| (32 : Int32)), iv (0 : Int32), .unset, .unset, .unset]) rfl ?_
        show Steps p.tables e below (s₁.setTop (mkF m 23 #[iv u0, iv (u0 ||| (32 : Int32)), iv (0 : Int32), .unset, .unset, .unset] [])) _
        refine XS.iloadN X0.here hx rfl (hb hby d3_23) rfl ?_
        show Steps p.tables e below (s₁.setTop (mkF m 24 #[iv u0, iv (u0 ||| (32 : Int32)), iv (0 : Int32), .unset, .unset, .unset] [(.int u0)])) _
        refine XS.bipush X0.here hx rfl (hb hby d3_24) ?_
        show Steps p.tables e below (s₁.setTop (mkF m 26 #[iv u0, iv (u0 ||| (32 : Int32)), iv (0 : Int32), .unset, .unset, .unset] [(.int (48 : Int32)), (.int u0)])) _
        refine XS.isub X0.here hx rfl (hb hby d3_26) rfl ?_
        show Steps p.tables e below (s₁.setTop (mkF m 27 #[iv u0, iv (u0 ||| (32 : Int32)), iv (0 : Int32), .unset, .unset, .unset] [(.int (u0 - (48 : Int32)))])) _
        refine XS.istoreN X0.here hx rfl (hb hby d3_27) rfl (l' := #[iv u0, iv (u0 ||| (32 : Int32)), iv (0 : Int32), iv (u0 - (48 : Int32)), .unset, .unset]) rfl ?_
        show Steps p.tables e below (s₁.setTop (mkF m 28 #[iv u0, iv (u0 ||| (32 : Int32)), iv (0 : Int32), iv (u0 - (48 : Int32)), .unset, .unset] [])) _
        refine XS.iloadN X0.here hx rfl (hb hby d3_28) rfl ?_
        exact k
      by_cases hc28 : (u0 - (48 : Int32)) < (0 : Int32)
      · skip
        have S29 : ∀ t, Steps p.tables e below (s₁.setTop (mkF m 48 #[iv u0, iv (u0 ||| (32 : Int32)), iv (0 : Int32), iv (u0 - (48 : Int32)), iv (0 : Int32), .unset] [(.int (95 : Int32)), (.int u0)])) t → Steps p.tables e below (s₁.setTop (entryFrame m #[(.int u0)] 6)) t := by
          intro t k
          refine S27 t ?_
          show Steps p.tables e below (s₁.setTop (mkF m 29 #[iv u0, iv (u0 ||| (32 : Int32)), iv (0 : Int32), iv (u0 - (48 : Int32)), .unset, .unset] [(.int (u0 - (48 : Int32)))])) _
          refine XS.ifYes X0.here hx rfl (pc0 := 29) (pc' := 42) rfl (hb hby d3_29) rfl ((if0 _ _).trans (tlt hc28).1) (by decide) (by decide) ?_
          show Steps p.tables e below (s₁.setTop (mkF m 42 #[iv u0, iv (u0 ||| (32 : Int32)), iv (0 : Int32), iv (u0 - (48 : Int32)), .unset, .unset] [])) _
          refine XS.iconst X0.here hx rfl (hb hby d3_42) ?_
          show Steps p.tables e below (s₁.setTop (mkF m 43 #[iv u0, iv (u0 ||| (32 : Int32)), iv (0 : Int32), iv (u0 - (48 : Int32)), .unset, .unset] [(.int (0 : Int32))])) _
          refine XS.istore X0.here hx rfl (hb hby d3_43) rfl (l' := #[iv u0, iv (u0 ||| (32 : Int32)), iv (0 : Int32), iv (u0 - (48 : Int32)), iv (0 : Int32), .unset]) rfl ?_
          show Steps p.tables e below (s₁.setTop (mkF m 45 #[iv u0, iv (u0 ||| (32 : Int32)), iv (0 : Int32), iv (u0 - (48 : Int32)), iv (0 : Int32), .unset] [])) _
          refine XS.iloadN X0.here hx rfl (hb hby d3_45) rfl ?_
          show Steps p.tables e below (s₁.setTop (mkF m 46 #[iv u0, iv (u0 ||| (32 : Int32)), iv (0 : Int32), iv (u0 - (48 : Int32)), iv (0 : Int32), .unset] [(.int u0)])) _
          refine XS.bipush X0.here hx rfl (hb hby d3_46) ?_
          exact k
        by_cases hc30 : u0 = (95 : Int32)
        · skip
          obtain ⟨fs, hr, hrun, hended, hW, hsame⟩ := X0.leave (v := some (.int (1 : Int32))) (fun h => by rw [Bd.returns] at h; cases h)
          refine ⟨_, _, S29 _ ?_, hrun, hended, _, _, rfl, ?_, ⟨_, rfl⟩, hW, hsame.mono (by decide) (by decide)⟩
          · skip
            show Steps p.tables e below (s₁.setTop (mkF m 48 #[iv u0, iv (u0 ||| (32 : Int32)), iv (0 : Int32), iv (u0 - (48 : Int32)), iv (0 : Int32), .unset] [(.int (95 : Int32)), (.int u0)])) _
            refine XS.icmpYes X0.here hx rfl (pc0 := 48) (pc' := 63) rfl (hb hby d3_48) rfl (teq hc30).1 (by decide) (by decide) ?_
            show Steps p.tables e below (s₁.setTop (mkF m 63 #[iv u0, iv (u0 ||| (32 : Int32)), iv (0 : Int32), iv (u0 - (48 : Int32)), iv (0 : Int32), .unset] [])) _
            refine XS.iconst X0.here hx rfl (hb hby d3_63) ?_
            show Steps p.tables e below (s₁.setTop (mkF m 64 #[iv u0, iv (u0 ||| (32 : Int32)), iv (0 : Int32), iv (u0 - (48 : Int32)), iv (0 : Int32), .unset] [(.int (1 : Int32))])) _
            refine XS.goto X0.here hx rfl (pc0 := 64) (pc' := 68) rfl (hb hby d3_64) (by decide) (by decide) ?_
            show Steps p.tables e below (s₁.setTop (mkF m 68 #[iv u0, iv (u0 ||| (32 : Int32)), iv (0 : Int32), iv (u0 - (48 : Int32)), iv (0 : Int32), .unset] [(.int (1 : Int32))])) _
            refine XS.istore X0.here hx rfl (hb hby d3_68) rfl (l' := #[iv u0, iv (u0 ||| (32 : Int32)), iv (0 : Int32), iv (u0 - (48 : Int32)), iv (0 : Int32), iv (1 : Int32)]) rfl ?_
            show Steps p.tables e below (s₁.setTop (mkF m 70 #[iv u0, iv (u0 ||| (32 : Int32)), iv (0 : Int32), iv (u0 - (48 : Int32)), iv (0 : Int32), iv (1 : Int32)] [])) _
            refine XS.iloadN X0.here hx rfl (hb hby d3_70) rfl ?_
            show Steps p.tables e below (s₁.setTop (mkF m 71 #[iv u0, iv (u0 ||| (32 : Int32)), iv (0 : Int32), iv (u0 - (48 : Int32)), iv (0 : Int32), iv (1 : Int32)] [(.int (0 : Int32))])) _
            refine XS.ifNo X0.here hx rfl (hb hby d3_71) rfl ((if0 _ _).trans (teq (by decide : (0 : Int32) = (0 : Int32))).2) ?_
            show Steps p.tables e below (s₁.setTop (mkF m 74 #[iv u0, iv (u0 ||| (32 : Int32)), iv (0 : Int32), iv (u0 - (48 : Int32)), iv (0 : Int32), iv (1 : Int32)] [])) _
            refine XS.iload X0.here hx rfl (hb hby d3_74) rfl ?_
            show Steps p.tables e below (s₁.setTop (mkF m 76 #[iv u0, iv (u0 ||| (32 : Int32)), iv (0 : Int32), iv (u0 - (48 : Int32)), iv (0 : Int32), iv (1 : Int32)] [(.int (0 : Int32))])) _
            refine XS.ifNo X0.here hx rfl (hb hby d3_76) rfl ((if0 _ _).trans (teq (by decide : (0 : Int32) = (0 : Int32))).2) ?_
            show Steps p.tables e below (s₁.setTop (mkF m 79 #[iv u0, iv (u0 ||| (32 : Int32)), iv (0 : Int32), iv (u0 - (48 : Int32)), iv (0 : Int32), iv (1 : Int32)] [])) _
            refine XS.iload X0.here hx rfl (hb hby d3_79) rfl ?_
            show Steps p.tables e below (s₁.setTop (mkF m 81 #[iv u0, iv (u0 ||| (32 : Int32)), iv (0 : Int32), iv (u0 - (48 : Int32)), iv (0 : Int32), iv (1 : Int32)] [(.int (1 : Int32))])) _
            refine XS.ifNo X0.here hx rfl (hb hby d3_81) rfl ((if0 _ _).trans (feq (by decide : ¬ ((1 : Int32) = (0 : Int32)))).1) ?_
            show Steps p.tables e below (s₁.setTop (mkF m 84 #[iv u0, iv (u0 ||| (32 : Int32)), iv (0 : Int32), iv (u0 - (48 : Int32)), iv (0 : Int32), iv (1 : Int32)] [])) _
            refine XS.iconst X0.here hx rfl (hb hby d3_84) ?_
            show Steps p.tables e below (s₁.setTop (mkF m 85 #[iv u0, iv (u0 ||| (32 : Int32)), iv (0 : Int32), iv (u0 - (48 : Int32)), iv (0 : Int32), iv (1 : Int32)] [(.int (1 : Int32))])) _
            refine XS.goto X0.here hx rfl (pc0 := 85) (pc' := 89) rfl (hb hby d3_85) (by decide) (by decide) ?_
            show Steps p.tables e below (s₁.setTop (mkF m 89 #[iv u0, iv (u0 ||| (32 : Int32)), iv (0 : Int32), iv (u0 - (48 : Int32)), iv (0 : Int32), iv (1 : Int32)] [(.int (1 : Int32))])) _
            exact retN X0 hx (t := .boolean) Bd.returns (by simp) (hb hby d3_89) hr
          · show Q3 Z u0 h0 n0 _ s₁.heap _
            rw [e0]
            exact ⟨(by unfold own_f3; rw [if_neg hc2, if_pos hc26, if_pos hc28, if_pos hc30]), N0, rfl⟩
        · skip
          have S31 : ∀ t, Steps p.tables e below (s₁.setTop (mkF m 54 #[iv u0, iv (u0 ||| (32 : Int32)), iv (0 : Int32), iv (u0 - (48 : Int32)), iv (0 : Int32), .unset] [(.int (36 : Int32)), (.int u0)])) t → Steps p.tables e below (s₁.setTop (entryFrame m #[(.int u0)] 6)) t := by
            intro t k
            refine S29 t ?_
            show Steps p.tables e below (s₁.setTop (mkF m 48 #[iv u0, iv (u0 ||| (32 : Int32)), iv (0 : Int32), iv (u0 - (48 : Int32)), iv (0 : Int32), .unset] [(.int (95 : Int32)), (.int u0)])) _
            refine XS.icmpNo X0.here hx rfl (hb hby d3_48) rfl (feq hc30).1 ?_
            show Steps p.tables e below (s₁.setTop (mkF m 51 #[iv u0, iv (u0 ||| (32 : Int32)), iv (0 : Int32), iv (u0 - (48 : Int32)), iv (0 : Int32), .unset] [])) _
            refine XS.iloadN X0.here hx rfl (hb hby d3_51) rfl ?_
            show Steps p.tables e below (s₁.setTop (mkF m 52 #[iv u0, iv (u0 ||| (32 : Int32)), iv (0 : Int32), iv (u0 - (48 : Int32)), iv (0 : Int32), .unset] [(.int u0)])) _
            refine XS.bipush X0.here hx rfl (hb hby d3_52) ?_
            exact k
          by_cases hc32 : u0 = (36 : Int32)
          · skip
            obtain ⟨fs, hr, hrun, hended, hW, hsame⟩ := X0.leave (v := some (.int (1 : Int32))) (fun h => by rw [Bd.returns] at h; cases h)
            refine ⟨_, _, S31 _ ?_, hrun, hended, _, _, rfl, ?_, ⟨_, rfl⟩, hW, hsame.mono (by decide) (by decide)⟩
            · skip
              show Steps p.tables e below (s₁.setTop (mkF m 54 #[iv u0, iv (u0 ||| (32 : Int32)), iv (0 : Int32), iv (u0 - (48 : Int32)), iv (0 : Int32), .unset] [(.int (36 : Int32)), (.int u0)])) _
              refine XS.icmpYes X0.here hx rfl (pc0 := 54) (pc' := 63) rfl (hb hby d3_54) rfl (teq hc32).1 (by decide) (by decide) ?_
              show Steps p.tables e below (s₁.setTop (mkF m 63 #[iv u0, iv (u0 ||| (32 : Int32)), iv (0 : Int32), iv (u0 - (48 : Int32)), iv (0 : Int32), .unset] [])) _
              refine XS.iconst X0.here hx rfl (hb hby d3_63) ?_
              show Steps p.tables e below (s₁.setTop (mkF m 64 #[iv u0, iv (u0 ||| (32 : Int32)), iv (0 : Int32), iv (u0 - (48 : Int32)), iv (0 : Int32), .unset] [(.int (1 : Int32))])) _
              refine XS.goto X0.here hx rfl (pc0 := 64) (pc' := 68) rfl (hb hby d3_64) (by decide) (by decide) ?_
              show Steps p.tables e below (s₁.setTop (mkF m 68 #[iv u0, iv (u0 ||| (32 : Int32)), iv (0 : Int32), iv (u0 - (48 : Int32)), iv (0 : Int32), .unset] [(.int (1 : Int32))])) _
              refine XS.istore X0.here hx rfl (hb hby d3_68) rfl (l' := #[iv u0, iv (u0 ||| (32 : Int32)), iv (0 : Int32), iv (u0 - (48 : Int32)), iv (0 : Int32), iv (1 : Int32)]) rfl ?_
              show Steps p.tables e below (s₁.setTop (mkF m 70 #[iv u0, iv (u0 ||| (32 : Int32)), iv (0 : Int32), iv (u0 - (48 : Int32)), iv (0 : Int32), iv (1 : Int32)] [])) _
              refine XS.iloadN X0.here hx rfl (hb hby d3_70) rfl ?_
              show Steps p.tables e below (s₁.setTop (mkF m 71 #[iv u0, iv (u0 ||| (32 : Int32)), iv (0 : Int32), iv (u0 - (48 : Int32)), iv (0 : Int32), iv (1 : Int32)] [(.int (0 : Int32))])) _
              refine XS.ifNo X0.here hx rfl (hb hby d3_71) rfl ((if0 _ _).trans (teq (by decide : (0 : Int32) = (0 : Int32))).2) ?_
              show Steps p.tables e below (s₁.setTop (mkF m 74 #[iv u0, iv (u0 ||| (32 : Int32)), iv (0 : Int32), iv (u0 - (48 : Int32)), iv (0 : Int32), iv (1 : Int32)] [])) _
              refine XS.iload X0.here hx rfl (hb hby d3_74) rfl ?_
              show Steps p.tables e below (s₁.setTop (mkF m 76 #[iv u0, iv (u0 ||| (32 : Int32)), iv (0 : Int32), iv (u0 - (48 : Int32)), iv (0 : Int32), iv (1 : Int32)] [(.int (0 : Int32))])) _
              refine XS.ifNo X0.here hx rfl (hb hby d3_76) rfl ((if0 _ _).trans (teq (by decide : (0 : Int32) = (0 : Int32))).2) ?_
              show Steps p.tables e below (s₁.setTop (mkF m 79 #[iv u0, iv (u0 ||| (32 : Int32)), iv (0 : Int32), iv (u0 - (48 : Int32)), iv (0 : Int32), iv (1 : Int32)] [])) _
              refine XS.iload X0.here hx rfl (hb hby d3_79) rfl ?_
              show Steps p.tables e below (s₁.setTop (mkF m 81 #[iv u0, iv (u0 ||| (32 : Int32)), iv (0 : Int32), iv (u0 - (48 : Int32)), iv (0 : Int32), iv (1 : Int32)] [(.int (1 : Int32))])) _
              refine XS.ifNo X0.here hx rfl (hb hby d3_81) rfl ((if0 _ _).trans (feq (by decide : ¬ ((1 : Int32) = (0 : Int32)))).1) ?_
              show Steps p.tables e below (s₁.setTop (mkF m 84 #[iv u0, iv (u0 ||| (32 : Int32)), iv (0 : Int32), iv (u0 - (48 : Int32)), iv (0 : Int32), iv (1 : Int32)] [])) _
              refine XS.iconst X0.here hx rfl (hb hby d3_84) ?_
              show Steps p.tables e below (s₁.setTop (mkF m 85 #[iv u0, iv (u0 ||| (32 : Int32)), iv (0 : Int32), iv (u0 - (48 : Int32)), iv (0 : Int32), iv (1 : Int32)] [(.int (1 : Int32))])) _
              refine XS.goto X0.here hx rfl (pc0 := 85) (pc' := 89) rfl (hb hby d3_85) (by decide) (by decide) ?_
              show Steps p.tables e below (s₁.setTop (mkF m 89 #[iv u0, iv (u0 ||| (32 : Int32)), iv (0 : Int32), iv (u0 - (48 : Int32)), iv (0 : Int32), iv (1 : Int32)] [(.int (1 : Int32))])) _
              exact retN X0 hx (t := .boolean) Bd.returns (by simp) (hb hby d3_89) hr
            · show Q3 Z u0 h0 n0 _ s₁.heap _
              rw [e0]
              exact ⟨(by unfold own_f3; rw [if_neg hc2, if_pos hc26, if_pos hc28, if_neg hc30, if_pos hc32]), N0, rfl⟩
          · skip
            have S33 : ∀ t, Steps p.tables e below (s₁.setTop (mkF m 60 #[iv u0, iv (u0 ||| (32 : Int32)), iv (0 : Int32), iv (u0 - (48 : Int32)), iv (0 : Int32), .unset] [(.int (35 : Int32)), (.int u0)])) t → Steps p.tables e below (s₁.setTop (entryFrame m #[(.int u0)] 6)) t := by
              intro t k
              refine S31 t ?_
              show Steps p.tables e below (s₁.setTop (mkF m 54 #[iv u0, iv (u0 ||| (32 : Int32)), iv (0 : Int32), iv (u0 - (48 : Int32)), iv (0 : Int32), .unset] [(.int (36 : Int32)), (.int u0)])) _
              refine XS.icmpNo X0.here hx rfl (hb hby d3_54) rfl (feq hc32).1 ?_
              show Steps p.tables e below (s₁.setTop (mkF m 57 #[iv u0, iv (u0 ||| (32 : Int32)), iv (0 : Int32), iv (u0 - (48 : Int32)), iv (0 : Int32), .unset] [])) _
              refine XS.iloadN X0.here hx rfl (hb hby d3_57) rfl ?_
              show Steps p.tables e below (s₁.setTop (mkF m 58 #[iv u0, iv (u0 ||| (32 : Int32)), iv (0 : Int32), iv (u0 - (48 : Int32)), iv (0 : Int32), .unset] [(.int u0)])) _
              refine XS.bipush X0.here hx rfl (hb hby d3_58) ?_
              exact k
            by_cases hc34 : u0 = (35 : Int32)
            · skip
              obtain ⟨fs, hr, hrun, hended, hW, hsame⟩ := X0.leave (v := some (.int (1 : Int32))) (fun h => by rw [Bd.returns] at h; cases h)
              refine ⟨_, _, S33 _ ?_, hrun, hended, _, _, rfl, ?_, ⟨_, rfl⟩, hW, hsame.mono (by decide) (by decide)⟩
              · skip
                show Steps p.tables e below (s₁.setTop (mkF m 60 #[iv u0, iv (u0 ||| (32 : Int32)), iv (0 : Int32), iv (u0 - (48 : Int32)), iv (0 : Int32), .unset] [(.int (35 : Int32)), (.int u0)])) _
                refine XS.icmpNo X0.here hx rfl (hb hby d3_60) rfl (teq hc34).2 ?_
                show Steps p.tables e below (s₁.setTop (mkF m 63 #[iv u0, iv (u0 ||| (32 : Int32)), iv (0 : Int32), iv (u0 - (48 : Int32)), iv (0 : Int32), .unset] [])) _
                refine XS.iconst X0.here hx rfl (hb hby d3_63) ?_
                show Steps p.tables e below (s₁.setTop (mkF m 64 #[iv u0, iv (u0 ||| (32 : Int32)), iv (0 : Int32), iv (u0 - (48 : Int32)), iv (0 : Int32), .unset] [(.int (1 : Int32))])) _
                refine XS.goto X0.here hx rfl (pc0 := 64) (pc' := 68) rfl (hb hby d3_64) (by decide) (by decide) ?_
                show Steps p.tables e below (s₁.setTop (mkF m 68 #[iv u0, iv (u0 ||| (32 : Int32)), iv (0 : Int32), iv (u0 - (48 : Int32)), iv (0 : Int32), .unset] [(.int (1 : Int32))])) _
                refine XS.istore X0.here hx rfl (hb hby d3_68) rfl (l' := #[iv u0, iv (u0 ||| (32 : Int32)), iv (0 : Int32), iv (u0 - (48 : Int32)), iv (0 : Int32), iv (1 : Int32)]) rfl ?_
                show Steps p.tables e below (s₁.setTop (mkF m 70 #[iv u0, iv (u0 ||| (32 : Int32)), iv (0 : Int32), iv (u0 - (48 : Int32)), iv (0 : Int32), iv (1 : Int32)] [])) _
                refine XS.iloadN X0.here hx rfl (hb hby d3_70) rfl ?_
                show Steps p.tables e below (s₁.setTop (mkF m 71 #[iv u0, iv (u0 ||| (32 : Int32)), iv (0 : Int32), iv (u0 - (48 : Int32)), iv (0 : Int32), iv (1 : Int32)] [(.int (0 : Int32))])) _
                refine XS.ifNo X0.here hx rfl (hb hby d3_71) rfl ((if0 _ _).trans (teq (by decide : (0 : Int32) = (0 : Int32))).2) ?_
                show Steps p.tables e below (s₁.setTop (mkF m 74 #[iv u0, iv (u0 ||| (32 : Int32)), iv (0 : Int32), iv (u0 - (48 : Int32)), iv (0 : Int32), iv (1 : Int32)] [])) _
                refine XS.iload X0.here hx rfl (hb hby d3_74) rfl ?_
                show Steps p.tables e below (s₁.setTop (mkF m 76 #[iv u0, iv (u0 ||| (32 : Int32)), iv (0 : Int32), iv (u0 - (48 : Int32)), iv (0 : Int32), iv (1 : Int32)] [(.int (0 : Int32))])) _
                refine XS.ifNo X0.here hx rfl (hb hby d3_76) rfl ((if0 _ _).trans (teq (by decide : (0 : Int32) = (0 : Int32))).2) ?_
                show Steps p.tables e below (s₁.setTop (mkF m 79 #[iv u0, iv (u0 ||| (32 : Int32)), iv (0 : Int32), iv (u0 - (48 : Int32)), iv (0 : Int32), iv (1 : Int32)] [])) _
                refine XS.iload X0.here hx rfl (hb hby d3_79) rfl ?_
                show Steps p.tables e below (s₁.setTop (mkF m 81 #[iv u0, iv (u0 ||| (32 : Int32)), iv (0 : Int32), iv (u0 - (48 : Int32)), iv (0 : Int32), iv (1 : Int32)] [(.int (1 : Int32))])) _
                refine XS.ifNo X0.here hx rfl (hb hby d3_81) rfl ((if0 _ _).trans (feq (by decide : ¬ ((1 : Int32) = (0 : Int32)))).1) ?_
                show Steps p.tables e below (s₁.setTop (mkF m 84 #[iv u0, iv (u0 ||| (32 : Int32)), iv (0 : Int32), iv (u0 - (48 : Int32)), iv (0 : Int32), iv (1 : Int32)] [])) _
                refine XS.iconst X0.here hx rfl (hb hby d3_84) ?_
                show Steps p.tables e below (s₁.setTop (mkF m 85 #[iv u0, iv (u0 ||| (32 : Int32)), iv (0 : Int32), iv (u0 - (48 : Int32)), iv (0 : Int32), iv (1 : Int32)] [(.int (1 : Int32))])) _
                refine XS.goto X0.here hx rfl (pc0 := 85) (pc' := 89) rfl (hb hby d3_85) (by decide) (by decide) ?_
                show Steps p.tables e below (s₁.setTop (mkF m 89 #[iv u0, iv (u0 ||| (32 : Int32)), iv (0 : Int32), iv (u0 - (48 : Int32)), iv (0 : Int32), iv (1 : Int32)] [(.int (1 : Int32))])) _
                exact retN X0 hx (t := .boolean) Bd.returns (by simp) (hb hby d3_89) hr
              · show Q3 Z u0 h0 n0 _ s₁.heap _
                rw [e0]
                exact ⟨(by unfold own_f3; rw [if_neg hc2, if_pos hc26, if_pos hc28, if_neg hc30, if_neg hc32, if_pos hc34]), N0, rfl⟩
            · skip
              obtain ⟨fs, hr, hrun, hended, hW, hsame⟩ := X0.leave (v := some (.int (0 : Int32))) (fun h => by rw [Bd.returns] at h; cases h)
              refine ⟨_, _, S33 _ ?_, hrun, hended, _, _, rfl, ?_, ⟨_, rfl⟩, hW, hsame.mono (by decide) (by decide)⟩
              · skip
                show Steps p.tables e below (s₁.setTop (mkF m 60 #[iv u0, iv (u0 ||| (32 : Int32)), iv (0 : Int32), iv (u0 - (48 : Int32)), iv (0 : Int32), .unset] [(.int (35 : Int32)), (.int u0)])) _
                refine XS.icmpYes X0.here hx rfl (pc0 := 60) (pc' := 67) rfl (hb hby d3_60) rfl (feq hc34).2 (by decide) (by decide) ?_
                show Steps p.tables e below (s₁.setTop (mkF m 67 #[iv u0, iv (u0 ||| (32 : Int32)), iv (0 : Int32), iv (u0 - (48 : Int32)), iv (0 : Int32), .unset] [])) _
                refine XS.iconst X0.here hx rfl (hb hby d3_67) ?_
                show Steps p.tables e below (s₁.setTop (mkF m 68 #[iv u0, iv (u0 ||| (32 : Int32)), iv (0 : Int32), iv (u0 - (48 : Int32)), iv (0 : Int32), .unset] [(.int (0 : Int32))])) _
                refine XS.istore X0.here hx rfl (hb hby d3_68) rfl (l' := #[iv u0, iv (u0 ||| (32 : Int32)), iv (0 : Int32), iv (u0 - (48 : Int32)), iv (0 : Int32), iv (0 : Int32)]) rfl ?_
                show Steps p.tables e below (s₁.setTop (mkF m 70 #[iv u0, iv (u0 ||| (32 : Int32)), iv (0 : Int32), iv (u0 - (48 : Int32)), iv (0 : Int32), iv (0 : Int32)] [])) _
                refine XS.iloadN X0.here hx rfl (hb hby d3_70) rfl ?_
                show Steps p.tables e below (s₁.setTop (mkF m 71 #[iv u0, iv (u0 ||| (32 : Int32)), iv (0 : Int32), iv (u0 - (48 : Int32)), iv (0 : Int32), iv (0 : Int32)] [(.int (0 : Int32))])) _
                refine XS.ifNo X0.here hx rfl (hb hby d3_71) rfl ((if0 _ _).trans (teq (by decide : (0 : Int32) = (0 : Int32))).2) ?_
                show Steps p.tables e below (s₁.setTop (mkF m 74 #[iv u0, iv (u0 ||| (32 : Int32)), iv (0 : Int32), iv (u0 - (48 : Int32)), iv (0 : Int32), iv (0 : Int32)] [])) _
                refine XS.iload X0.here hx rfl (hb hby d3_74) rfl ?_
                show Steps p.tables e below (s₁.setTop (mkF m 76 #[iv u0, iv (u0 ||| (32 : Int32)), iv (0 : Int32), iv (u0 - (48 : Int32)), iv (0 : Int32), iv (0 : Int32)] [(.int (0 : Int32))])) _
                refine XS.ifNo X0.here hx rfl (hb hby d3_76) rfl ((if0 _ _).trans (teq (by decide : (0 : Int32) = (0 : Int32))).2) ?_
                show Steps p.tables e below (s₁.setTop (mkF m 79 #[iv u0, iv (u0 ||| (32 : Int32)), iv (0 : Int32), iv (u0 - (48 : Int32)), iv (0 : Int32), iv (0 : Int32)] [])) _
                refine XS.iload X0.here hx rfl (hb hby d3_79) rfl ?_
                show Steps p.tables e below (s₁.setTop (mkF m 81 #[iv u0, iv (u0 ||| (32 : Int32)), iv (0 : Int32), iv (u0 - (48 : Int32)), iv (0 : Int32), iv (0 : Int32)] [(.int (0 : Int32))])) _
                refine XS.ifYes X0.here hx rfl (pc0 := 81) (pc' := 88) rfl (hb hby d3_81) rfl ((if0 _ _).trans (teq (by decide : (0 : Int32) = (0 : Int32))).1) (by decide) (by decide) ?_
                show Steps p.tables e below (s₁.setTop (mkF m 88 #[iv u0, iv (u0 ||| (32 : Int32)), iv (0 : Int32), iv (u0 - (48 : Int32)), iv (0 : Int32), iv (0 : Int32)] [])) _
                refine XS.iconst X0.here hx rfl (hb hby d3_88) ?_
                show Steps p.tables e below (s₁.setTop (mkF m 89 #[iv u0, iv (u0 ||| (32 : Int32)), iv (0 : Int32), iv (u0 - (48 : Int32)), iv (0 : Int32), iv (0 : Int32)] [(.int (0 : Int32))])) _
                exact retN X0 hx (t := .boolean) Bd.returns (by simp) (hb hby d3_89) hr
              · show Q3 Z u0 h0 n0 _ s₁.heap _
                rw [e0]
                exact ⟨(by unfold own_f3; rw [if_neg hc2, if_pos hc26, if_pos hc28, if_neg hc30, if_neg hc32, if_neg hc34]), N0, rfl⟩
      · skip
        have S35 : ∀ t, Steps p.tables e below (s₁.setTop (mkF m 35 #[iv u0, iv (u0 ||| (32 : Int32)), iv (0 : Int32), iv (u0 - (48 : Int32)), .unset, .unset] [(.int (10 : Int32)), (.int (u0 - (48 : Int32)))])) t → Steps p.tables e below (s₁.setTop (entryFrame m #[(.int u0)] 6)) t := by
          intro t k
          refine S27 t ?_
          show Steps p.tables e below (s₁.setTop (mkF m 29 #[iv u0, iv (u0 ||| (32 : Int32)), iv (0 : Int32), iv (u0 - (48 : Int32)), .unset, .unset] [(.int (u0 - (48 : Int32)))])) _
          refine XS.ifNo X0.here hx rfl (hb hby d3_29) rfl ((if0 _ _).trans (flt hc28).1) ?_
          show Steps p.tables e below (s₁.setTop (mkF m 32 #[iv u0, iv (u0 ||| (32 : Int32)), iv (0 : Int32), iv (u0 - (48 : Int32)), .unset, .unset] [])) _
          refine XS.iloadN X0.here hx rfl (hb hby d3_32) rfl ?_
          show Steps p.tables e below (s₁.setTop (mkF m 33 #[iv u0, iv (u0 ||| (32 : Int32)), iv (0 : Int32), iv (u0 - (48 : Int32)), .unset, .unset] [(.int (u0 - (48 : Int32)))])) _
          refine XS.bipush X0.here hx rfl (hb hby d3_33) ?_
          exact k
        by_cases hc36 : (u0 - (48 : Int32)) < (10 : Int32)
        · skip
          have S37 : ∀ t, Steps p.tables e below (s₁.setTop (mkF m 48 #[iv u0, iv (u0 ||| (32 : Int32)), iv (0 : Int32), iv (u0 - (48 : Int32)), iv (1 : Int32), .unset] [(.int (95 : Int32)), (.int u0)])) t → Steps p.tables e below (s₁.setTop (entryFrame m #[(.int u0)] 6)) t := by
            intro t k
            refine S35 t ?_
            show Steps p.tables e below (s₁.setTop (mkF m 35 #[iv u0, iv (u0 ||| (32 : Int32)), iv (0 : Int32), iv (u0 - (48 : Int32)), .unset, .unset] [(.int (10 : Int32)), (.int (u0 - (48 : Int32)))])) _
            refine XS.icmpNo X0.here hx rfl (hb hby d3_35) rfl (tlt hc36).2.1 ?_
            show Steps p.tables e below (s₁.setTop (mkF m 38 #[iv u0, iv (u0 ||| (32 : Int32)), iv (0 : Int32), iv (u0 - (48 : Int32)), .unset, .unset] [])) _
            refine XS.iconst X0.here hx rfl (hb hby d3_38) ?_
            show Steps p.tables e below (s₁.setTop (mkF m 39 #[iv u0, iv (u0 ||| (32 : Int32)), iv (0 : Int32), iv (u0 - (48 : Int32)), .unset, .unset] [(.int (1 : Int32))])) _
            refine XS.goto X0.here hx rfl (pc0 := 39) (pc' := 43) rfl (hb hby d3_39) (by decide) (by decide) ?_
            show Steps p.tables e below (s₁.setTop (mkF m 43 #[iv u0, iv (u0 ||| (32 : Int32)), iv (0 : Int32), iv (u0 - (48 : Int32)), .unset, .unset] [(.int (1 : Int32))])) _
            refine XS.istore X0.here hx rfl (hb hby d3_43) rfl (l' := #[iv u0, iv (u0 ||| (32 : Int32)), iv (0 : Int32), iv (u0 - (48 : Int32)), iv (1 : Int32), .unset]) rfl ?_
            show Steps p.tables e below (s₁.setTop (mkF m 45 #[iv u0, iv (u0 ||| (32 : Int32)), iv (0 : Int32), iv (u0 - (48 : Int32)), iv (1 : Int32), .unset] [])) _
            refine XS.iloadN X0.here hx rfl (hb hby d3_45) rfl ?_
            show Steps p.tables e below (s₁.setTop (mkF m 46 #[iv u0, iv (u0 ||| (32 : Int32)), iv (0 : Int32), iv (u0 - (48 : Int32)), iv (1 : Int32), .unset] [(.int u0)])) _
            refine XS.bipush X0.here hx rfl (hb hby d3_46) ?_
            exact k
          by_cases hc38 : u0 = (95 : Int32)
          · skip
            obtain ⟨fs, hr, hrun, hended, hW, hsame⟩ := X0.leave (v := some (.int (1 : Int32))) (fun h => by rw [Bd.returns] at h; cases h)
            refine ⟨_, _, S37 _ ?_, hrun, hended, _, _, rfl, ?_, ⟨_, rfl⟩, hW, hsame.mono (by decide) (by decide)⟩
            · skip
              show Steps p.tables e below (s₁.setTop (mkF m 48 #[iv u0, iv (u0 ||| (32 : Int32)), iv (0 : Int32), iv (u0 - (48 : Int32)), iv (1 : Int32), .unset] [(.int (95 : Int32)), (.int u0)])) _
              refine XS.icmpYes X0.here hx rfl (pc0 := 48) (pc' := 63) rfl (hb hby d3_48) rfl (teq hc38).1 (by decide) (by decide) ?_
              show Steps p.tables e below (s₁.setTop (mkF m 63 #[iv u0, iv (u0 ||| (32 : Int32)), iv (0 : Int32), iv (u0 - (48 : Int32)), iv (1 : Int32), .unset] [])) _
              refine XS.iconst X0.here hx rfl (hb hby d3_63) ?_
              show Steps p.tables e below (s₁.setTop (mkF m 64 #[iv u0, iv (u0 ||| (32 : Int32)), iv (0 : Int32), iv (u0 - (48 : Int32)), iv (1 : Int32), .unset] [(.int (1 : Int32))])) _
              refine XS.goto X0.here hx rfl (pc0 := 64) (pc' := 68) rfl (hb hby d3_64) (by decide) (by decide) ?_
              show Steps p.tables e below (s₁.setTop (mkF m 68 #[iv u0, iv (u0 ||| (32 : Int32)), iv (0 : Int32), iv (u0 - (48 : Int32)), iv (1 : Int32), .unset] [(.int (1 : Int32))])) _
              refine XS.istore X0.here hx rfl (hb hby d3_68) rfl (l' := #[iv u0, iv (u0 ||| (32 : Int32)), iv (0 : Int32), iv (u0 - (48 : Int32)), iv (1 : Int32), iv (1 : Int32)]) rfl ?_
              show Steps p.tables e below (s₁.setTop (mkF m 70 #[iv u0, iv (u0 ||| (32 : Int32)), iv (0 : Int32), iv (u0 - (48 : Int32)), iv (1 : Int32), iv (1 : Int32)] [])) _
              refine XS.iloadN X0.here hx rfl (hb hby d3_70) rfl ?_
              show Steps p.tables e below (s₁.setTop (mkF m 71 #[iv u0, iv (u0 ||| (32 : Int32)), iv (0 : Int32), iv (u0 - (48 : Int32)), iv (1 : Int32), iv (1 : Int32)] [(.int (0 : Int32))])) _
              refine XS.ifNo X0.here hx rfl (hb hby d3_71) rfl ((if0 _ _).trans (teq (by decide : (0 : Int32) = (0 : Int32))).2) ?_
              show Steps p.tables e below (s₁.setTop (mkF m 74 #[iv u0, iv (u0 ||| (32 : Int32)), iv (0 : Int32), iv (u0 - (48 : Int32)), iv (1 : Int32), iv (1 : Int32)] [])) _
              refine XS.iload X0.here hx rfl (hb hby d3_74) rfl ?_
              show Steps p.tables e below (s₁.setTop (mkF m 76 #[iv u0, iv (u0 ||| (32 : Int32)), iv (0 : Int32), iv (u0 - (48 : Int32)), iv (1 : Int32), iv (1 : Int32)] [(.int (1 : Int32))])) _
              refine XS.ifYes X0.here hx rfl (pc0 := 76) (pc' := 84) rfl (hb hby d3_76) rfl ((if0 _ _).trans (feq (by decide : ¬ ((1 : Int32) = (0 : Int32)))).2) (by decide) (by decide) ?_
              show Steps p.tables e below (s₁.setTop (mkF m 84 #[iv u0, iv (u0 ||| (32 : Int32)), iv (0 : Int32), iv (u0 - (48 : Int32)), iv (1 : Int32), iv (1 : Int32)] [])) _
              refine XS.iconst X0.here hx rfl (hb hby d3_84) ?_
              show Steps p.tables e below (s₁.setTop (mkF m 85 #[iv u0, iv (u0 ||| (32 : Int32)), iv (0 : Int32), iv (u0 - (48 : Int32)), iv (1 : Int32), iv (1 : Int32)] [(.int (1 : Int32))])) _
              refine XS.goto X0.here hx rfl (pc0 := 85) (pc' := 89) rfl (hb hby d3_85) (by decide) (by decide) ?_
              show Steps p.tables e below (s₁.setTop (mkF m 89 #[iv u0, iv (u0 ||| (32 : Int32)), iv (0 : Int32), iv (u0 - (48 : Int32)), iv (1 : Int32), iv (1 : Int32)] [(.int (1 : Int32))])) _
              exact retN X0 hx (t := .boolean) Bd.returns (by simp) (hb hby d3_89) hr
            · show Q3 Z u0 h0 n0 _ s₁.heap _
              rw [e0]
              exact ⟨(by unfold own_f3; rw [if_neg hc2, if_pos hc26, if_neg hc28, if_pos hc36, if_pos hc38]), N0, rfl⟩
          · skip
            have S39 : ∀ t, Steps p.tables e below (s₁.setTop (mkF m 54 #[iv u0, iv (u0 ||| (32 : Int32)), iv (0 : Int32), iv (u0 - (48 : Int32)), iv (1 : Int32), .unset] [(.int (36 : Int32)), (.int u0)])) t → Steps p.tables e below (s₁.setTop (entryFrame m #[(.int u0)] 6)) t := by
              intro t k
              refine S37 t ?_
              show Steps p.tables e below (s₁.setTop (mkF m 48 #[iv u0, iv (u0 ||| (32 : Int32)), iv (0 : Int32), iv (u0 - (48 : Int32)), iv (1 : Int32), .unset] [(.int (95 : Int32)), (.int u0)])) _
              refine XS.icmpNo X0.here hx rfl (hb hby d3_48) rfl (feq hc38).1 ?_
              show Steps p.tables e below (s₁.setTop (mkF m 51 #[iv u0, iv (u0 ||| (32 : Int32)), iv (0 : Int32), iv (u0 - (48 : Int32)), iv (1 : Int32), .unset] [])) _
              refine XS.iloadN X0.here hx rfl (hb hby d3_51) rfl ?_
              show Steps p.tables e below (s₁.setTop (mkF m 52 #[iv u0, iv (u0 ||| (32 : Int32)), iv (0 : Int32), iv (u0 - (48 : Int32)), iv (1 : Int32), .unset] [(.int u0)])) _
              refine XS.bipush X0.here hx rfl (hb hby d3_52) ?_
              exact k
            by_cases hc40 : u0 = (36 : Int32)
            · skip
              obtain ⟨fs, hr, hrun, hended, hW, hsame⟩ := X0.leave (v := some (.int (1 : Int32))) (fun h => by rw [Bd.returns] at h; cases h)
              refine ⟨_, _, S39 _ ?_, hrun, hended, _, _, rfl, ?_, ⟨_, rfl⟩, hW, hsame.mono (by decide) (by decide)⟩
              · skip
                show Steps p.tables e below (s₁.setTop (mkF m 54 #[iv u0, iv (u0 ||| (32 : Int32)), iv (0 : Int32), iv (u0 - (48 : Int32)), iv (1 : Int32), .unset] [(.int (36 : Int32)), (.int u0)])) _
                refine XS.icmpYes X0.here hx rfl (pc0 := 54) (pc' := 63) rfl (hb hby d3_54) rfl (teq hc40).1 (by decide) (by decide) ?_
                show Steps p.tables e below (s₁.setTop (mkF m 63 #[iv u0, iv (u0 ||| (32 : Int32)), iv (0 : Int32), iv (u0 - (48 : Int32)), iv (1 : Int32), .unset] [])) _
                refine XS.iconst X0.here hx rfl (hb hby d3_63) ?_
                show Steps p.tables e below (s₁.setTop (mkF m 64 #[iv u0, iv (u0 ||| (32 : Int32)), iv (0 : Int32), iv (u0 - (48 : Int32)), iv (1 : Int32), .unset] [(.int (1 : Int32))])) _
                refine XS.goto X0.here hx rfl (pc0 := 64) (pc' := 68) rfl (hb hby d3_64) (by decide) (by decide) ?_
                show Steps p.tables e below (s₁.setTop (mkF m 68 #[iv u0, iv (u0 ||| (32 : Int32)), iv (0 : Int32), iv (u0 - (48 : Int32)), iv (1 : Int32), .unset] [(.int (1 : Int32))])) _
                refine XS.istore X0.here hx rfl (hb hby d3_68) rfl (l' := #[iv u0, iv (u0 ||| (32 : Int32)), iv (0 : Int32), iv (u0 - (48 : Int32)), iv (1 : Int32), iv (1 : Int32)]) rfl ?_
                show Steps p.tables e below (s₁.setTop (mkF m 70 #[iv u0, iv (u0 ||| (32 : Int32)), iv (0 : Int32), iv (u0 - (48 : Int32)), iv (1 : Int32), iv (1 : Int32)] [])) _
                refine XS.iloadN X0.here hx rfl (hb hby d3_70) rfl ?_
                show Steps p.tables e below (s₁.setTop (mkF m 71 #[iv u0, iv (u0 ||| (32 : Int32)), iv (0 : Int32), iv (u0 - (48 : Int32)), iv (1 : Int32), iv (1 : Int32)] [(.int (0 : Int32))])) _
                refine XS.ifNo X0.here hx rfl (hb hby d3_71) rfl ((if0 _ _).trans (teq (by decide : (0 : Int32) = (0 : Int32))).2) ?_
                show Steps p.tables e below (s₁.setTop (mkF m 74 #[iv u0, iv (u0 ||| (32 : Int32)), iv (0 : Int32), iv (u0 - (48 : Int32)), iv (1 : Int32), iv (1 : Int32)] [])) _
                refine XS.iload X0.here hx rfl (hb hby d3_74) rfl ?_
                show Steps p.tables e below (s₁.setTop (mkF m 76 #[iv u0, iv (u0 ||| (32 : Int32)), iv (0 : Int32), iv (u0 - (48 : Int32)), iv (1 : Int32), iv (1 : Int32)] [(.int (1 : Int32))])) _
                refine XS.ifYes X0.here hx rfl (pc0 := 76) (pc' := 84) rfl (hb hby d3_76) rfl ((if0 _ _).trans (feq (by decide : ¬ ((1 : Int32) = (0 : Int32)))).2) (by decide) (by decide) ?_
                show Steps p.tables e below (s₁.setTop (mkF m 84 #[iv u0, iv (u0 ||| (32 : Int32)), iv (0 : Int32), iv (u0 - (48 : Int32)), iv (1 : Int32), iv (1 : Int32)] [])) _
                refine XS.iconst X0.here hx rfl (hb hby d3_84) ?_
                show Steps p.tables e below (s₁.setTop (mkF m 85 #[iv u0, iv (u0 ||| (32 : Int32)), iv (0 : Int32), iv (u0 - (48 : Int32)), iv (1 : Int32), iv (1 : Int32)] [(.int (1 : Int32))])) _
                refine XS.goto X0.here hx rfl (pc0 := 85) (pc' := 89) rfl (hb hby d3_85) (by decide) (by decide) ?_
                show Steps p.tables e below (s₁.setTop (mkF m 89 #[iv u0, iv (u0 ||| (32 : Int32)), iv (0 : Int32), iv (u0 - (48 : Int32)), iv (1 : Int32), iv (1 : Int32)] [(.int (1 : Int32))])) _
                exact retN X0 hx (t := .boolean) Bd.returns (by simp) (hb hby d3_89) hr
              · show Q3 Z u0 h0 n0 _ s₁.heap _
                rw [e0]
                exact ⟨(by unfold own_f3; rw [if_neg hc2, if_pos hc26, if_neg hc28, if_pos hc36, if_neg hc38, if_pos hc40]), N0, rfl⟩
            · skip
              have S41 : ∀ t, Steps p.tables e below (s₁.setTop (mkF m 60 #[iv u0, iv (u0 ||| (32 : Int32)), iv (0 : Int32), iv (u0 - (48 : Int32)), iv (1 : Int32), .unset] [(.int (35 : Int32)), (.int u0)])) t → Steps p.tables e below (s₁.setTop (entryFrame m #[(.int u0)] 6)) t := by
                intro t k
                refine S39 t ?_
                show Steps p.tables e below (s₁.setTop (mkF m 54 #[iv u0, iv (u0 ||| (32 : Int32)), iv (0 : Int32), iv (u0 - (48 : Int32)), iv (1 : Int32), .unset] [(.int (36 : Int32)), (.int u0)])) _
                refine XS.icmpNo X0.here hx rfl (hb hby d3_54) rfl (feq hc40).1 ?_
                show Steps p.tables e below (s₁.setTop (mkF m 57 #[iv u0, iv (u0 ||| (32 : Int32)), iv (0 : Int32), iv (u0 - (48 : Int32)), iv (1 : Int32), .unset] [])) _
                refine XS.iloadN X0.here hx rfl (hb hby d3_57) rfl ?_
                show Steps p.tables e below (s₁.setTop (mkF m 58 #[iv u0, iv (u0 ||| (32 : Int32)), iv (0 : Int32), iv (u0 - (48 : Int32)), iv (1 : Int32), .unset] [(.int u0)])) _
                refine XS.bipush X0.here hx rfl (hb hby d3_58) ?_
                exact k
              by_cases hc42 : u0 = (35 : Int32)
              · skip
                obtain ⟨fs, hr, hrun, hended, hW, hsame⟩ := X0.leave (v := some (.int (1 : Int32))) (fun h => by rw [Bd.returns] at h; cases h)
                refine ⟨_, _, S41 _ ?_, hrun, hended, _, _, rfl, ?_, ⟨_, rfl⟩, hW, hsame.mono (by decide) (by decide)⟩
                · skip
                  show Steps p.tables e below (s₁.setTop (mkF m 60 #[iv u0, iv (u0 ||| (32 : Int32)), iv (0 : Int32), iv (u0 - (48 : Int32)), iv (1 : Int32), .unset] [(.int (35 : Int32)), (.int u0)])) _
                  refine XS.icmpNo X0.here hx rfl (hb hby d3_60) rfl (teq hc42).2 ?_
                  show Steps p.tables e below (s₁.setTop (mkF m 63 #[iv u0, iv (u0 ||| (32 : Int32)), iv (0 : Int32), iv (u0 - (48 : Int32)), iv (1 : Int32), .unset] [])) _
                  refine XS.iconst X0.here hx rfl (hb hby d3_63) ?_
                  show Steps p.tables e below (s₁.setTop (mkF m 64 #[iv u0, iv (u0 ||| (32 : Int32)), iv (0 : Int32), iv (u0 - (48 : Int32)), iv (1 : Int32), .unset] [(.int (1 : Int32))])) _
                  refine XS.goto X0.here hx rfl (pc0 := 64) (pc' := 68) rfl (hb hby d3_64) (by decide) (by decide) ?_
                  show Steps p.tables e below (s₁.setTop (mkF m 68 #[iv u0, iv (u0 ||| (32 : Int32)), iv (0 : Int32), iv (u0 - (48 : Int32)), iv (1 : Int32), .unset] [(.int (1 : Int32))])) _
                  refine XS.istore X0.here hx rfl (hb hby d3_68) rfl (l' := #[iv u0, iv (u0 ||| (32 : Int32)), iv (0 : Int32), iv (u0 - (48 : Int32)), iv (1 : Int32), iv (1 : Int32)]) rfl ?_
                  show Steps p.tables e below (s₁.setTop (mkF m 70 #[iv u0, iv (u0 ||| (32 : Int32)), iv (0 : Int32), iv (u0 - (48 : Int32)), iv (1 : Int32), iv (1 : Int32)] [])) _
                  refine XS.iloadN X0.here hx rfl (hb hby d3_70) rfl ?_
                  show Steps p.tables e below (s₁.setTop (mkF m 71 #[iv u0, iv (u0 ||| (32 : Int32)), iv (0 : Int32), iv (u0 - (48 : Int32)), iv (1 : Int32), iv (1 : Int32)] [(.int (0 : Int32))])) _
                  refine XS.ifNo X0.here hx rfl (hb hby d3_71) rfl ((if0 _ _).trans (teq (by decide : (0 : Int32) = (0 : Int32))).2) ?_
                  show Steps p.tables e below (s₁.setTop (mkF m 74 #[iv u0, iv (u0 ||| (32 : Int32)), iv (0 : Int32), iv (u0 - (48 : Int32)), iv (1 : Int32), iv (1 : Int32)] [])) _
                  refine XS.iload X0.here hx rfl (hb hby d3_74) rfl ?_
                  show Steps p.tables e below (s₁.setTop (mkF m 76 #[iv u0, iv (u0 ||| (32 : Int32)), iv (0 : Int32), iv (u0 - (48 : Int32)), iv (1 : Int32), iv (1 : Int32)] [(.int (1 : Int32))])) _
                  refine XS.ifYes X0.here hx rfl (pc0 := 76) (pc' := 84) rfl (hb hby d3_76) rfl ((if0 _ _).trans (feq (by decide : ¬ ((1 : Int32) = (0 : Int32)))).2) (by decide) (by decide) ?_
                  show Steps p.tables e below (s₁.setTop (mkF m 84 #[iv u0, iv (u0 ||| (32 : Int32)), iv (0 : Int32), iv (u0 - (48 : Int32)), iv (1 : Int32), iv (1 : Int32)] [])) _
                  refine XS.iconst X0.here hx rfl (hb hby d3_84) ?_
                  show Steps p.tables e below (s₁.setTop (mkF m 85 #[iv u0, iv (u0 ||| (32 : Int32)), iv (0 : Int32), iv (u0 - (48 : Int32)), iv (1 : Int32), iv (1 : Int32)] [(.int (1 : Int32))])) _
                  refine XS.goto X0.here hx rfl (pc0 := 85) (pc' := 89) rfl (hb hby d3_85) (by decide) (by decide) ?_
                  show Steps p.tables e below (s₁.setTop (mkF m 89 #[iv u0, iv (u0 ||| (32 : Int32)), iv (0 : Int32), iv (u0 - (48 : Int32)), iv (1 : Int32), iv (1 : Int32)] [(.int (1 : Int32))])) _
                  exact retN X0 hx (t := .boolean) Bd.returns (by simp) (hb hby d3_89) hr
                · show Q3 Z u0 h0 n0 _ s₁.heap _
                  rw [e0]
                  exact ⟨(by unfold own_f3; rw [if_neg hc2, if_pos hc26, if_neg hc28, if_pos hc36, if_neg hc38, if_neg hc40, if_pos hc42]), N0, rfl⟩
              · skip
                obtain ⟨fs, hr, hrun, hended, hW, hsame⟩ := X0.leave (v := some (.int (1 : Int32))) (fun h => by rw [Bd.returns] at h; cases h)
                refine ⟨_, _, S41 _ ?_, hrun, hended, _, _, rfl, ?_, ⟨_, rfl⟩, hW, hsame.mono (by decide) (by decide)⟩
                · skip
                  show Steps p.tables e below (s₁.setTop (mkF m 60 #[iv u0, iv (u0 ||| (32 : Int32)), iv (0 : Int32), iv (u0 - (48 : Int32)), iv (1 : Int32), .unset] [(.int (35 : Int32)), (.int u0)])) _
                  refine XS.icmpYes X0.here hx rfl (pc0 := 60) (pc' := 67) rfl (hb hby d3_60) rfl (feq hc42).2 (by decide) (by decide) ?_
                  show Steps p.tables e below (s₁.setTop (mkF m 67 #[iv u0, iv (u0 ||| (32 : Int32)), iv (0 : Int32), iv (u0 - (48 : Int32)), iv (1 : Int32), .unset] [])) _
                  refine XS.iconst X0.here hx rfl (hb hby d3_67) ?_
                  show Steps p.tables e below (s₁.setTop (mkF m 68 #[iv u0, iv (u0 ||| (32 : Int32)), iv (0 : Int32), iv (u0 - (48 : Int32)), iv (1 : Int32), .unset] [(.int (0 : Int32))])) _
                  refine XS.istore X0.here hx rfl (hb hby d3_68) rfl (l' := #[iv u0, iv (u0 ||| (32 : Int32)), iv (0 : Int32), iv (u0 - (48 : Int32)), iv (1 : Int32), iv (0 : Int32)]) rfl ?_
                  show Steps p.tables e below (s₁.setTop (mkF m 70 #[iv u0, iv (u0 ||| (32 : Int32)), iv (0 : Int32), iv (u0 - (48 : Int32)), iv (1 : Int32), iv (0 : Int32)] [])) _
                  refine XS.iloadN X0.here hx rfl (hb hby d3_70) rfl ?_
                  show Steps p.tables e below (s₁.setTop (mkF m 71 #[iv u0, iv (u0 ||| (32 : Int32)), iv (0 : Int32), iv (u0 - (48 : Int32)), iv (1 : Int32), iv (0 : Int32)] [(.int (0 : Int32))])) _
                  refine XS.ifNo X0.here hx rfl (hb hby d3_71) rfl ((if0 _ _).trans (teq (by decide : (0 : Int32) = (0 : Int32))).2) ?_
                  show Steps p.tables e below (s₁.setTop (mkF m 74 #[iv u0, iv (u0 ||| (32 : Int32)), iv (0 : Int32), iv (u0 - (48 : Int32)), iv (1 : Int32), iv (0 : Int32)] [])) _
                  refine XS.iload X0.here hx rfl (hb hby d3_74) rfl ?_
                  show Steps p.tables e below (s₁.setTop (mkF m 76 #[iv u0, iv (u0 ||| (32 : Int32)), iv (0 : Int32), iv (u0 - (48 : Int32)), iv (1 : Int32), iv (0 : Int32)] [(.int (1 : Int32))])) _
                  refine XS.ifYes X0.here hx rfl (pc0 := 76) (pc' := 84) rfl (hb hby d3_76) rfl ((if0 _ _).trans (feq (by decide : ¬ ((1 : Int32) = (0 : Int32)))).2) (by decide) (by decide) ?_
                  show Steps p.tables e below (s₁.setTop (mkF m 84 #[iv u0, iv (u0 ||| (32 : Int32)), iv (0 : Int32), iv (u0 - (48 : Int32)), iv (1 : Int32), iv (0 : Int32)] [])) _
                  refine XS.iconst X0.here hx rfl (hb hby d3_84) ?_
                  show Steps p.tables e below (s₁.setTop (mkF m 85 #[iv u0, iv (u0 ||| (32 : Int32)), iv (0 : Int32), iv (u0 - (48 : Int32)), iv (1 : Int32), iv (0 : Int32)] [(.int (1 : Int32))])) _
                  refine XS.goto X0.here hx rfl (pc0 := 85) (pc' := 89) rfl (hb hby d3_85) (by decide) (by decide) ?_
                  show Steps p.tables e below (s₁.setTop (mkF m 89 #[iv u0, iv (u0 ||| (32 : Int32)), iv (0 : Int32), iv (u0 - (48 : Int32)), iv (1 : Int32), iv (0 : Int32)] [(.int (1 : Int32))])) _
                  exact retN X0 hx (t := .boolean) Bd.returns (by simp) (hb hby d3_89) hr
                · show Q3 Z u0 h0 n0 _ s₁.heap _
                  rw [e0]
                  exact ⟨(by unfold own_f3; rw [if_neg hc2, if_pos hc26, if_neg hc28, if_pos hc36, if_neg hc38, if_neg hc40, if_neg hc42]), N0, rfl⟩
        · skip
          have S43 : ∀ t, Steps p.tables e below (s₁.setTop (mkF m 48 #[iv u0, iv (u0 ||| (32 : Int32)), iv (0 : Int32), iv (u0 - (48 : Int32)), iv (0 : Int32), .unset] [(.int (95 : Int32)), (.int u0)])) t → Steps p.tables e below (s₁.setTop (entryFrame m #[(.int u0)] 6)) t := by
            intro t k
            refine S35 t ?_
            show Steps p.tables e below (s₁.setTop (mkF m 35 #[iv u0, iv (u0 ||| (32 : Int32)), iv (0 : Int32), iv (u0 - (48 : Int32)), .unset, .unset] [(.int (10 : Int32)), (.int (u0 - (48 : Int32)))])) _
            refine XS.icmpYes X0.here hx rfl (pc0 := 35) (pc' := 42) rfl (hb hby d3_35) rfl (flt hc36).2.1 (by decide) (by decide) ?_
            show Steps p.tables e below (s₁.setTop (mkF m 42 #[iv u0, iv (u0 ||| (32 : Int32)), iv (0 : Int32), iv (u0 - (48 : Int32)), .unset, .unset] [])) _
            refine XS.iconst X0.here hx rfl (hb hby d3_42) ?_
            show Steps p.tables e below (s₁.setTop (mkF m 43 #[iv u0, iv (u0 ||| (32 : Int32)), iv (0 : Int32), iv (u0 - (48 : Int32)), .unset, .unset] [(.int (0 : Int32))])) _
            refine XS.istore X0.here hx rfl (hb hby d3_43) rfl (l' := #[iv u0, iv (u0 ||| (32 : Int32)), iv (0 : Int32), iv (u0 - (48 : Int32)), iv (0 : Int32), .unset]) rfl ?_
            show Steps p.tables e below (s₁.setTop (mkF m 45 #[iv u0, iv (u0 ||| (32 : Int32)), iv (0 : Int32), iv (u0 - (48 : Int32)), iv (0 : Int32), .unset] [])) _
            refine XS.iloadN X0.here hx rfl (hb hby d3_45) rfl ?_
            show Steps p.tables e below (s₁.setTop (mkF m 46 #[iv u0, iv (u0 ||| (32 : Int32)), iv (0 : Int32), iv (u0 - (48 : Int32)), iv (0 : Int32), .unset] [(.int u0)])) _
            refine XS.bipush X0.here hx rfl (hb hby d3_46) ?_
            exact k
          by_cases hc44 : u0 = (95 : Int32)
          · skip
            obtain ⟨fs, hr, hrun, hended, hW, hsame⟩ := X0.leave (v := some (.int (1 : Int32))) (fun h => by rw [Bd.returns] at h; cases h)
            refine ⟨_, _, S43 _ ?_, hrun, hended, _, _, rfl, ?_, ⟨_, rfl⟩, hW, hsame.mono (by decide) (by decide)⟩
            · skip
              show Steps p.tables e below (s₁.setTop (mkF m 48 #[iv u0, iv (u0 ||| (32 : Int32)), iv (0 : Int32), iv (u0 - (48 : Int32)), iv (0 : Int32), .unset] [(.int (95 : Int32)), (.int u0)])) _
              refine XS.icmpYes X0.here hx rfl (pc0 := 48) (pc' := 63) rfl (hb hby d3_48) rfl (teq hc44).1 (by decide) (by decide) ?_
              show Steps p.tables e below (s₁.setTop (mkF m 63 #[iv u0, iv (u0 ||| (32 : Int32)), iv (0 : Int32), iv (u0 - (48 : Int32)), iv (0 : Int32), .unset] [])) _
              refine XS.iconst X0.here hx rfl (hb hby d3_63) ?_
              show Steps p.tables e below (s₁.setTop (mkF m 64 #[iv u0, iv (u0 ||| (32 : Int32)), iv (0 : Int32), iv (u0 - (48 : Int32)), iv (0 : Int32), .unset] [(.int (1 : Int32))])) _
              refine XS.goto X0.here hx rfl (pc0 := 64) (pc' := 68) rfl (hb hby d3_64) (by decide) (by decide) ?_
              show Steps p.tables e below (s₁.setTop (mkF m 68 #[iv u0, iv (u0 ||| (32 : Int32)), iv (0 : Int32), iv (u0 - (48 : Int32)), iv (0 : Int32), .unset] [(.int (1 : Int32))])) _
              refine XS.istore X0.here hx rfl (hb hby d3_68) rfl (l' := #[iv u0, iv (u0 ||| (32 : Int32)), iv (0 : Int32), iv (u0 - (48 : Int32)), iv (0 : Int32), iv (1 : Int32)]) rfl ?_
              show Steps p.tables e below (s₁.setTop (mkF m 70 #[iv u0, iv (u0 ||| (32 : Int32)), iv (0 : Int32), iv (u0 - (48 : Int32)), iv (0 : Int32), iv (1 : Int32)] [])) _
              refine XS.iloadN X0.here hx rfl (hb hby d3_70) rfl ?_
              show Steps p.tables e below (s₁.setTop (mkF m 71 #[iv u0, iv (u0 ||| (32 : Int32)), iv (0 : Int32), iv (u0 - (48 : Int32)), iv (0 : Int32), iv (1 : Int32)] [(.int (0 : Int32))])) _
              refine XS.ifNo X0.here hx rfl (hb hby d3_71) rfl ((if0 _ _).trans (teq (by decide : (0 : Int32) = (0 : Int32))).2) ?_
              show Steps p.tables e below (s₁.setTop (mkF m 74 #[iv u0, iv (u0 ||| (32 : Int32)), iv (0 : Int32), iv (u0 - (48 : Int32)), iv (0 : Int32), iv (1 : Int32)] [])) _
              refine XS.iload X0.here hx rfl (hb hby d3_74) rfl ?_
              show Steps p.tables e below (s₁.setTop (mkF m 76 #[iv u0, iv (u0 ||| (32 : Int32)), iv (0 : Int32), iv (u0 - (48 : Int32)), iv (0 : Int32), iv (1 : Int32)] [(.int (0 : Int32))])) _
              refine XS.ifNo X0.here hx rfl (hb hby d3_76) rfl ((if0 _ _).trans (teq (by decide : (0 : Int32) = (0 : Int32))).2) ?_
              show Steps p.tables e below (s₁.setTop (mkF m 79 #[iv u0, iv (u0 ||| (32 : Int32)), iv (0 : Int32), iv (u0 - (48 : Int32)), iv (0 : Int32), iv (1 : Int32)] [])) _
              refine XS.iload X0.here hx rfl (hb hby d3_79) rfl ?_
              show Steps p.tables e below (s₁.setTop (mkF m 81 #[iv u0, iv (u0 ||| (32 : Int32)), iv (0 : Int32), iv (u0 - (48 : Int32)), iv (0 : Int32), iv (1 : Int32)] [(.int (1 : Int32))])) _
              refine XS.ifNo X0.here hx rfl (hb hby d3_81) rfl ((if0 _ _).trans (feq (by decide : ¬ ((1 : Int32) = (0 : Int32)))).1) ?_
              show Steps p.tables e below (s₁.setTop (mkF m 84 #[iv u0, iv (u0 ||| (32 : Int32)), iv (0 : Int32), iv (u0 - (48 : Int32)), iv (0 : Int32), iv (1 : Int32)] [])) _
              refine XS.iconst X0.here hx rfl (hb hby d3_84) ?_
              show Steps p.tables e below (s₁.setTop (mkF m 85 #[iv u0, iv (u0 ||| (32 : Int32)), iv (0 : Int32), iv (u0 - (48 : Int32)), iv (0 : Int32), iv (1 : Int32)] [(.int (1 : Int32))])) _
              refine XS.goto X0.here hx rfl (pc0 := 85) (pc' := 89) rfl (hb hby d3_85) (by decide) (by decide) ?_
              show Steps p.tables e below (s₁.setTop (mkF m 89 #[iv u0, iv (u0 ||| (32 : Int32)), iv (0 : Int32), iv (u0 - (48 : Int32)), iv (0 : Int32), iv (1 : Int32)] [(.int (1 : Int32))])) _
              exact retN X0 hx (t := .boolean) Bd.returns (by simp) (hb hby d3_89) hr
            · show Q3 Z u0 h0 n0 _ s₁.heap _
              rw [e0]
              exact ⟨(by unfold own_f3; rw [if_neg hc2, if_pos hc26, if_neg hc28, if_neg hc36, if_pos hc44]), N0, rfl⟩
          · skip
            have S45 : ∀ t, Steps p.tables e below (s₁.setTop (mkF m 54 #[iv u0, iv (u0 ||| (32 : Int32)), iv (0 : Int32), iv (u0 - (48 : Int32)), iv (0 : Int32), .unset] [(.int (36 : Int32)), (.int u0)])) t → Steps p.tables e below (s₁.setTop (entryFrame m #[(.int u0)] 6)) t := by
              intro t k
              refine S43 t ?_
              show Steps p.tables e below (s₁.setTop (mkF m 48 #[iv u0, iv (u0 ||| (32 : Int32)), iv (0 : Int32), iv (u0 - (48 : Int32)), iv (0 : Int32), .unset] [(.int (95 : Int32)), (.int u0)])) _
              refine XS.icmpNo X0.here hx rfl (hb hby d3_48) rfl (feq hc44).1 ?_
              show Steps p.tables e below (s₁.setTop (mkF m 51 #[iv u0, iv (u0 ||| (32 : Int32)), iv (0 : Int32), iv (u0 - (48 : Int32)), iv (0 : Int32), .unset] [])) _
              refine XS.iloadN X0.here hx rfl (hb hby d3_51) rfl ?_
              show Steps p.tables e below (s₁.setTop (mkF m 52 #[iv u0, iv (u0 ||| (32 : Int32)), iv (0 : Int32), iv (u0 - (48 : Int32)), iv (0 : Int32), .unset] [(.int u0)])) _
              refine XS.bipush X0.here hx rfl (hb hby d3_52) ?_
              exact k
            by_cases hc46 : u0 = (36 : Int32)
            · skip
              obtain ⟨fs, hr, hrun, hended, hW, hsame⟩ := X0.leave (v := some (.int (1 : Int32))) (fun h => by rw [Bd.returns] at h; cases h)
              refine ⟨_, _, S45 _ ?_, hrun, hended, _, _, rfl, ?_, ⟨_, rfl⟩, hW, hsame.mono (by decide) (by decide)⟩
              · skip
                show Steps p.tables e below (s₁.setTop (mkF m 54 #[iv u0, iv (u0 ||| (32 : Int32)), iv (0 : Int32), iv (u0 - (48 : Int32)), iv (0 : Int32), .unset] [(.int (36 : Int32)), (.int u0)])) _
                refine XS.icmpYes X0.here hx rfl (pc0 := 54) (pc' := 63) rfl (hb hby d3_54) rfl (teq hc46).1 (by decide) (by decide) ?_
                show Steps p.tables e below (s₁.setTop (mkF m 63 #[iv u0, iv (u0 ||| (32 : Int32)), iv (0 : Int32), iv (u0 - (48 : Int32)), iv (0 : Int32), .unset] [])) _
                refine XS.iconst X0.here hx rfl (hb hby d3_63) ?_
                show Steps p.tables e below (s₁.setTop (mkF m 64 #[iv u0, iv (u0 ||| (32 : Int32)), iv (0 : Int32), iv (u0 - (48 : Int32)), iv (0 : Int32), .unset] [(.int (1 : Int32))])) _
                refine XS.goto X0.here hx rfl (pc0 := 64) (pc' := 68) rfl (hb hby d3_64) (by decide) (by decide) ?_
                show Steps p.tables e below (s₁.setTop (mkF m 68 #[iv u0, iv (u0 ||| (32 : Int32)), iv (0 : Int32), iv (u0 - (48 : Int32)), iv (0 : Int32), .unset] [(.int (1 : Int32))])) _
                refine XS.istore X0.here hx rfl (hb hby d3_68) rfl (l' := #[iv u0, iv (u0 ||| (32 : Int32)), iv (0 : Int32), iv (u0 - (48 : Int32)), iv (0 : Int32), iv (1 : Int32)]) rfl ?_
                show Steps p.tables e below (s₁.setTop (mkF m 70 #[iv u0, iv (u0 ||| (32 : Int32)), iv (0 : Int32), iv (u0 - (48 : Int32)), iv (0 : Int32), iv (1 : Int32)] [])) _
                refine XS.iloadN X0.here hx rfl (hb hby d3_70) rfl ?_
                show Steps p.tables e below (s₁.setTop (mkF m 71 #[iv u0, iv (u0 ||| (32 : Int32)), iv (0 : Int32), iv (u0 - (48 : Int32)), iv (0 : Int32), iv (1 : Int32)] [(.int (0 : Int32))])) _
                refine XS.ifNo X0.here hx rfl (hb hby d3_71) rfl ((if0 _ _).trans (teq (by decide : (0 : Int32) = (0 : Int32))).2) ?_
                show Steps p.tables e below (s₁.setTop (mkF m 74 #[iv u0, iv (u0 ||| (32 : Int32)), iv (0 : Int32), iv (u0 - (48 : Int32)), iv (0 : Int32), iv (1 : Int32)] [])) _
                refine XS.iload X0.here hx rfl (hb hby d3_74) rfl ?_
                show Steps p.tables e below (s₁.setTop (mkF m 76 #[iv u0, iv (u0 ||| (32 : Int32)), iv (0 : Int32), iv (u0 - (48 : Int32)), iv (0 : Int32), iv (1 : Int32)] [(.int (0 : Int32))])) _
                refine XS.ifNo X0.here hx rfl (hb hby d3_76) rfl ((if0 _ _).trans (teq (by decide : (0 : Int32) = (0 : Int32))).2) ?_
                show Steps p.tables e below (s₁.setTop (mkF m 79 #[iv u0, iv (u0 ||| (32 : Int32)), iv (0 : Int32), iv (u0 - (48 : Int32)), iv (0 : Int32), iv (1 : Int32)] [])) _
                refine XS.iload X0.here hx rfl (hb hby d3_79) rfl ?_
                show Steps p.tables e below (s₁.setTop (mkF m 81 #[iv u0, iv (u0 ||| (32 : Int32)), iv (0 : Int32), iv (u0 - (48 : Int32)), iv (0 : Int32), iv (1 : Int32)] [(.int (1 : Int32))])) _
                refine XS.ifNo X0.here hx rfl (hb hby d3_81) rfl ((if0 _ _).trans (feq (by decide : ¬ ((1 : Int32) = (0 : Int32)))).1) ?_
                show Steps p.tables e below (s₁.setTop (mkF m 84 #[iv u0, iv (u0 ||| (32 : Int32)), iv (0 : Int32), iv (u0 - (48 : Int32)), iv (0 : Int32), iv (1 : Int32)] [])) _
                refine XS.iconst X0.here hx rfl (hb hby d3_84) ?_
                show Steps p.tables e below (s₁.setTop (mkF m 85 #[iv u0, iv (u0 ||| (32 : Int32)), iv (0 : Int32), iv (u0 - (48 : Int32)), iv (0 : Int32), iv (1 : Int32)] [(.int (1 : Int32))])) _
                refine XS.goto X0.here hx rfl (pc0 := 85) (pc' := 89) rfl (hb hby d3_85) (by decide) (by decide) ?_
                show Steps p.tables e below (s₁.setTop (mkF m 89 #[iv u0, iv (u0 ||| (32 : Int32)), iv (0 : Int32), iv (u0 - (48 : Int32)), iv (0 : Int32), iv (1 : Int32)] [(.int (1 : Int32))])) _
                exact retN X0 hx (t := .boolean) Bd.returns (by simp) (hb hby d3_89) hr
              · show Q3 Z u0 h0 n0 _ s₁.heap _
                rw [e0]
                exact ⟨(by unfold own_f3; rw [if_neg hc2, if_pos hc26, if_neg hc28, if_neg hc36, if_neg hc44, if_pos hc46]), N0, rfl⟩
            · skip
              have S47 : ∀ t, Steps p.tables e below (s₁.setTop (mkF m 60 #[iv u0, iv (u0 ||| (32 : Int32)), iv (0 : Int32), iv (u0 - (48 : Int32)), iv (0 : Int32), .unset] [(.int (35 : Int32)), (.int u0)])) t → Steps p.tables e below (s₁.setTop (entryFrame m #[(.int u0)] 6)) t := by
                intro t k
                refine S45 t ?_
                show Steps p.tables e below (s₁.setTop (mkF m 54 #[iv u0, iv (u0 ||| (32 : Int32)), iv (0 : Int32), iv (u0 - (48 : Int32)), iv (0 : Int32), .unset] [(.int (36 : Int32)), (.int u0)])) _
                refine XS.icmpNo X0.here hx rfl (hb hby d3_54) rfl (feq hc46).1 ?_
                show Steps p.tables e below (s₁.setTop (mkF m 57 #[iv u0, iv (u0 ||| (32 : Int32)), iv (0 : Int32), iv (u0 - (48 : Int32)), iv (0 : Int32), .unset] [])) _
                refine XS.iloadN X0.here hx rfl (hb hby d3_57) rfl ?_
                show Steps p.tables e below (s₁.setTop (mkF m 58 #[iv u0, iv (u0 ||| (32 : Int32)), iv (0 : Int32), iv (u0 - (48 : Int32)), iv (0 : Int32), .unset] [(.int u0)])) _
                refine XS.bipush X0.here hx rfl (hb hby d3_58) ?_
                exact k
              by_cases hc48 : u0 = (35 : Int32)
              · skip
                obtain ⟨fs, hr, hrun, hended, hW, hsame⟩ := X0.leave (v := some (.int (1 : Int32))) (fun h => by rw [Bd.returns] at h; cases h)
                refine ⟨_, _, S47 _ ?_, hrun, hended, _, _, rfl, ?_, ⟨_, rfl⟩, hW, hsame.mono (by decide) (by decide)⟩
                · skip
                  show Steps p.tables e below (s₁.setTop (mkF m 60 #[iv u0, iv (u0 ||| (32 : Int32)), iv (0 : Int32), iv (u0 - (48 : Int32)), iv (0 : Int32), .unset] [(.int (35 : Int32)), (.int u0)])) _
                  refine XS.icmpNo X0.here hx rfl (hb hby d3_60) rfl (teq hc48).2 ?_
                  show Steps p.tables e below (s₁.setTop (mkF m 63 #[iv u0, iv (u0 ||| (32 : Int32)), iv (0 : Int32), iv (u0 - (48 : Int32)), iv (0 : Int32), .unset] [])) _
                  refine XS.iconst X0.here hx rfl (hb hby d3_63) ?_
                  show Steps p.tables e below (s₁.setTop (mkF m 64 #[iv u0, iv (u0 ||| (32 : Int32)), iv (0 : Int32), iv (u0 - (48 : Int32)), iv (0 : Int32), .unset] [(.int (1 : Int32))])) _
                  refine XS.goto X0.here hx rfl (pc0 := 64) (pc' := 68) rfl (hb hby d3_64) (by decide) (by decide) ?_
                  show Steps p.tables e below (s₁.setTop (mkF m 68 #[iv u0, iv (u0 ||| (32 : Int32)), iv (0 : Int32), iv (u0 - (48 : Int32)), iv (0 : Int32), .unset] [(.int (1 : Int32))])) _
                  refine XS.istore X0.here hx rfl (hb hby d3_68) rfl (l' := #[iv u0, iv (u0 ||| (32 : Int32)), iv (0 : Int32), iv (u0 - (48 : Int32)), iv (0 : Int32), iv (1 : Int32)]) rfl ?_
                  show Steps p.tables e below (s₁.setTop (mkF m 70 #[iv u0, iv (u0 ||| (32 : Int32)), iv (0 : Int32), iv (u0 - (48 : Int32)), iv (0 : Int32), iv (1 : Int32)] [])) _
                  refine XS.iloadN X0.here hx rfl (hb hby d3_70) rfl ?_
                  show Steps p.tables e below (s₁.setTop (mkF m 71 #[iv u0, iv (u0 ||| (32 : Int32)), iv (0 : Int32), iv (u0 - (48 : Int32)), iv (0 : Int32), iv (1 : Int32)] [(.int (0 : Int32))])) _
                  refine XS.ifNo X0.here hx rfl (hb hby d3_71) rfl ((if0 _ _).trans (teq (by decide : (0 : Int32) = (0 : Int32))).2) ?_
                  show Steps p.tables e below (s₁.setTop (mkF m 74 #[iv u0, iv (u0 ||| (32 : Int32)), iv (0 : Int32), iv (u0 - (48 : Int32)), iv (0 : Int32), iv (1 : Int32)] [])) _
                  refine XS.iload X0.here hx rfl (hb hby d3_74) rfl ?_
                  show Steps p.tables e below (s₁.setTop (mkF m 76 #[iv u0, iv (u0 ||| (32 : Int32)), iv (0 : Int32), iv (u0 - (48 : Int32)), iv (0 : Int32), iv (1 : Int32)] [(.int (0 : Int32))])) _
                  refine XS.ifNo X0.here hx rfl (hb hby d3_76) rfl ((if0 _ _).trans (teq (by decide : (0 : Int32) = (0 : Int32))).2) ?_
                  show Steps p.tables e below (s₁.setTop (mkF m 79 #[iv u0, iv (u0 ||| (32 : Int32)), iv (0 : Int32), iv (u0 - (48 : Int32)), iv (0 : Int32), iv (1 : Int32)] [])) _
                  refine XS.iload X0.here hx rfl (hb hby d3_79) rfl ?_
                  show Steps p.tables e below (s₁.setTop (mkF m 81 #[iv u0, iv (u0 ||| (32 : Int32)), iv (0 : Int32), iv (u0 - (48 : Int32)), iv (0 : Int32), iv (1 : Int32)] [(.int (1 : Int32))])) _
                  refine XS.ifNo X0.here hx rfl (hb hby d3_81) rfl ((if0 _ _).trans (feq (by decide : ¬ ((1 : Int32) = (0 : Int32)))).1) ?_
                  show Steps p.tables e below (s₁.setTop (mkF m 84 #[iv u0, iv (u0 ||| (32 : Int32)), iv (0 : Int32), iv (u0 - (48 : Int32)), iv (0 : Int32), iv (1 : Int32)] [])) _
                  refine XS.iconst X0.here hx rfl (hb hby d3_84) ?_
                  show Steps p.tables e below (s₁.setTop (mkF m 85 #[iv u0, iv (u0 ||| (32 : Int32)), iv (0 : Int32), iv (u0 - (48 : Int32)), iv (0 : Int32), iv (1 : Int32)] [(.int (1 : Int32))])) _
                  refine XS.goto X0.here hx rfl (pc0 := 85) (pc' := 89) rfl (hb hby d3_85) (by decide) (by decide) ?_
                  show Steps p.tables e below (s₁.setTop (mkF m 89 #[iv u0, iv (u0 ||| (32 : Int32)), iv (0 : Int32), iv (u0 - (48 : Int32)), iv (0 : Int32), iv (1 : Int32)] [(.int (1 : Int32))])) _
                  exact retN X0 hx (t := .boolean) Bd.returns (by simp) (hb hby d3_89) hr
                · show Q3 Z u0 h0 n0 _ s₁.heap _
                  rw [e0]
                  exact ⟨(by unfold own_f3; rw [if_neg hc2, if_pos hc26, if_neg hc28, if_neg hc36, if_neg hc44, if_neg hc46, if_pos hc48]), N0, rfl⟩
              · skip
                obtain ⟨fs, hr, hrun, hended, hW, hsame⟩ := X0.leave (v := some (.int (0 : Int32))) (fun h => by rw [Bd.returns] at h; cases h)
                refine ⟨_, _, S47 _ ?_, hrun, hended, _, _, rfl, ?_, ⟨_, rfl⟩, hW, hsame.mono (by decide) (by decide)⟩
                · skip
                  show Steps p.tables e below (s₁.setTop (mkF m 60 #[iv u0, iv (u0 ||| (32 : Int32)), iv (0 : Int32), iv (u0 - (48 : Int32)), iv (0 : Int32), .unset] [(.int (35 : Int32)), (.int u0)])) _
                  refine XS.icmpYes X0.here hx rfl (pc0 := 60) (pc' := 67) rfl (hb hby d3_60) rfl (feq hc48).2 (by decide) (by decide) ?_
                  show Steps p.tables e below (s₁.setTop (mkF m 67 #[iv u0, iv (u0 ||| (32 : Int32)), iv (0 : Int32), iv (u0 - (48 : Int32)), iv (0 : Int32), .unset] [])) _
                  refine XS.iconst X0.here hx rfl (hb hby d3_67) ?_
                  show Steps p.tables e below (s₁.setTop (mkF m 68 #[iv u0, iv (u0 ||| (32 : Int32)), iv (0 : Int32), iv (u0 - (48 : Int32)), iv (0 : Int32), .unset] [(.int (0 : Int32))])) _
                  refine XS.istore X0.here hx rfl (hb hby d3_68) rfl (l' := #[iv u0, iv (u0 ||| (32 : Int32)), iv (0 : Int32), iv (u0 - (48 : Int32)), iv (0 : Int32), iv (0 : Int32)]) rfl ?_
                  show Steps p.tables e below (s₁.setTop (mkF m 70 #[iv u0, iv (u0 ||| (32 : Int32)), iv (0 : Int32), iv (u0 - (48 : Int32)), iv (0 : Int32), iv (0 : Int32)] [])) _
                  refine XS.iloadN X0.here hx rfl (hb hby d3_70) rfl ?_
                  show Steps p.tables e below (s₁.setTop (mkF m 71 #[iv u0, iv (u0 ||| (32 : Int32)), iv (0 : Int32), iv (u0 - (48 : Int32)), iv (0 : Int32), iv (0 : Int32)] [(.int (0 : Int32))])) _
                  refine XS.ifNo X0.here hx rfl (hb hby d3_71) rfl ((if0 _ _).trans (teq (by decide : (0 : Int32) = (0 : Int32))).2) ?_
                  show Steps p.tables e below (s₁.setTop (mkF m 74 #[iv u0, iv (u0 ||| (32 : Int32)), iv (0 : Int32), iv (u0 - (48 : Int32)), iv (0 : Int32), iv (0 : Int32)] [])) _
                  refine XS.iload X0.here hx rfl (hb hby d3_74) rfl ?_
                  show Steps p.tables e below (s₁.setTop (mkF m 76 #[iv u0, iv (u0 ||| (32 : Int32)), iv (0 : Int32), iv (u0 - (48 : Int32)), iv (0 : Int32), iv (0 : Int32)] [(.int (0 : Int32))])) _
                  refine XS.ifNo X0.here hx rfl (hb hby d3_76) rfl ((if0 _ _).trans (teq (by decide : (0 : Int32) = (0 : Int32))).2) ?_
                  show Steps p.tables e below (s₁.setTop (mkF m 79 #[iv u0, iv (u0 ||| (32 : Int32)), iv (0 : Int32), iv (u0 - (48 : Int32)), iv (0 : Int32), iv (0 : Int32)] [])) _
                  refine XS.iload X0.here hx rfl (hb hby d3_79) rfl ?_
                  show Steps p.tables e below (s₁.setTop (mkF m 81 #[iv u0, iv (u0 ||| (32 : Int32)), iv (0 : Int32), iv (u0 - (48 : Int32)), iv (0 : Int32), iv (0 : Int32)] [(.int (0 : Int32))])) _
                  refine XS.ifYes X0.here hx rfl (pc0 := 81) (pc' := 88) rfl (hb hby d3_81) rfl ((if0 _ _).trans (teq (by decide : (0 : Int32) = (0 : Int32))).1) (by decide) (by decide) ?_
                  show Steps p.tables e below (s₁.setTop (mkF m 88 #[iv u0, iv (u0 ||| (32 : Int32)), iv (0 : Int32), iv (u0 - (48 : Int32)), iv (0 : Int32), iv (0 : Int32)] [])) _
                  refine XS.iconst X0.here hx rfl (hb hby d3_88) ?_
                  show Steps p.tables e below (s₁.setTop (mkF m 89 #[iv u0, iv (u0 ||| (32 : Int32)), iv (0 : Int32), iv (u0 - (48 : Int32)), iv (0 : Int32), iv (0 : Int32)] [(.int (0 : Int32))])) _
                  exact retN X0 hx (t := .boolean) Bd.returns (by simp) (hb hby d3_89) hr
                · show Q3 Z u0 h0 n0 _ s₁.heap _
                  rw [e0]
                  exact ⟨(by unfold own_f3; rw [if_neg hc2, if_pos hc26, if_neg hc28, if_neg hc36, if_neg hc44, if_neg hc46, if_neg hc48]), N0, rfl⟩
    · skip
      have S49 : ∀ t, Steps p.tables e below (s₁.setTop (mkF m 29 #[iv u0, iv (u0 ||| (32 : Int32)), iv (1 : Int32), iv (u0 - (48 : Int32)), .unset, .unset] [(.int (u0 - (48 : Int32)))])) t → Steps p.tables e below (s₁.setTop (entryFrame m #[(.int u0)] 6)) t := by
        intro t k
        refine S25 t ?_
        show Steps p.tables e below (s₁.setTop (mkF m 14 #[iv u0, iv (u0 ||| (32 : Int32)), .unset, .unset, .unset, .unset] [(.int (122 : Int32)), (.int (u0 ||| (32 : Int32)))])) _
        refine XS.icmpNo X0.here hx rfl (hb hby d3_14) rfl (flt hc26).2.2.1 ?_
        show Steps p.tables e below (s₁.setTop (mkF m 17 #[iv u0, iv (u0 ||| (32 : Int32)), .unset, .unset, .unset, .unset] [])) _
        refine XS.iconst X0.here hx rfl (hb hby d3_17) ?_
        show Steps p.tables e below (s₁.setTop (mkF m 18 #[iv u0, iv (u0 ||| (32 : Int32)), .unset, .unset, .unset, .unset] [(.int (1 : Int32))])) _
        refine XS.goto X0.here hx rfl (pc0 := 18) (pc' := 22) rfl (hb hby d3_18) (by decide) (by decide) ?_
        show Steps p.tables e below (s₁.setTop (mkF m 22 #[iv u0, iv (u0 ||| (32 : Int32)), .unset, .unset, .unset, .unset] [(.int (1 : Int32))])) _
        refine XS.istoreN X0.here hx rfl (hb hby d3_22) rfl (l' := #[iv u0, iv (u0 ||| (32 : Int32)), iv (1 : Int32), .unset, .unset, .unset]) rfl ?_
        show Steps p.tables e below (s₁.setTop (mkF m 23 #[iv u0, iv (u0 ||| (32 : Int32)), iv (1 : Int32), .unset, .unset, .unset] [])) _
        refine XS.iloadN X0.here hx rfl (hb hby d3_23) rfl ?_
        show Steps p.tables e below (s₁.setTop (mkF m 24 #[iv u0, iv (u0 ||| (32 : Int32)), iv (1 : Int32), .unset, .unset, .unset] [(.int u0)])) _
        refine XS.bipush X0.here hx rfl (hb hby d3_24) ?_
        show Steps p.tables e below (s₁.setTop (mkF m 26 #[iv u0, iv (u0 ||| (32 : Int32)), iv (1 : Int32), .unset, .unset, .unset] [(.int (48 : Int32)), (.int u0)])) _
        refine XS.isub X0.here hx rfl (hb hby d3_26) rfl ?_
        show Steps p.tables e below (s₁.setTop (mkF m 27 #[iv u0, iv (u0 ||| (32 : Int32)), iv (1 : Int32), .unset, .unset, .unset] [(.int (u0 - (48 : Int32)))])) _
        refine XS.istoreN X0.here hx rfl (hb hby d3_27) rfl (l' := #[iv u0, iv (u0 ||| (32 : Int32)), iv (1 : Int32), iv (u0 - (48 : Int32)), .unset, .unset]) rfl ?_
        show Steps p.tables e below (s₁.setTop (mkF m 28 #[iv u0, iv (u0 ||| (32 : Int32)), iv (1 : Int32), iv (u0 - (48 : Int32)), .unset, .unset] [])) _
        refine XS.iloadN X0.here hx rfl (hb hby d3_28) rfl ?_
        exact k
      by_cases hc50 : (u0 - (48 : Int32)) < (0 : Int32)
      · skip
        have S51 : ∀ t, Steps p.tables e below (s₁.setTop (mkF m 48 #[iv u0, iv (u0 ||| (32 : Int32)), iv (1 : Int32), iv (u0 - (48 : Int32)), iv (0 : Int32), .unset] [(.int (95 : Int32)), (.int u0)])) t → Steps p.tables e below (s₁.setTop (entryFrame m #[(.int u0)] 6)) t := by
          intro t k
          refine S49 t ?_
          show Steps p.tables e below (s₁.setTop (mkF m 29 #[iv u0, iv (u0 ||| (32 : Int32)), iv (1 : Int32), iv (u0 - (48 : Int32)), .unset, .unset] [(.int (u0 - (48 : Int32)))])) _
          refine XS.ifYes X0.here hx rfl (pc0 := 29) (pc' := 42) rfl (hb hby d3_29) rfl ((if0 _ _).trans (tlt hc50).1) (by decide) (by decide) ?_
          show Steps p.tables e below (s₁.setTop (mkF m 42 #[iv u0, iv (u0 ||| (32 : Int32)), iv (1 : Int32), iv (u0 - (48 : Int32)), .unset, .unset] [])) _
          refine XS.iconst X0.here hx rfl (hb hby d3_42) ?_
          show Steps p.tables e below (s₁.setTop (mkF m 43 #[iv u0, iv (u0 ||| (32 : Int32)), iv (1 : Int32), iv (u0 - (48 : Int32)), .unset, .unset] [(.int (0 : Int32))])) _
          refine XS.istore X0.here hx rfl (hb hby d3_43) rfl (l' := #[iv u0, iv (u0 ||| (32 : Int32)), iv (1 : Int32), iv (u0 - (48 : Int32)), iv (0 : Int32), .unset]) rfl ?_
          show Steps p.tables e below (s₁.setTop (mkF m 45 #[iv u0, iv (u0 ||| (32 : Int32)), iv (1 : Int32), iv (u0 - (48 : Int32)), iv (0 : Int32), .unset] [])) _
          refine XS.iloadN X0.here hx rfl (hb hby d3_45) rfl ?_
          show Steps p.tables e below (s₁.setTop (mkF m 46 #[iv u0, iv (u0 ||| (32 : Int32)), iv (1 : Int32), iv (u0 - (48 : Int32)), iv (0 : Int32), .unset] [(.int u0)])) _
          refine XS.bipush X0.here hx rfl (hb hby d3_46) ?_
          exact k
        by_cases hc52 : u0 = (95 : Int32)
        · skip
          obtain ⟨fs, hr, hrun, hended, hW, hsame⟩ := X0.leave (v := some (.int (1 : Int32))) (fun h => by rw [Bd.returns] at h; cases h)
          refine ⟨_, _, S51 _ ?_, hrun, hended, _, _, rfl, ?_, ⟨_, rfl⟩, hW, hsame.mono (by decide) (by decide)⟩
          · skip
            show Steps p.tables e below (s₁.setTop (mkF m 48 #[iv u0, iv (u0 ||| (32 : Int32)), iv (1 : Int32), iv (u0 - (48 : Int32)), iv (0 : Int32), .unset] [(.int (95 : Int32)), (.int u0)])) _
            refine XS.icmpYes X0.here hx rfl (pc0 := 48) (pc' := 63) rfl (hb hby d3_48) rfl (teq hc52).1 (by decide) (by decide) ?_
            show Steps p.tables e below (s₁.setTop (mkF m 63 #[iv u0, iv (u0 ||| (32 : Int32)), iv (1 : Int32), iv (u0 - (48 : Int32)), iv (0 : Int32), .unset] [])) _
            refine XS.iconst X0.here hx rfl (hb hby d3_63) ?_
            show Steps p.tables e below (s₁.setTop (mkF m 64 #[iv u0, iv (u0 ||| (32 : Int32)), iv (1 : Int32), iv (u0 - (48 : Int32)), iv (0 : Int32), .unset] [(.int (1 : Int32))])) _
            refine XS.goto X0.here hx rfl (pc0 := 64) (pc' := 68) rfl (hb hby d3_64) (by decide) (by decide) ?_
            show Steps p.tables e below (s₁.setTop (mkF m 68 #[iv u0, iv (u0 ||| (32 : Int32)), iv (1 : Int32), iv (u0 - (48 : Int32)), iv (0 : Int32), .unset] [(.int (1 : Int32))])) _
            refine XS.istore X0.here hx rfl (hb hby d3_68) rfl (l' := #[iv u0, iv (u0 ||| (32 : Int32)), iv (1 : Int32), iv (u0 - (48 : Int32)), iv (0 : Int32), iv (1 : Int32)]) rfl ?_
            show Steps p.tables e below (s₁.setTop (mkF m 70 #[iv u0, iv (u0 ||| (32 : Int32)), iv (1 : Int32), iv (u0 - (48 : Int32)), iv (0 : Int32), iv (1 : Int32)] [])) _
            refine XS.iloadN X0.here hx rfl (hb hby d3_70) rfl ?_
            show Steps p.tables e below (s₁.setTop (mkF m 71 #[iv u0, iv (u0 ||| (32 : Int32)), iv (1 : Int32), iv (u0 - (48 : Int32)), iv (0 : Int32), iv (1 : Int32)] [(.int (1 : Int32))])) _
            refine XS.ifYes X0.here hx rfl (pc0 := 71) (pc' := 84) rfl (hb hby d3_71) rfl ((if0 _ _).trans (feq (by decide : ¬ ((1 : Int32) = (0 : Int32)))).2) (by decide) (by decide) ?_
            show Steps p.tables e below (s₁.setTop (mkF m 84 #[iv u0, iv (u0 ||| (32 : Int32)), iv (1 : Int32), iv (u0 - (48 : Int32)), iv (0 : Int32), iv (1 : Int32)] [])) _
            refine XS.iconst X0.here hx rfl (hb hby d3_84) ?_
            show Steps p.tables e below (s₁.setTop (mkF m 85 #[iv u0, iv (u0 ||| (32 : Int32)), iv (1 : Int32), iv (u0 - (48 : Int32)), iv (0 : Int32), iv (1 : Int32)] [(.int (1 : Int32))])) _
            refine XS.goto X0.here hx rfl (pc0 := 85) (pc' := 89) rfl (hb hby d3_85) (by decide) (by decide) ?_
            show Steps p.tables e below (s₁.setTop (mkF m 89 #[iv u0, iv (u0 ||| (32 : Int32)), iv (1 : Int32), iv (u0 - (48 : Int32)), iv (0 : Int32), iv (1 : Int32)] [(.int (1 : Int32))])) _
            exact retN X0 hx (t := .boolean) Bd.returns (by simp) (hb hby d3_89) hr
          · show Q3 Z u0 h0 n0 _ s₁.heap _
            rw [e0]
            exact ⟨(by unfold own_f3; rw [if_neg hc2, if_neg hc26, if_pos hc50, if_pos hc52]), N0, rfl⟩
        · skip
          have S53 : ∀ t, Steps p.tables e below (s₁.setTop (mkF m 54 #[iv u0, iv (u0 ||| (32 : Int32)), iv (1 : Int32), iv (u0 - (48 : Int32)), iv (0 : Int32), .unset] [(.int (36 : Int32)), (.int u0)])) t → Steps p.tables e below (s₁.setTop (entryFrame m #[(.int u0)] 6)) t := by
            intro t k
            refine S51 t ?_
            show Steps p.tables e below (s₁.setTop (mkF m 48 #[iv u0, iv (u0 ||| (32 : Int32)), iv (1 : Int32), iv (u0 - (48 : Int32)), iv (0 : Int32), .unset] [(.int (95 : Int32)), (.int u0)])) _
            refine XS.icmpNo X0.here hx rfl (hb hby d3_48) rfl (feq hc52).1 ?_
            show Steps p.tables e below (s₁.setTop (mkF m 51 #[iv u0, iv (u0 ||| (32 : Int32)), iv (1 : Int32), iv (u0 - (48 : Int32)), iv (0 : Int32), .unset] [])) _
            refine XS.iloadN X0.here hx rfl (hb hby d3_51) rfl ?_
            show Steps p.tables e below (s₁.setTop (mkF m 52 #[iv u0, iv (u0 ||| (32 : Int32)), iv (1 : Int32), iv (u0 - (48 : Int32)), iv (0 : Int32), .unset] [(.int u0)])) _
            refine XS.bipush X0.here hx rfl (hb hby d3_52) ?_
            exact k
          by_cases hc54 : u0 = (36 : Int32)
          · skip
            obtain ⟨fs, hr, hrun, hended, hW, hsame⟩ := X0.leave (v := some (.int (1 : Int32))) (fun h => by rw [Bd.returns] at h; cases h)
            refine ⟨_, _, S53 _ ?_, hrun, hended, _, _, rfl, ?_, ⟨_, rfl⟩, hW, hsame.mono (by decide) (by decide)⟩
            · skip
              show Steps p.tables e below (s₁.setTop (mkF m 54 #[iv u0, iv (u0 ||| (32 : Int32)), iv (1 : Int32), iv (u0 - (48 : Int32)), iv (0 : Int32), .unset] [(.int (36 : Int32)), (.int u0)])) _
              refine XS.icmpYes X0.here hx rfl (pc0 := 54) (pc' := 63) rfl (hb hby d3_54) rfl (teq hc54).1 (by decide) (by decide) ?_
              show Steps p.tables e below (s₁.setTop (mkF m 63 #[iv u0, iv (u0 ||| (32 : Int32)), iv (1 : Int32), iv (u0 - (48 : Int32)), iv (0 : Int32), .unset] [])) _
              refine XS.iconst X0.here hx rfl (hb hby d3_63) ?_
              show Steps p.tables e below (s₁.setTop (mkF m 64 #[iv u0, iv (u0 ||| (32 : Int32)), iv (1 : Int32), iv (u0 - (48 : Int32)), iv (0 : Int32), .unset] [(.int (1 : Int32))])) _
              refine XS.goto X0.here hx rfl (pc0 := 64) (pc' := 68) rfl (hb hby d3_64) (by decide) (by decide) ?_
              show Steps p.tables e below (s₁.setTop (mkF m 68 #[iv u0, iv (u0 ||| (32 : Int32)), iv (1 : Int32), iv (u0 - (48 : Int32)), iv (0 : Int32), .unset] [(.int (1 : Int32))])) _
              refine XS.istore X0.here hx rfl (hb hby d3_68) rfl (l' := #[iv u0, iv (u0 ||| (32 : Int32)), iv (1 : Int32), iv (u0 - (48 : Int32)), iv (0 : Int32), iv (1 : Int32)]) rfl ?_
              show Steps p.tables e below (s₁.setTop (mkF m 70 #[iv u0, iv (u0 ||| (32 : Int32)), iv (1 : Int32), iv (u0 - (48 : Int32)), iv (0 : Int32), iv (1 : Int32)] [])) _
              refine XS.iloadN X0.here hx rfl (hb hby d3_70) rfl ?_
              show Steps p.tables e below (s₁.setTop (mkF m 71 #[iv u0, iv (u0 ||| (32 : Int32)), iv (1 : Int32), iv (u0 - (48 : Int32)), iv (0 : Int32), iv (1 : Int32)] [(.int (1 : Int32))])) _
              refine XS.ifYes X0.here hx rfl (pc0 := 71) (pc' := 84) rfl (hb hby d3_71) rfl ((if0 _ _).trans (feq (by decide : ¬ ((1 : Int32) = (0 : Int32)))).2) (by decide) (by decide) ?_
              show Steps p.tables e below (s₁.setTop (mkF m 84 #[iv u0, iv (u0 ||| (32 : Int32)), iv (1 : Int32), iv (u0 - (48 : Int32)), iv (0 : Int32), iv (1 : Int32)] [])) _
              refine XS.iconst X0.here hx rfl (hb hby d3_84) ?_
              show Steps p.tables e below (s₁.setTop (mkF m 85 #[iv u0, iv (u0 ||| (32 : Int32)), iv (1 : Int32), iv (u0 - (48 : Int32)), iv (0 : Int32), iv (1 : Int32)] [(.int (1 : Int32))])) _
              refine XS.goto X0.here hx rfl (pc0 := 85) (pc' := 89) rfl (hb hby d3_85) (by decide) (by decide) ?_
              show Steps p.tables e below (s₁.setTop (mkF m 89 #[iv u0, iv (u0 ||| (32 : Int32)), iv (1 : Int32), iv (u0 - (48 : Int32)), iv (0 : Int32), iv (1 : Int32)] [(.int (1 : Int32))])) _
              exact retN X0 hx (t := .boolean) Bd.returns (by simp) (hb hby d3_89) hr
            · show Q3 Z u0 h0 n0 _ s₁.heap _
              rw [e0]
              exact ⟨(by unfold own_f3; rw [if_neg hc2, if_neg hc26, if_pos hc50, if_neg hc52, if_pos hc54]), N0, rfl⟩
          · skip
            have S55 : ∀ t, Steps p.tables e below (s₁.setTop (mkF m 60 #[iv u0, iv (u0 ||| (32 : Int32)), iv (1 : Int32), iv (u0 - (48 : Int32)), iv (0 : Int32), .unset] [(.int (35 : Int32)), (.int u0)])) t → Steps p.tables e below (s₁.setTop (entryFrame m #[(.int u0)] 6)) t := by
              intro t k
              refine S53 t ?_
              show Steps p.tables e below (s₁.setTop (mkF m 54 #[iv u0, iv (u0 ||| (32 : Int32)), iv (1 : Int32), iv (u0 - (48 : Int32)), iv (0 : Int32), .unset] [(.int (36 : Int32)), (.int u0)])) _
              refine XS.icmpNo X0.here hx rfl (hb hby d3_54) rfl (feq hc54).1 ?_
              show Steps p.tables e below (s₁.setTop (mkF m 57 #[iv u0, iv (u0 ||| (32 : Int32)), iv (1 : Int32), iv (u0 - (48 : Int32)), iv (0 : Int32), .unset] [])) _
              refine XS.iloadN X0.here hx rfl (hb hby d3_57) rfl ?_
              show Steps p.tables e below (s₁.setTop (mkF m 58 #[iv u0, iv (u0 ||| (32 : Int32)), iv (1 : Int32), iv (u0 - (48 : Int32)), iv (0 : Int32), .unset] [(.int u0)])) _
              refine XS.bipush X0.here hx rfl (hb hby d3_58) ?_
              exact k
            by_cases hc56 : u0 = (35 : Int32)
            · skip
              obtain ⟨fs, hr, hrun, hended, hW, hsame⟩ := X0.leave (v := some (.int (1 : Int32))) (fun h => by rw [Bd.returns] at h; cases h)
              refine ⟨_, _, S55 _ ?_, hrun, hended, _, _, rfl, ?_, ⟨_, rfl⟩, hW, hsame.mono (by decide) (by decide)⟩
              · skip
                show Steps p.tables e below (s₁.setTop (mkF m 60 #[iv u0, iv (u0 ||| (32 : Int32)), iv (1 : Int32), iv (u0 - (48 : Int32)), iv (0 : Int32), .unset] [(.int (35 : Int32)), (.int u0)])) _
                refine XS.icmpNo X0.here hx rfl (hb hby d3_60) rfl (teq hc56).2 ?_
                show Steps p.tables e below (s₁.setTop (mkF m 63 #[iv u0, iv (u0 ||| (32 : Int32)), iv (1 : Int32), iv (u0 - (48 : Int32)), iv (0 : Int32), .unset] [])) _
                refine XS.iconst X0.here hx rfl (hb hby d3_63) ?_
                show Steps p.tables e below (s₁.setTop (mkF m 64 #[iv u0, iv (u0 ||| (32 : Int32)), iv (1 : Int32), iv (u0 - (48 : Int32)), iv (0 : Int32), .unset] [(.int (1 : Int32))])) _
                refine XS.goto X0.here hx rfl (pc0 := 64) (pc' := 68) rfl (hb hby d3_64) (by decide) (by decide) ?_
                show Steps p.tables e below (s₁.setTop (mkF m 68 #[iv u0, iv (u0 ||| (32 : Int32)), iv (1 : Int32), iv (u0 - (48 : Int32)), iv (0 : Int32), .unset] [(.int (1 : Int32))])) _
                refine XS.istore X0.here hx rfl (hb hby d3_68) rfl (l' := #[iv u0, iv (u0 ||| (32 : Int32)), iv (1 : Int32), iv (u0 - (48 : Int32)), iv (0 : Int32), iv (1 : Int32)]) rfl ?_
                show Steps p.tables e below (s₁.setTop (mkF m 70 #[iv u0, iv (u0 ||| (32 : Int32)), iv (1 : Int32), iv (u0 - (48 : Int32)), iv (0 : Int32), iv (1 : Int32)] [])) _
                refine XS.iloadN X0.here hx rfl (hb hby d3_70) rfl ?_
                show Steps p.tables e below (s₁.setTop (mkF m 71 #[iv u0, iv (u0 ||| (32 : Int32)), iv (1 : Int32), iv (u0 - (48 : Int32)), iv (0 : Int32), iv (1 : Int32)] [(.int (1 : Int32))])) _
                refine XS.ifYes X0.here hx rfl (pc0 := 71) (pc' := 84) rfl (hb hby d3_71) rfl ((if0 _ _).trans (feq (by decide : ¬ ((1 : Int32) = (0 : Int32)))).2) (by decide) (by decide) ?_
                show Steps p.tables e below (s₁.setTop (mkF m 84 #[iv u0, iv (u0 ||| (32 : Int32)), iv (1 : Int32), iv (u0 - (48 : Int32)), iv (0 : Int32), iv (1 : Int32)] [])) _
                refine XS.iconst X0.here hx rfl (hb hby d3_84) ?_
                show Steps p.tables e below (s₁.setTop (mkF m 85 #[iv u0, iv (u0 ||| (32 : Int32)), iv (1 : Int32), iv (u0 - (48 : Int32)), iv (0 : Int32), iv (1 : Int32)] [(.int (1 : Int32))])) _
                refine XS.goto X0.here hx rfl (pc0 := 85) (pc' := 89) rfl (hb hby d3_85) (by decide) (by decide) ?_
                show Steps p.tables e below (s₁.setTop (mkF m 89 #[iv u0, iv (u0 ||| (32 : Int32)), iv (1 : Int32), iv (u0 - (48 : Int32)), iv (0 : Int32), iv (1 : Int32)] [(.int (1 : Int32))])) _
                exact retN X0 hx (t := .boolean) Bd.returns (by simp) (hb hby d3_89) hr
              · show Q3 Z u0 h0 n0 _ s₁.heap _
                rw [e0]
                exact ⟨(by unfold own_f3; rw [if_neg hc2, if_neg hc26, if_pos hc50, if_neg hc52, if_neg hc54, if_pos hc56]), N0, rfl⟩
            · skip
              obtain ⟨fs, hr, hrun, hended, hW, hsame⟩ := X0.leave (v := some (.int (1 : Int32))) (fun h => by rw [Bd.returns] at h; cases h)
              refine ⟨_, _, S55 _ ?_, hrun, hended, _, _, rfl, ?_, ⟨_, rfl⟩, hW, hsame.mono (by decide) (by decide)⟩
              · skip
                show Steps p.tables e below (s₁.setTop (mkF m 60 #[iv u0, iv (u0 ||| (32 : Int32)), iv (1 : Int32), iv (u0 - (48 : Int32)), iv (0 : Int32), .unset] [(.int (35 : Int32)), (.int u0)])) _
                refine XS.icmpYes X0.here hx rfl (pc0 := 60) (pc' := 67) rfl (hb hby d3_60) rfl (feq hc56).2 (by decide) (by decide) ?_
                show Steps p.tables e below (s₁.setTop (mkF m 67 #[iv u0, iv (u0 ||| (32 : Int32)), iv (1 : Int32), iv (u0 - (48 : Int32)), iv (0 : Int32), .unset] [])) _
                refine XS.iconst X0.here hx rfl (hb hby d3_67) ?_
                show Steps p.tables e below (s₁.setTop (mkF m 68 #[iv u0, iv (u0 ||| (32 : Int32)), iv (1 : Int32), iv (u0 - (48 : Int32)), iv (0 : Int32), .unset] [(.int (0 : Int32))])) _
                refine XS.istore X0.here hx rfl (hb hby d3_68) rfl (l' := #[iv u0, iv (u0 ||| (32 : Int32)), iv (1 : Int32), iv (u0 - (48 : Int32)), iv (0 : Int32), iv (0 : Int32)]) rfl ?_
                show Steps p.tables e below (s₁.setTop (mkF m 70 #[iv u0, iv (u0 ||| (32 : Int32)), iv (1 : Int32), iv (u0 - (48 : Int32)), iv (0 : Int32), iv (0 : Int32)] [])) _
                refine XS.iloadN X0.here hx rfl (hb hby d3_70) rfl ?_
                show Steps p.tables e below (s₁.setTop (mkF m 71 #[iv u0, iv (u0 ||| (32 : Int32)), iv (1 : Int32), iv (u0 - (48 : Int32)), iv (0 : Int32), iv (0 : Int32)] [(.int (1 : Int32))])) _
                refine XS.ifYes X0.here hx rfl (pc0 := 71) (pc' := 84) rfl (hb hby d3_71) rfl ((if0 _ _).trans (feq (by decide : ¬ ((1 : Int32) = (0 : Int32)))).2) (by decide) (by decide) ?_
                show Steps p.tables e below (s₁.setTop (mkF m 84 #[iv u0, iv (u0 ||| (32 : Int32)), iv (1 : Int32), iv (u0 - (48 : Int32)), iv (0 : Int32), iv (0 : Int32)] [])) _
                refine XS.iconst X0.here hx rfl (hb hby d3_84) ?_
                show Steps p.tables e below (s₁.setTop (mkF m 85 #[iv u0, iv (u0 ||| (32 : Int32)), iv (1 : Int32), iv (u0 - (48 : Int32)), iv (0 : Int32), iv (0 : Int32)] [(.int (1 : Int32))])) _
                refine XS.goto X0.here hx rfl (pc0 := 85) (pc' := 89) rfl (hb hby d3_85) (by decide) (by decide) ?_
                show Steps p.tables e below (s₁.setTop (mkF m 89 #[iv u0, iv (u0 ||| (32 : Int32)), iv (1 : Int32), iv (u0 - (48 : Int32)), iv (0 : Int32), iv (0 : Int32)] [(.int (1 : Int32))])) _
                exact retN X0 hx (t := .boolean) Bd.returns (by simp) (hb hby d3_89) hr
              · show Q3 Z u0 h0 n0 _ s₁.heap _
                rw [e0]
                exact ⟨(by unfold own_f3; rw [if_neg hc2, if_neg hc26, if_pos hc50, if_neg hc52, if_neg hc54, if_neg hc56]), N0, rfl⟩
      · skip
        have S57 : ∀ t, Steps p.tables e below (s₁.setTop (mkF m 35 #[iv u0, iv (u0 ||| (32 : Int32)), iv (1 : Int32), iv (u0 - (48 : Int32)), .unset, .unset] [(.int (10 : Int32)), (.int (u0 - (48 : Int32)))])) t → Steps p.tables e below (s₁.setTop (entryFrame m #[(.int u0)] 6)) t := by
          intro t k
          refine S49 t ?_
          show Steps p.tables e below (s₁.setTop (mkF m 29 #[iv u0, iv (u0 ||| (32 : Int32)), iv (1 : Int32), iv (u0 - (48 : Int32)), .unset, .unset] [(.int (u0 - (48 : Int32)))])) _
          refine XS.ifNo X0.here hx rfl (hb hby d3_29) rfl ((if0 _ _).trans (flt hc50).1) ?_
          show Steps p.tables e below (s₁.setTop (mkF m 32 #[iv u0, iv (u0 ||| (32 : Int32)), iv (1 : Int32), iv (u0 - (48 : Int32)), .unset, .unset] [])) _
          refine XS.iloadN X0.here hx rfl (hb hby d3_32) rfl ?_
          show Steps p.tables e below (s₁.setTop (mkF m 33 #[iv u0, iv (u0 ||| (32 : Int32)), iv (1 : Int32), iv (u0 - (48 : Int32)), .unset, .unset] [(.int (u0 - (48 : Int32)))])) _
          refine XS.bipush X0.here hx rfl (hb hby d3_33) ?_
          exact k
        by_cases hc58 : (u0 - (48 : Int32)) < (10 : Int32)
        · skip
          have S59 : ∀ t, Steps p.tables e below (s₁.setTop (mkF m 48 #[iv u0, iv (u0 ||| (32 : Int32)), iv (1 : Int32), iv (u0 - (48 : Int32)), iv (1 : Int32), .unset] [(.int (95 : Int32)), (.int u0)])) t → Steps p.tables e below (s₁.setTop (entryFrame m #[(.int u0)] 6)) t := by
            intro t k
            refine S57 t ?_
            show Steps p.tables e below (s₁.setTop (mkF m 35 #[iv u0, iv (u0 ||| (32 : Int32)), iv (1 : Int32), iv (u0 - (48 : Int32)), .unset, .unset] [(.int (10 : Int32)), (.int (u0 - (48 : Int32)))])) _
            refine XS.icmpNo X0.here hx rfl (hb hby d3_35) rfl (tlt hc58).2.1 ?_
            show Steps p.tables e below (s₁.setTop (mkF m 38 #[iv u0, iv (u0 ||| (32 : Int32)), iv (1 : Int32), iv (u0 - (48 : Int32)), .unset, .unset] [])) _
            refine XS.iconst X0.here hx rfl (hb hby d3_38) ?_
            show Steps p.tables e below (s₁.setTop (mkF m 39 #[iv u0, iv (u0 ||| (32 : Int32)), iv (1 : Int32), iv (u0 - (48 : Int32)), .unset, .unset] [(.int (1 : Int32))])) _
            refine XS.goto X0.here hx rfl (pc0 := 39) (pc' := 43) rfl (hb hby d3_39) (by decide) (by decide) ?_
            show Steps p.tables e below (s₁.setTop (mkF m 43 #[iv u0, iv (u0 ||| (32 : Int32)), iv (1 : Int32), iv (u0 - (48 : Int32)), .unset, .unset] [(.int (1 : Int32))])) _
            refine XS.istore X0.here hx rfl (hb hby d3_43) rfl (l' := #[iv u0, iv (u0 ||| (32 : Int32)), iv (1 : Int32), iv (u0 - (48 : Int32)), iv (1 : Int32), .unset]) rfl ?_
            show Steps p.tables e below (s₁.setTop (mkF m 45 #[iv u0, iv (u0 ||| (32 : Int32)), iv (1 : Int32), iv (u0 - (48 : Int32)), iv (1 : Int32), .unset] [])) _
            refine XS.iloadN X0.here hx rfl (hb hby d3_45) rfl ?_
            show Steps p.tables e below (s₁.setTop (mkF m 46 #[iv u0, iv (u0 ||| (32 : Int32)), iv (1 : Int32), iv (u0 - (48 : Int32)), iv (1 : Int32), .unset] [(.int u0)])) _
            refine XS.bipush X0.here hx rfl (hb hby d3_46) ?_
            exact k
          by_cases hc60 : u0 = (95 : Int32)
          · skip
            obtain ⟨fs, hr, hrun, hended, hW, hsame⟩ := X0.leave (v := some (.int (1 : Int32))) (fun h => by rw [Bd.returns] at h; cases h)
            refine ⟨_, _, S59 _ ?_, hrun, hended, _, _, rfl, ?_, ⟨_, rfl⟩, hW, hsame.mono (by decide) (by decide)⟩
            · skip
              show Steps p.tables e below (s₁.setTop (mkF m 48 #[iv u0, iv (u0 ||| (32 : Int32)), iv (1 : Int32), iv (u0 - (48 : Int32)), iv (1 : Int32), .unset] [(.int (95 : Int32)), (.int u0)])) _
              refine XS.icmpYes X0.here hx rfl (pc0 := 48) (pc' := 63) rfl (hb hby d3_48) rfl (teq hc60).1 (by decide) (by decide) ?_
              show Steps p.tables e below (s₁.setTop (mkF m 63 #[iv u0, iv (u0 ||| (32 : Int32)), iv (1 : Int32), iv (u0 - (48 : Int32)), iv (1 : Int32), .unset] [])) _
              refine XS.iconst X0.here hx rfl (hb hby d3_63) ?_
              show Steps p.tables e below (s₁.setTop (mkF m 64 #[iv u0, iv (u0 ||| (32 : Int32)), iv (1 : Int32), iv (u0 - (48 : Int32)), iv (1 : Int32), .unset] [(.int (1 : Int32))])) _
              refine XS.goto X0.here hx rfl (pc0 := 64) (pc' := 68) rfl (hb hby d3_64) (by decide) (by decide) ?_
              show Steps p.tables e below (s₁.setTop (mkF m 68 #[iv u0, iv (u0 ||| (32 : Int32)), iv (1 : Int32), iv (u0 - (48 : Int32)), iv (1 : Int32), .unset] [(.int (1 : Int32))])) _
              refine XS.istore X0.here hx rfl (hb hby d3_68) rfl (l' := #[iv u0, iv (u0 ||| (32 : Int32)), iv (1 : Int32), iv (u0 - (48 : Int32)), iv (1 : Int32), iv (1 : Int32)]) rfl ?_
              show Steps p.tables e below (s₁.setTop (mkF m 70 #[iv u0, iv (u0 ||| (32 : Int32)), iv (1 : Int32), iv (u0 - (48 : Int32)), iv (1 : Int32), iv (1 : Int32)] [])) _
              refine XS.iloadN X0.here hx rfl (hb hby d3_70) rfl ?_
              show Steps p.tables e below (s₁.setTop (mkF m 71 #[iv u0, iv (u0 ||| (32 : Int32)), iv (1 : Int32), iv (u0 - (48 : Int32)), iv (1 : Int32), iv (1 : Int32)] [(.int (1 : Int32))])) _
              refine XS.ifYes X0.here hx rfl (pc0 := 71) (pc' := 84) rfl (hb hby d3_71) rfl ((if0 _ _).trans (feq (by decide : ¬ ((1 : Int32) = (0 : Int32)))).2) (by decide) (by decide) ?_
              show Steps p.tables e below (s₁.setTop (mkF m 84 #[iv u0, iv (u0 ||| (32 : Int32)), iv (1 : Int32), iv (u0 - (48 : Int32)), iv (1 : Int32), iv (1 : Int32)] [])) _
              refine XS.iconst X0.here hx rfl (hb hby d3_84) ?_
              show Steps p.tables e below (s₁.setTop (mkF m 85 #[iv u0, iv (u0 ||| (32 : Int32)), iv (1 : Int32), iv (u0 - (48 : Int32)), iv (1 : Int32), iv (1 : Int32)] [(.int (1 : Int32))])) _
              refine XS.goto X0.here hx rfl (pc0 := 85) (pc' := 89) rfl (hb hby d3_85) (by decide) (by decide) ?_
              show Steps p.tables e below (s₁.setTop (mkF m 89 #[iv u0, iv (u0 ||| (32 : Int32)), iv (1 : Int32), iv (u0 - (48 : Int32)), iv (1 : Int32), iv (1 : Int32)] [(.int (1 : Int32))])) _
              exact retN X0 hx (t := .boolean) Bd.returns (by simp) (hb hby d3_89) hr
            · show Q3 Z u0 h0 n0 _ s₁.heap _
              rw [e0]
              exact ⟨(by unfold own_f3; rw [if_neg hc2, if_neg hc26, if_neg hc50, if_pos hc58, if_pos hc60]), N0, rfl⟩
          · skip
            have S61 : ∀ t, Steps p.tables e below (s₁.setTop (mkF m 54 #[iv u0, iv (u0 ||| (32 : Int32)), iv (1 : Int32), iv (u0 - (48 : Int32)), iv (1 : Int32), .unset] [(.int (36 : Int32)), (.int u0)])) t → Steps p.tables e below (s₁.setTop (entryFrame m #[(.int u0)] 6)) t := by
              intro t k
              refine S59 t ?_
              show Steps p.tables e below (s₁.setTop (mkF m 48 #[iv u0, iv (u0 ||| (32 : Int32)), iv (1 : Int32), iv (u0 - (48 : Int32)), iv (1 : Int32), .unset] [(.int (95 : Int32)), (.int u0)])) _
              refine XS.icmpNo X0.here hx rfl (hb hby d3_48) rfl (feq hc60).1 ?_
              show Steps p.tables e below (s₁.setTop (mkF m 51 #[iv u0, iv (u0 ||| (32 : Int32)), iv (1 : Int32), iv (u0 - (48 : Int32)), iv (1 : Int32), .unset] [])) _
              refine XS.iloadN X0.here hx rfl (hb hby d3_51) rfl ?_
              show Steps p.tables e below (s₁.setTop (mkF m 52 #[iv u0, iv (u0 ||| (32 : Int32)), iv (1 : Int32), iv (u0 - (48 : Int32)), iv (1 : Int32), .unset] [(.int u0)])) _
              refine XS.bipush X0.here hx rfl (hb hby d3_52) ?_
              exact k
            by_cases hc62 : u0 = (36 : Int32)
            · skip
              obtain ⟨fs, hr, hrun, hended, hW, hsame⟩ := X0.leave (v := some (.int (1 : Int32))) (fun h => by rw [Bd.returns] at h; cases h)
              refine ⟨_, _, S61 _ ?_, hrun, hended, _, _, rfl, ?_, ⟨_, rfl⟩, hW, hsame.mono (by decide) (by decide)⟩
              · skip
                show Steps p.tables e below (s₁.setTop (mkF m 54 #[iv u0, iv (u0 ||| (32 : Int32)), iv (1 : Int32), iv (u0 - (48 : Int32)), iv (1 : Int32), .unset] [(.int (36 : Int32)), (.int u0)])) _
                refine XS.icmpYes X0.here hx rfl (pc0 := 54) (pc' := 63) rfl (hb hby d3_54) rfl (teq hc62).1 (by decide) (by decide) ?_
                show Steps p.tables e below (s₁.setTop (mkF m 63 #[iv u0, iv (u0 ||| (32 : Int32)), iv (1 : Int32), iv (u0 - (48 : Int32)), iv (1 : Int32), .unset] [])) _
                refine XS.iconst X0.here hx rfl (hb hby d3_63) ?_
                show Steps p.tables e below (s₁.setTop (mkF m 64 #[iv u0, iv (u0 ||| (32 : Int32)), iv (1 : Int32), iv (u0 - (48 : Int32)), iv (1 : Int32), .unset] [(.int (1 : Int32))])) _
                refine XS.goto X0.here hx rfl (pc0 := 64) (pc' := 68) rfl (hb hby d3_64) (by decide) (by decide) ?_
                show Steps p.tables e below (s₁.setTop (mkF m 68 #[iv u0, iv (u0 ||| (32 : Int32)), iv (1 : Int32), iv (u0 - (48 : Int32)), iv (1 : Int32), .unset] [(.int (1 : Int32))])) _
                refine XS.istore X0.here hx rfl (hb hby d3_68) rfl (l' := #[iv u0, iv (u0 ||| (32 : Int32)), iv (1 : Int32), iv (u0 - (48 : Int32)), iv (1 : Int32), iv (1 : Int32)]) rfl ?_
                show Steps p.tables e below (s₁.setTop (mkF m 70 #[iv u0, iv (u0 ||| (32 : Int32)), iv (1 : Int32), iv (u0 - (48 : Int32)), iv (1 : Int32), iv (1 : Int32)] [])) _
                refine XS.iloadN X0.here hx rfl (hb hby d3_70) rfl ?_
                show Steps p.tables e below (s₁.setTop (mkF m 71 #[iv u0, iv (u0 ||| (32 : Int32)), iv (1 : Int32), iv (u0 - (48 : Int32)), iv (1 : Int32), iv (1 : Int32)] [(.int (1 : Int32))])) _
                refine XS.ifYes X0.here hx rfl (pc0 := 71) (pc' := 84) rfl (hb hby d3_71) rfl ((if0 _ _).trans (feq (by decide : ¬ ((1 : Int32) = (0 : Int32)))).2) (by decide) (by decide) ?_
                show Steps p.tables e below (s₁.setTop (mkF m 84 #[iv u0, iv (u0 ||| (32 : Int32)), iv (1 : Int32), iv (u0 - (48 : Int32)), iv (1 : Int32), iv (1 : Int32)] [])) _
                refine XS.iconst X0.here hx rfl (hb hby d3_84) ?_
                show Steps p.tables e below (s₁.setTop (mkF m 85 #[iv u0, iv (u0 ||| (32 : Int32)), iv (1 : Int32), iv (u0 - (48 : Int32)), iv (1 : Int32), iv (1 : Int32)] [(.int (1 : Int32))])) _
                refine XS.goto X0.here hx rfl (pc0 := 85) (pc' := 89) rfl (hb hby d3_85) (by decide) (by decide) ?_
                show Steps p.tables e below (s₁.setTop (mkF m 89 #[iv u0, iv (u0 ||| (32 : Int32)), iv (1 : Int32), iv (u0 - (48 : Int32)), iv (1 : Int32), iv (1 : Int32)] [(.int (1 : Int32))])) _
                exact retN X0 hx (t := .boolean) Bd.returns (by simp) (hb hby d3_89) hr
              · show Q3 Z u0 h0 n0 _ s₁.heap _
                rw [e0]
                exact ⟨(by unfold own_f3; rw [if_neg hc2, if_neg hc26, if_neg hc50, if_pos hc58, if_neg hc60, if_pos hc62]), N0, rfl⟩
            · skip
              have S63 : ∀ t, Steps p.tables e below (s₁.setTop (mkF m 60 #[iv u0, iv (u0 ||| (32 : Int32)), iv (1 : Int32), iv (u0 - (48 : Int32)), iv (1 : Int32), .unset] [(.int (35 : Int32)), (.int u0)])) t → Steps p.tables e below (s₁.setTop (entryFrame m #[(.int u0)] 6)) t := by
                intro t k
                refine S61 t ?_
                show Steps p.tables e below (s₁.setTop (mkF m 54 #[iv u0, iv (u0 ||| (32 : Int32)), iv (1 : Int32), iv (u0 - (48 : Int32)), iv (1 : Int32), .unset] [(.int (36 : Int32)), (.int u0)])) _
                refine XS.icmpNo X0.here hx rfl (hb hby d3_54) rfl (feq hc62).1 ?_
                show Steps p.tables e below (s₁.setTop (mkF m 57 #[iv u0, iv (u0 ||| (32 : Int32)), iv (1 : Int32), iv (u0 - (48 : Int32)), iv (1 : Int32), .unset] [])) _
                refine XS.iloadN X0.here hx rfl (hb hby d3_57) rfl ?_
                show Steps p.tables e below (s₁.setTop (mkF m 58 #[iv u0, iv (u0 ||| (32 : Int32)), iv (1 : Int32), iv (u0 - (48 : Int32)), iv (1 : Int32), .unset] [(.int u0)])) _
                refine XS.bipush X0.here hx rfl (hb hby d3_58) ?_
                exact k
              by_cases hc64 : u0 = (35 : Int32)
              · skip
                obtain ⟨fs, hr, hrun, hended, hW, hsame⟩ := X0.leave (v := some (.int (1 : Int32))) (fun h => by rw [Bd.returns] at h; cases h)
                refine ⟨_, _, S63 _ ?_, hrun, hended, _, _, rfl, ?_, ⟨_, rfl⟩, hW, hsame.mono (by decide) (by decide)⟩
                · skip
                  show Steps p.tables e below (s₁.setTop (mkF m 60 #[iv u0, iv (u0 ||| (32 : Int32)), iv (1 : Int32), iv (u0 - (48 : Int32)), iv (1 : Int32), .unset] [(.int (35 : Int32)), (.int u0)])) _
                  refine XS.icmpNo X0.here hx rfl (hb hby d3_60) rfl (teq hc64).2 ?_
                  show Steps p.tables e below (s₁.setTop (mkF m 63 #[iv u0, iv (u0 ||| (32 : Int32)), iv (1 : Int32), iv (u0 - (48 : Int32)), iv (1 : Int32), .unset] [])) _
                  refine XS.iconst X0.here hx rfl (hb hby d3_63) ?_
                  show Steps p.tables e below (s₁.setTop (mkF m 64 #[iv u0, iv (u0 ||| (32 : Int32)), iv (1 : Int32), iv (u0 - (48 : Int32)), iv (1 : Int32), .unset] [(.int (1 : Int32))])) _
                  refine XS.goto X0.here hx rfl (pc0 := 64) (pc' := 68) rfl (hb hby d3_64) (by decide) (by decide) ?_
                  show Steps p.tables e below (s₁.setTop (mkF m 68 #[iv u0, iv (u0 ||| (32 : Int32)), iv (1 : Int32), iv (u0 - (48 : Int32)), iv (1 : Int32), .unset] [(.int (1 : Int32))])) _
                  refine XS.istore X0.here hx rfl (hb hby d3_68) rfl (l' := #[iv u0, iv (u0 ||| (32 : Int32)), iv (1 : Int32), iv (u0 - (48 : Int32)), iv (1 : Int32), iv (1 : Int32)]) rfl ?_
                  show Steps p.tables e below (s₁.setTop (mkF m 70 #[iv u0, iv (u0 ||| (32 : Int32)), iv (1 : Int32), iv (u0 - (48 : Int32)), iv (1 : Int32), iv (1 : Int32)] [])) _
                  refine XS.iloadN X0.here hx rfl (hb hby d3_70) rfl ?_
                  show Steps p.tables e below (s₁.setTop (mkF m 71 #[iv u0, iv (u0 ||| (32 : Int32)), iv (1 : Int32), iv (u0 - (48 : Int32)), iv (1 : Int32), iv (1 : Int32)] [(.int (1 : Int32))])) _
                  refine XS.ifYes X0.here hx rfl (pc0 := 71) (pc' := 84) rfl (hb hby d3_71) rfl ((if0 _ _).trans (feq (by decide : ¬ ((1 : Int32) = (0 : Int32)))).2) (by decide) (by decide) ?_
                  show Steps p.tables e below (s₁.setTop (mkF m 84 #[iv u0, iv (u0 ||| (32 : Int32)), iv (1 : Int32), iv (u0 - (48 : Int32)), iv (1 : Int32), iv (1 : Int32)] [])) _
                  refine XS.iconst X0.here hx rfl (hb hby d3_84) ?_
                  show Steps p.tables e below (s₁.setTop (mkF m 85 #[iv u0, iv (u0 ||| (32 : Int32)), iv (1 : Int32), iv (u0 - (48 : Int32)), iv (1 : Int32), iv (1 : Int32)] [(.int (1 : Int32))])) _
                  refine XS.goto X0.here hx rfl (pc0 := 85) (pc' := 89) rfl (hb hby d3_85) (by decide) (by decide) ?_
                  show Steps p.tables e below (s₁.setTop (mkF m 89 #[iv u0, iv (u0 ||| (32 : Int32)), iv (1 : Int32), iv (u0 - (48 : Int32)), iv (1 : Int32), iv (1 : Int32)] [(.int (1 : Int32))])) _
                  exact retN X0 hx (t := .boolean) Bd.returns (by simp) (hb hby d3_89) hr
                · show Q3 Z u0 h0 n0 _ s₁.heap _
                  rw [e0]
                  exact ⟨(by unfold own_f3; rw [if_neg hc2, if_neg hc26, if_neg hc50, if_pos hc58, if_neg hc60, if_neg hc62, if_pos hc64]), N0, rfl⟩
              · skip
                obtain ⟨fs, hr, hrun, hended, hW, hsame⟩ := X0.leave (v := some (.int (1 : Int32))) (fun h => by rw [Bd.returns] at h; cases h)
                refine ⟨_, _, S63 _ ?_, hrun, hended, _, _, rfl, ?_, ⟨_, rfl⟩, hW, hsame.mono (by decide) (by decide)⟩
                · skip
                  show Steps p.tables e below (s₁.setTop (mkF m 60 #[iv u0, iv (u0 ||| (32 : Int32)), iv (1 : Int32), iv (u0 - (48 : Int32)), iv (1 : Int32), .unset] [(.int (35 : Int32)), (.int u0)])) _
                  refine XS.icmpYes X0.here hx rfl (pc0 := 60) (pc' := 67) rfl (hb hby d3_60) rfl (feq hc64).2 (by decide) (by decide) ?_
                  show Steps p.tables e below (s₁.setTop (mkF m 67 #[iv u0, iv (u0 ||| (32 : Int32)), iv (1 : Int32), iv (u0 - (48 : Int32)), iv (1 : Int32), .unset] [])) _
                  refine XS.iconst X0.here hx rfl (hb hby d3_67) ?_
                  show Steps p.tables e below (s₁.setTop (mkF m 68 #[iv u0, iv (u0 ||| (32 : Int32)), iv (1 : Int32), iv (u0 - (48 : Int32)), iv (1 : Int32), .unset] [(.int (0 : Int32))])) _
                  refine XS.istore X0.here hx rfl (hb hby d3_68) rfl (l' := #[iv u0, iv (u0 ||| (32 : Int32)), iv (1 : Int32), iv (u0 - (48 : Int32)), iv (1 : Int32), iv (0 : Int32)]) rfl ?_
                  show Steps p.tables e below (s₁.setTop (mkF m 70 #[iv u0, iv (u0 ||| (32 : Int32)), iv (1 : Int32), iv (u0 - (48 : Int32)), iv (1 : Int32), iv (0 : Int32)] [])) _
                  refine XS.iloadN X0.here hx rfl (hb hby d3_70) rfl ?_
                  show Steps p.tables e below (s₁.setTop (mkF m 71 #[iv u0, iv (u0 ||| (32 : Int32)), iv (1 : Int32), iv (u0 - (48 : Int32)), iv (1 : Int32), iv (0 : Int32)] [(.int (1 : Int32))])) _
                  refine XS.ifYes X0.here hx rfl (pc0 := 71) (pc' := 84) rfl (hb hby d3_71) rfl ((if0 _ _).trans (feq (by decide : ¬ ((1 : Int32) = (0 : Int32)))).2) (by decide) (by decide) ?_
                  show Steps p.tables e below (s₁.setTop (mkF m 84 #[iv u0, iv (u0 ||| (32 : Int32)), iv (1 : Int32), iv (u0 - (48 : Int32)), iv (1 : Int32), iv (0 : Int32)] [])) _
                  refine XS.iconst X0.here hx rfl (hb hby d3_84) ?_
                  show Steps p.tables e below (s₁.setTop (mkF m 85 #[iv u0, iv (u0 ||| (32 : Int32)), iv (1 : Int32), iv (u0 - (48 : Int32)), iv (1 : Int32), iv (0 : Int32)] [(.int (1 : Int32))])) _
                  refine XS.goto X0.here hx rfl (pc0 := 85) (pc' := 89) rfl (hb hby d3_85) (by decide) (by decide) ?_
                  show Steps p.tables e below (s₁.setTop (mkF m 89 #[iv u0, iv (u0 ||| (32 : Int32)), iv (1 : Int32), iv (u0 - (48 : Int32)), iv (1 : Int32), iv (0 : Int32)] [(.int (1 : Int32))])) _
                  exact retN X0 hx (t := .boolean) Bd.returns (by simp) (hb hby d3_89) hr
                · show Q3 Z u0 h0 n0 _ s₁.heap _
                  rw [e0]
                  exact ⟨(by unfold own_f3; rw [if_neg hc2, if_neg hc26, if_neg hc50, if_pos hc58, if_neg hc60, if_neg hc62, if_neg hc64]), N0, rfl⟩
        · skip
          have S65 : ∀ t, Steps p.tables e below (s₁.setTop (mkF m 48 #[iv u0, iv (u0 ||| (32 : Int32)), iv (1 : Int32), iv (u0 - (48 : Int32)), iv (0 : Int32), .unset] [(.int (95 : Int32)), (.int u0)])) t → Steps p.tables e below (s₁.setTop (entryFrame m #[(.int u0)] 6)) t := by
            intro t k
            refine S57 t ?_
            show Steps p.tables e below (s₁.setTop (mkF m 35 #[iv u0, iv (u0 ||| (32 : Int32)), iv (1 : Int32), iv (u0 - (48 : Int32)), .unset, .unset] [(.int (10 : Int32)), (.int (u0 - (48 : Int32)))])) _
            refine XS.icmpYes X0.here hx rfl (pc0 := 35) (pc' := 42) rfl (hb hby d3_35) rfl (flt hc58).2.1 (by decide) (by decide) ?_
            show Steps p.tables e below (s₁.setTop (mkF m 42 #[iv u0, iv (u0 ||| (32 : Int32)), iv (1 : Int32), iv (u0 - (48 : Int32)), .unset, .unset] [])) _
            refine XS.iconst X0.here hx rfl (hb hby d3_42) ?_
            show Steps p.tables e below (s₁.setTop (mkF m 43 #[iv u0, iv (u0 ||| (32 : Int32)), iv (1 : Int32), iv (u0 - (48 : Int32)), .unset, .unset] [(.int (0 : Int32))])) _
            refine XS.istore X0.here hx rfl (hb hby d3_43) rfl (l' := #[iv u0, iv (u0 ||| (32 : Int32)), iv (1 : Int32), iv (u0 - (48 : Int32)), iv (0 : Int32), .unset]) rfl ?_
            show Steps p.tables e below (s₁.setTop (mkF m 45 #[iv u0, iv (u0 ||| (32 : Int32)), iv (1 : Int32), iv (u0 - (48 : Int32)), iv (0 : Int32), .unset] [])) _
            refine XS.iloadN X0.here hx rfl (hb hby d3_45) rfl ?_
            show Steps p.tables e below (s₁.setTop (mkF m 46 #[iv u0, iv (u0 ||| (32 : Int32)), iv (1 : Int32), iv (u0 - (48 : Int32)), iv (0 : Int32), .unset] [(.int u0)])) _
            refine XS.bipush X0.here hx rfl (hb hby d3_46) ?_
            exact k
          by_cases hc66 : u0 = (95 : Int32)
          · skip
            obtain ⟨fs, hr, hrun, hended, hW, hsame⟩ := X0.leave (v := some (.int (1 : Int32))) (fun h => by rw [Bd.returns] at h; cases h)
            refine ⟨_, _, S65 _ ?_, hrun, hended, _, _, rfl, ?_, ⟨_, rfl⟩, hW, hsame.mono (by decide) (by decide)⟩
            · skip
              show Steps p.tables e below (s₁.setTop (mkF m 48 #[iv u0, iv (u0 ||| (32 : Int32)), iv (1 : Int32), iv (u0 - (48 : Int32)), iv (0 : Int32), .unset] [(.int (95 : Int32)), (.int u0)])) _
              refine XS.icmpYes X0.here hx rfl (pc0 := 48) (pc' := 63) rfl (hb hby d3_48) rfl (teq hc66).1 (by decide) (by decide) ?_
              show Steps p.tables e below (s₁.setTop (mkF m 63 #[iv u0, iv (u0 ||| (32 : Int32)), iv (1 : Int32), iv (u0 - (48 : Int32)), iv (0 : Int32), .unset] [])) _
              refine XS.iconst X0.here hx rfl (hb hby d3_63) ?_
              show Steps p.tables e below (s₁.setTop (mkF m 64 #[iv u0, iv (u0 ||| (32 : Int32)), iv (1 : Int32), iv (u0 - (48 : Int32)), iv (0 : Int32), .unset] [(.int (1 : Int32))])) _
              refine XS.goto X0.here hx rfl (pc0 := 64) (pc' := 68) rfl (hb hby d3_64) (by decide) (by decide) ?_
              show Steps p.tables e below (s₁.setTop (mkF m 68 #[iv u0, iv (u0 ||| (32 : Int32)), iv (1 : Int32), iv (u0 - (48 : Int32)), iv (0 : Int32), .unset] [(.int (1 : Int32))])) _
              refine XS.istore X0.here hx rfl (hb hby d3_68) rfl (l' := #[iv u0, iv (u0 ||| (32 : Int32)), iv (1 : Int32), iv (u0 - (48 : Int32)), iv (0 : Int32), iv (1 : Int32)]) rfl ?_
              show Steps p.tables e below (s₁.setTop (mkF m 70 #[iv u0, iv (u0 ||| (32 : Int32)), iv (1 : Int32), iv (u0 - (48 : Int32)), iv (0 : Int32), iv (1 : Int32)] [])) _
              refine XS.iloadN X0.here hx rfl (hb hby d3_70) rfl ?_
              show Steps p.tables e below (s₁.setTop (mkF m 71 #[iv u0, iv (u0 ||| (32 : Int32)), iv (1 : Int32), iv (u0 - (48 : Int32)), iv (0 : Int32), iv (1 : Int32)] [(.int (1 : Int32))])) _
              refine XS.ifYes X0.here hx rfl (pc0 := 71) (pc' := 84) rfl (hb hby d3_71) rfl ((if0 _ _).trans (feq (by decide : ¬ ((1 : Int32) = (0 : Int32)))).2) (by decide) (by decide) ?_
              show Steps p.tables e below (s₁.setTop (mkF m 84 #[iv u0, iv (u0 ||| (32 : Int32)), iv (1 : Int32), iv (u0 - (48 : Int32)), iv (0 : Int32), iv (1 : Int32)] [])) _
              refine XS.iconst X0.here hx rfl (hb hby d3_84) ?_
              show Steps p.tables e below (s₁.setTop (mkF m 85 #[iv u0, iv (u0 ||| (32 : Int32)), iv (1 : Int32), iv (u0 - (48 : Int32)), iv (0 : Int32), iv (1 : Int32)] [(.int (1 : Int32))])) _
              refine XS.goto X0.here hx rfl (pc0 := 85) (pc' := 89) rfl (hb hby d3_85) (by decide) (by decide) ?_
              show Steps p.tables e below (s₁.setTop (mkF m 89 #[iv u0, iv (u0 ||| (32 : Int32)), iv (1 : Int32), iv (u0 - (48 : Int32)), iv (0 : Int32), iv (1 : Int32)] [(.int (1 : Int32))])) _
              exact retN X0 hx (t := .boolean) Bd.returns (by simp) (hb hby d3_89) hr
            · show Q3 Z u0 h0 n0 _ s₁.heap _
              rw [e0]
              exact ⟨(by unfold own_f3; rw [if_neg hc2, if_neg hc26, if_neg hc50, if_neg hc58, if_pos hc66]), N0, rfl⟩
          · skip
            have S67 : ∀ t, Steps p.tables e below (s₁.setTop (mkF m 54 #[iv u0, iv (u0 ||| (32 : Int32)), iv (1 : Int32), iv (u0 - (48 : Int32)), iv (0 : Int32), .unset] [(.int (36 : Int32)), (.int u0)])) t → Steps p.tables e below (s₁.setTop (entryFrame m #[(.int u0)] 6)) t := by
              intro t k
              refine S65 t ?_
              show Steps p.tables e below (s₁.setTop (mkF m 48 #[iv u0, iv (u0 ||| (32 : Int32)), iv (1 : Int32), iv (u0 - (48 : Int32)), iv (0 : Int32), .unset] [(.int (95 : Int32)), (.int u0)])) _
              refine XS.icmpNo X0.here hx rfl (hb hby d3_48) rfl (feq hc66).1 ?_
              show Steps p.tables e below (s₁.setTop (mkF m 51 #[iv u0, iv (u0 ||| (32 : Int32)), iv (1 : Int32), iv (u0 - (48 : Int32)), iv (0 : Int32), .unset] [])) _
              refine XS.iloadN X0.here hx rfl (hb hby d3_51) rfl ?_
              show Steps p.tables e below (s₁.setTop (mkF m 52 #[iv u0, iv (u0 ||| (32 : Int32)), iv (1 : Int32), iv (u0 - (48 : Int32)), iv (0 : Int32), .unset] [(.int u0)])) _
              refine XS.bipush X0.here hx rfl (hb hby d3_52) ?_
              exact k
            by_cases hc68 : u0 = (36 : Int32)
            · skip
              obtain ⟨fs, hr, hrun, hended, hW, hsame⟩ := X0.leave (v := some (.int (1 : Int32))) (fun h => by rw [Bd.returns] at h; cases h)
              refine ⟨_, _, S67 _ ?_, hrun, hended, _, _, rfl, ?_, ⟨_, rfl⟩, hW, hsame.mono (by decide) (by decide)⟩
              · skip
                show Steps p.tables e below (s₁.setTop (mkF m 54 #[iv u0, iv (u0 ||| (32 : Int32)), iv (1 : Int32), iv (u0 - (48 : Int32)), iv (0 : Int32), .unset] [(.int (36 : Int32)), (.int u0)])) _
                refine XS.icmpYes X0.here hx rfl (pc0 := 54) (pc' := 63) rfl (hb hby d3_54) rfl (teq hc68).1 (by decide) (by decide) ?_
                show Steps p.tables e below (s₁.setTop (mkF m 63 #[iv u0, iv (u0 ||| (32 : Int32)), iv (1 : Int32), iv (u0 - (48 : Int32)), iv (0 : Int32), .unset] [])) _
                refine XS.iconst X0.here hx rfl (hb hby d3_63) ?_
                show Steps p.tables e below (s₁.setTop (mkF m 64 #[iv u0, iv (u0 ||| (32 : Int32)), iv (1 : Int32), iv (u0 - (48 : Int32)), iv (0 : Int32), .unset] [(.int (1 : Int32))])) _
                refine XS.goto X0.here hx rfl (pc0 := 64) (pc' := 68) rfl (hb hby d3_64) (by decide) (by decide) ?_
                show Steps p.tables e below (s₁.setTop (mkF m 68 #[iv u0, iv (u0 ||| (32 : Int32)), iv (1 : Int32), iv (u0 - (48 : Int32)), iv (0 : Int32), .unset] [(.int (1 : Int32))])) _
                refine XS.istore X0.here hx rfl (hb hby d3_68) rfl (l' := #[iv u0, iv (u0 ||| (32 : Int32)), iv (1 : Int32), iv (u0 - (48 : Int32)), iv (0 : Int32), iv (1 : Int32)]) rfl ?_
                show Steps p.tables e below (s₁.setTop (mkF m 70 #[iv u0, iv (u0 ||| (32 : Int32)), iv (1 : Int32), iv (u0 - (48 : Int32)), iv (0 : Int32), iv (1 : Int32)] [])) _
                refine XS.iloadN X0.here hx rfl (hb hby d3_70) rfl ?_
                show Steps p.tables e below (s₁.setTop (mkF m 71 #[iv u0, iv (u0 ||| (32 : Int32)), iv (1 : Int32), iv (u0 - (48 : Int32)), iv (0 : Int32), iv (1 : Int32)] [(.int (1 : Int32))])) _
                refine XS.ifYes X0.here hx rfl (pc0 := 71) (pc' := 84) rfl (hb hby d3_71) rfl ((if0 _ _).trans (feq (by decide : ¬ ((1 : Int32) = (0 : Int32)))).2) (by decide) (by decide) ?_
                show Steps p.tables e below (s₁.setTop (mkF m 84 #[iv u0, iv (u0 ||| (32 : Int32)), iv (1 : Int32), iv (u0 - (48 : Int32)), iv (0 : Int32), iv (1 : Int32)] [])) _
                refine XS.iconst X0.here hx rfl (hb hby d3_84) ?_
                show Steps p.tables e below (s₁.setTop (mkF m 85 #[iv u0, iv (u0 ||| (32 : Int32)), iv (1 : Int32), iv (u0 - (48 : Int32)), iv (0 : Int32), iv (1 : Int32)] [(.int (1 : Int32))])) _
                refine XS.goto X0.here hx rfl (pc0 := 85) (pc' := 89) rfl (hb hby d3_85) (by decide) (by decide) ?_
                show Steps p.tables e below (s₁.setTop (mkF m 89 #[iv u0, iv (u0 ||| (32 : Int32)), iv (1 : Int32), iv (u0 - (48 : Int32)), iv (0 : Int32), iv (1 : Int32)] [(.int (1 : Int32))])) _
                exact retN X0 hx (t := .boolean) Bd.returns (by simp) (hb hby d3_89) hr
              · show Q3 Z u0 h0 n0 _ s₁.heap _
                rw [e0]
                exact ⟨(by unfold own_f3; rw [if_neg hc2, if_neg hc26, if_neg hc50, if_neg hc58, if_neg hc66, if_pos hc68]), N0, rfl⟩
            · skip
              have S69 : ∀ t, Steps p.tables e below (s₁.setTop (mkF m 60 #[iv u0, iv (u0 ||| (32 : Int32)), iv (1 : Int32), iv (u0 - (48 : Int32)), iv (0 : Int32), .unset] [(.int (35 : Int32)), (.int u0)])) t → Steps p.tables e below (s₁.setTop (entryFrame m #[(.int u0)] 6)) t := by
                intro t k
                refine S67 t ?_
                show Steps p.tables e below (s₁.setTop (mkF m 54 #[iv u0, iv (u0 ||| (32 : Int32)), iv (1 : Int32), iv (u0 - (48 : Int32)), iv (0 : Int32), .unset] [(.int (36 : Int32)), (.int u0)])) _
                refine XS.icmpNo X0.here hx rfl (hb hby d3_54) rfl (feq hc68).1 ?_
                show Steps p.tables e below (s₁.setTop (mkF m 57 #[iv u0, iv (u0 ||| (32 : Int32)), iv (1 : Int32), iv (u0 - (48 : Int32)), iv (0 : Int32), .unset] [])) _
                refine XS.iloadN X0.here hx rfl (hb hby d3_57) rfl ?_
                show Steps p.tables e below (s₁.setTop (mkF m 58 #[iv u0, iv (u0 ||| (32 : Int32)), iv (1 : Int32), iv (u0 - (48 : Int32)), iv (0 : Int32), .unset] [(.int u0)])) _
                refine XS.bipush X0.here hx rfl (hb hby d3_58) ?_
                exact k
              by_cases hc70 : u0 = (35 : Int32)
              · skip
                obtain ⟨fs, hr, hrun, hended, hW, hsame⟩ := X0.leave (v := some (.int (1 : Int32))) (fun h => by rw [Bd.returns] at h; cases h)
                refine ⟨_, _, S69 _ ?_, hrun, hended, _, _, rfl, ?_, ⟨_, rfl⟩, hW, hsame.mono (by decide) (by decide)⟩
                · skip
                  show Steps p.tables e below (s₁.setTop (mkF m 60 #[iv u0, iv (u0 ||| (32 : Int32)), iv (1 : Int32), iv (u0 - (48 : Int32)), iv (0 : Int32), .unset] [(.int (35 : Int32)), (.int u0)])) _
                  refine XS.icmpNo X0.here hx rfl (hb hby d3_60) rfl (teq hc70).2 ?_
                  show Steps p.tables e below (s₁.setTop (mkF m 63 #[iv u0, iv (u0 ||| (32 : Int32)), iv (1 : Int32), iv (u0 - (48 : Int32)), iv (0 : Int32), .unset] [])) _
                  refine XS.iconst X0.here hx rfl (hb hby d3_63) ?_
                  show Steps p.tables e below (s₁.setTop (mkF m 64 #[iv u0, iv (u0 ||| (32 : Int32)), iv (1 : Int32), iv (u0 - (48 : Int32)), iv (0 : Int32), .unset] [(.int (1 : Int32))])) _
                  refine XS.goto X0.here hx rfl (pc0 := 64) (pc' := 68) rfl (hb hby d3_64) (by decide) (by decide) ?_
                  show Steps p.tables e below (s₁.setTop (mkF m 68 #[iv u0, iv (u0 ||| (32 : Int32)), iv (1 : Int32), iv (u0 - (48 : Int32)), iv (0 : Int32), .unset] [(.int (1 : Int32))])) _
                  refine XS.istore X0.here hx rfl (hb hby d3_68) rfl (l' := #[iv u0, iv (u0 ||| (32 : Int32)), iv (1 : Int32), iv (u0 - (48 : Int32)), iv (0 : Int32), iv (1 : Int32)]) rfl ?_
                  show Steps p.tables e below (s₁.setTop (mkF m 70 #[iv u0, iv (u0 ||| (32 : Int32)), iv (1 : Int32), iv (u0 - (48 : Int32)), iv (0 : Int32), iv (1 : Int32)] [])) _
                  refine XS.iloadN X0.here hx rfl (hb hby d3_70) rfl ?_
                  show Steps p.tables e below (s₁.setTop (mkF m 71 #[iv u0, iv (u0 ||| (32 : Int32)), iv (1 : Int32), iv (u0 - (48 : Int32)), iv (0 : Int32), iv (1 : Int32)] [(.int (1 : Int32))])) _
                  refine XS.ifYes X0.here hx rfl (pc0 := 71) (pc' := 84) rfl (hb hby d3_71) rfl ((if0 _ _).trans (feq (by decide : ¬ ((1 : Int32) = (0 : Int32)))).2) (by decide) (by decide) ?_
                  show Steps p.tables e below (s₁.setTop (mkF m 84 #[iv u0, iv (u0 ||| (32 : Int32)), iv (1 : Int32), iv (u0 - (48 : Int32)), iv (0 : Int32), iv (1 : Int32)] [])) _
                  refine XS.iconst X0.here hx rfl (hb hby d3_84) ?_
                  show Steps p.tables e below (s₁.setTop (mkF m 85 #[iv u0, iv (u0 ||| (32 : Int32)), iv (1 : Int32), iv (u0 - (48 : Int32)), iv (0 : Int32), iv (1 : Int32)] [(.int (1 : Int32))])) _
                  refine XS.goto X0.here hx rfl (pc0 := 85) (pc' := 89) rfl (hb hby d3_85) (by decide) (by decide) ?_
                  show Steps p.tables e below (s₁.setTop (mkF m 89 #[iv u0, iv (u0 ||| (32 : Int32)), iv (1 : Int32), iv (u0 - (48 : Int32)), iv (0 : Int32), iv (1 : Int32)] [(.int (1 : Int32))])) _
                  exact retN X0 hx (t := .boolean) Bd.returns (by simp) (hb hby d3_89) hr
                · show Q3 Z u0 h0 n0 _ s₁.heap _
                  rw [e0]
                  exact ⟨(by unfold own_f3; rw [if_neg hc2, if_neg hc26, if_neg hc50, if_neg hc58, if_neg hc66, if_neg hc68, if_pos hc70]), N0, rfl⟩
              · skip
                obtain ⟨fs, hr, hrun, hended, hW, hsame⟩ := X0.leave (v := some (.int (1 : Int32))) (fun h => by rw [Bd.returns] at h; cases h)
                refine ⟨_, _, S69 _ ?_, hrun, hended, _, _, rfl, ?_, ⟨_, rfl⟩, hW, hsame.mono (by decide) (by decide)⟩
                · skip
                  show Steps p.tables e below (s₁.setTop (mkF m 60 #[iv u0, iv (u0 ||| (32 : Int32)), iv (1 : Int32), iv (u0 - (48 : Int32)), iv (0 : Int32), .unset] [(.int (35 : Int32)), (.int u0)])) _
                  refine XS.icmpYes X0.here hx rfl (pc0 := 60) (pc' := 67) rfl (hb hby d3_60) rfl (feq hc70).2 (by decide) (by decide) ?_
                  show Steps p.tables e below (s₁.setTop (mkF m 67 #[iv u0, iv (u0 ||| (32 : Int32)), iv (1 : Int32), iv (u0 - (48 : Int32)), iv (0 : Int32), .unset] [])) _
                  refine XS.iconst X0.here hx rfl (hb hby d3_67) ?_
                  show Steps p.tables e below (s₁.setTop (mkF m 68 #[iv u0, iv (u0 ||| (32 : Int32)), iv (1 : Int32), iv (u0 - (48 : Int32)), iv (0 : Int32), .unset] [(.int (0 : Int32))])) _
                  refine XS.istore X0.here hx rfl (hb hby d3_68) rfl (l' := #[iv u0, iv (u0 ||| (32 : Int32)), iv (1 : Int32), iv (u0 - (48 : Int32)), iv (0 : Int32), iv (0 : Int32)]) rfl ?_
                  show Steps p.tables e below (s₁.setTop (mkF m 70 #[iv u0, iv (u0 ||| (32 : Int32)), iv (1 : Int32), iv (u0 - (48 : Int32)), iv (0 : Int32), iv (0 : Int32)] [])) _
                  refine XS.iloadN X0.here hx rfl (hb hby d3_70) rfl ?_
                  show Steps p.tables e below (s₁.setTop (mkF m 71 #[iv u0, iv (u0 ||| (32 : Int32)), iv (1 : Int32), iv (u0 - (48 : Int32)), iv (0 : Int32), iv (0 : Int32)] [(.int (1 : Int32))])) _
                  refine XS.ifYes X0.here hx rfl (pc0 := 71) (pc' := 84) rfl (hb hby d3_71) rfl ((if0 _ _).trans (feq (by decide : ¬ ((1 : Int32) = (0 : Int32)))).2) (by decide) (by decide) ?_
                  show Steps p.tables e below (s₁.setTop (mkF m 84 #[iv u0, iv (u0 ||| (32 : Int32)), iv (1 : Int32), iv (u0 - (48 : Int32)), iv (0 : Int32), iv (0 : Int32)] [])) _
                  refine XS.iconst X0.here hx rfl (hb hby d3_84) ?_
                  show Steps p.tables e below (s₁.setTop (mkF m 85 #[iv u0, iv (u0 ||| (32 : Int32)), iv (1 : Int32), iv (u0 - (48 : Int32)), iv (0 : Int32), iv (0 : Int32)] [(.int (1 : Int32))])) _
                  refine XS.goto X0.here hx rfl (pc0 := 85) (pc' := 89) rfl (hb hby d3_85) (by decide) (by decide) ?_
                  show Steps p.tables e below (s₁.setTop (mkF m 89 #[iv u0, iv (u0 ||| (32 : Int32)), iv (1 : Int32), iv (u0 - (48 : Int32)), iv (0 : Int32), iv (0 : Int32)] [(.int (1 : Int32))])) _
                  exact retN X0 hx (t := .boolean) Bd.returns (by simp) (hb hby d3_89) hr
                · show Q3 Z u0 h0 n0 _ s₁.heap _
                  rw [e0]
                  exact ⟨(by unfold own_f3; rw [if_neg hc2, if_neg hc26, if_neg hc50, if_neg hc58, if_neg hc66, if_neg hc68, if_neg hc70]), N0, rfl⟩
theorem own_nor32 (n : Nat) : n ||| 32 = if n % 64 < 32 then n + 32 else n := by
  have h1 : (n ||| 32) / 2^6 = n / 2^6 := by rw [Nat.or_div_two_pow]; simp
  have h2 : (n ||| 32) % 2^6 = (n % 2^6) ||| 32 := by rw [Nat.or_mod_two_pow]
  have h3 : ∀ r : Fin 64, (r.val ||| 32) = if r.val < 32 then r.val + 32 else r.val := by decide
  have h4 := h3 ⟨n % 64, Nat.mod_lt _ (by decide)⟩
  simp only at h4
  simp only [Nat.reducePow] at h1 h2
  rw [h4] at h2
  have := Nat.div_add_mod (n ||| 32) 64
  have := Nat.div_add_mod n 64
  split at h2 <;> split <;> omega
theorem own_or32 (c : Int32) : (c ||| 32).toInt = if c.toInt % 64 < 32 then c.toInt + 32 else c.toInt := by
  have e : (c ||| 32).toBitVec.toNat = c.toBitVec.toNat ||| 32 := by
    simp
  rw [own_nor32] at e
  have hc : c.toInt = c.toBitVec.toInt := rfl
  have hd : (c ||| 32).toInt = (c ||| 32).toBitVec.toInt := rfl
  rw [hd, hc, BitVec.toInt_eq_toNat_cond, BitVec.toInt_eq_toNat_cond, e]
  have := c.toBitVec.isLt
  repeat' split
  all_goals omega

theorem own_nand16 (n : Nat) : n &&& 65535 = n % 65536 := Nat.and_two_pow_sub_one_eq_mod n 16
theorem own_i2c (x : Int32) : (x &&& (65535 : Int32)).toUInt32.toUInt16.toUInt32.toInt32 = x &&& (65535 : Int32) := by
  apply Int32.toBitVec_inj.mp
  apply BitVec.eq_of_toNat_eq
  simp
  simp only [own_nand16]
  omega
theorem own_and16 (x : Int32) : (x &&& (65535 : Int32)).toInt = x.toInt % 65536 := by
  have e : (x &&& 65535).toBitVec.toNat = x.toBitVec.toNat % 65536 := by
    simp [own_nand16]
  have hc : x.toInt = x.toBitVec.toInt := rfl
  have hd : (x &&& 65535).toInt = (x &&& 65535).toBitVec.toInt := rfl
  rw [hd, hc, BitVec.toInt_eq_toNat_cond, BitVec.toInt_eq_toNat_cond, e]
  have := x.toBitVec.isLt
  repeat' split
  all_goals omega

theorem own_s (c : Int32) : own_f1 c = if (97 ≤ c.toInt ∧ c.toInt ≤ 122) ∨ (65 ≤ c.toInt ∧ c.toInt ≤ 90) then 1 else 0 := by
  unfold own_f1
  simp only [Int32.lt_iff_toInt_lt, ← Int32.toInt_inj, Int32.reduceToInt]
  repeat' split
  all_goals first | rfl | omega
theorem own_p (c : Int32) : own_f2 c = if (97 ≤ c.toInt ∧ c.toInt ≤ 122) ∨ (65 ≤ c.toInt ∧ c.toInt ≤ 90) ∨ (48 ≤ c.toInt ∧ c.toInt ≤ 57) ∨ c.toInt = 95 ∨ c.toInt = 36 ∨ c.toInt = 35 then 1 else 0 := by
  unfold own_f2
  rw [own_s]
  simp only [Int32.lt_iff_toInt_lt, ← Int32.toInt_inj, Int32.reduceToInt]
  repeat' split
  all_goals first | rfl | omega | (exfalso; simp_all; done) | (exfalso; simp_all; omega)
set_option maxHeartbeats 4000000 in
theorem own_plain (x : Int32) : own_f2 ((x &&& (65535 : Int32)).toUInt32.toUInt16.toUInt32.toInt32) = own_f3 (x &&& (65535 : Int32)) := by
  rw [own_i2c, own_p]
  have h := own_and16 x
  have q := own_or32 (x &&& (65535 : Int32))
  generalize (x &&& (65535 : Int32)) = c at *
  have h1 : 0 ≤ c.toInt := by omega
  have h2 : c.toInt < 65536 := by omega
  have e : (c - (48 : Int32)).toInt = c.toInt - 48 := (Int32.toInt_sub c 48).trans (by simp only [Int32.reduceToInt]; exact Int.bmod_eq_of_le (by omega) (by omega))
  unfold own_f3
  simp only [Int32.lt_iff_toInt_lt, ← Int32.toInt_inj, Int32.reduceToInt, q, e]
  repeat' split
  all_goals first | rfl | omega
theorem own_start (c : Int32) (h : ¬ own_f1 c = 0) : ¬ own_f2 c = 0 := by
  rw [own_s] at h; rw [own_p]
  split at h
  · split
    · decide
    · omega
  · exact absurd rfl h
theorem pd_1 : parseMethodDescriptor "(I)Z" = some ⟨[.int], some .boolean⟩ := by decide +kernel
def Q0 (Z : State) (x0 : Int32)  (h0 : Heap) (n0 : Nat) (v : Option Value) (h : Heap) (L : List Loc) : Prop := v = some (.int 1) ∧ Fr n0 L
theorem ef_rm0 (m : MethodId) (x0 : Int32) : entryFrame m #[(.int x0)] maxLocals = mkF m 0 #[iv x0, .unset, .unset, .unset] [] := by first | (simp [entryFrame, mkF, argsToLocals, Value.category, maxLocals]; done) | rfl
set_option maxRecDepth 65536 in
set_option maxHeartbeats 40000000 in
theorem rm0 (l : Launch) (Z : State) (a0 : Array Value) (hw : ∀ d ∈ tables_1, d.before a0 Z = true) (ws : List Jvm.Cond) (x0 : Int32)  (h0 : Heap) (n0 : Nat) (Z0 : n0 ≤ h0.size) :
    MetFree l x (head1 (Jvm.Cond.code x code maxLocals ret :: ws) room_1) (fun a U => a = #[(.int x0)] ∧ Z.Warmed39 U.vm ∧ U.heap = h0) (fun _ _ _ _ _ => True) (fun _ U o U' => ∃ v L, o = .returned v ∧ Q0 Z x0 h0 n0 v U'.heap L ∧ FrameEnd U o U' L room_1.cells room_1.slots) := by
  refine MetFree.of_bodySF (plainFor_of_name pn_1) hisR ?_
  intro p e s m args below meth c s₁ Bd hml0 hP hK
  obtain ⟨rfl, hZ, hh⟩ := hP
  have hx := Bd.exec
  have hby := Bd.bytes
  have hml : c.maxLocals = 4 := hml0
  have hown : s.vm.findClass "com/example/kilit/kilit/sql/IdentifierIsPartPinLaw" = some m.cls := findClass_of_methodNamed Bd.named
  have hnm := (name_of_methodNamed Bd.named Bd.method).1
  have X0 : Stand p l e room_1 s m #[(.int x0)] below meth c s₁ [] 0 0 := Stand.of_body Bd
  have e0 : s₁.heap = h0 := by rw [← hh, Bd.state]; rfl
  have N0 := Fr.nil n0
  have S0 : ∀ t, Steps p.tables e below (s₁.setTop (mkF m 0 #[iv x0, .unset, .unset, .unset] [])) t → Steps p.tables e below (s₁.setTop (entryFrame m #[(.int x0)] maxLocals)) t := fun t k => castTop (ef_rm0 m x0) k
  obtain ⟨_, _, ⟨T1, L1, k1, n1⟩, -, X1, ⟨Lc1, hQ1, l1, y1, z1⟩, st1⟩ := Jvm.LawKit.callS X0 hx (y := (⟨"com/example/kilit/kilit/sql/Identifier", "isPart", "(C)Z"⟩ : MethodName)) hown (mvT hZ (hw _ (List.mem_of_getElem? (i := 1) rfl))) (mvT hZ (hw _ (List.mem_of_getElem? (i := 2) rfl))) (mvT hZ (hw _ (List.mem_of_getElem? (i := 3) rfl))) (mvT hZ (hw _ (List.mem_of_getElem? (i := 4) rfl))) (by decide) (backOf (W := 0) (rm1 l Z a0 hw [] ((x0 &&& (65535 : Int32)).toUInt32.toUInt16.toUInt32.toInt32) h0 n0 Z0) hZ (hw _ (List.mem_of_getElem? (i := 4) rfl)) (hw _ (List.mem_of_getElem? (i := 3) rfl)) (by decide) (by decide)) (g := (mkF m 9 #[iv x0, iv (x0 &&& (65535 : Int32)), iv ((x0 &&& (65535 : Int32)).toUInt32.toUInt16.toUInt32.toInt32), .unset] [(.int ((x0 &&& (65535 : Int32)).toUInt32.toUInt16.toUInt32.toInt32))])) rfl (by rw [hml]; rfl) (argsL := [(.int ((x0 &&& (65535 : Int32)).toUInt32.toUInt16.toUInt32.toInt32))]) (rest := []) (lenOf pd_0 rfl) rfl (by show 2 * 0 + _ ≤ _; exact Nat.le_of_eq rfl) (hb hby at_9) (fun _ _ => ⟨rfl, e0, (by decide : 0 + 0 ≤ _), (by decide : 0 + 0 ≤ _)⟩)
  dsimp only [Pt.U, Pt.locs, Pt.cells, Pt.slots] at X1 l1 y1 z1 st1 hQ1
  subst l1 y1 z1
  obtain ⟨rfl, Nq1, eq1⟩ := hQ1
  have N1 := Fr.app N0 Nq1
  obtain ⟨_, _, ⟨T2, L2, k2, n2⟩, -, X2, ⟨Lc2, hQ2, l2, y2, z2⟩, st2⟩ := Jvm.LawKit.callS X1 hx (y := (⟨"com/example/kilit/kilit/sql/IdentifierIsPartPinLaw", "expected", "(I)Z"⟩ : MethodName)) hown (mvT hZ (hw _ (List.mem_of_getElem? (i := 8) rfl))) (mvT hZ (hw _ (List.mem_of_getElem? (i := 9) rfl))) (mvT hZ (hw _ (List.mem_of_getElem? (i := 10) rfl))) (mvT hZ (hw _ (List.mem_of_getElem? (i := 11) rfl))) (by decide) (backOf (W := 1) (rm3 l Z a0 hw [] (x0 &&& (65535 : Int32)) h0 n0 Z0) hZ (hw _ (List.mem_of_getElem? (i := 11) rfl)) (hw _ (List.mem_of_getElem? (i := 10) rfl)) (by decide) (by decide)) (g := (mkF m 15 #[iv x0, iv (x0 &&& (65535 : Int32)), iv ((x0 &&& (65535 : Int32)).toUInt32.toUInt16.toUInt32.toInt32), iv (own_f2 ((x0 &&& (65535 : Int32)).toUInt32.toUInt16.toUInt32.toInt32))] [(.int (x0 &&& (65535 : Int32))), (.int (own_f2 ((x0 &&& (65535 : Int32)).toUInt32.toUInt16.toUInt32.toInt32)))])) rfl (by rw [hml]; rfl) (argsL := [(.int (x0 &&& (65535 : Int32)))]) (rest := [(.int (own_f2 ((x0 &&& (65535 : Int32)).toUInt32.toUInt16.toUInt32.toInt32)))]) (lenOf pd_1 rfl) rfl (by show 2 * 0 + _ ≤ _; exact Nat.le_of_eq rfl) (hb hby at_15) (fun _ _ => ⟨rfl, eq1, (by decide : 0 + 0 ≤ _), (by decide : 0 + 0 ≤ _)⟩)
  dsimp only [Pt.U, Pt.locs, Pt.cells, Pt.slots] at X2 l2 y2 z2 st2 hQ2
  subst l2 y2 z2
  obtain ⟨rfl, Nq2, eq2⟩ := hQ2
  have N2 := Fr.app N1 Nq2
  obtain ⟨_, _, ⟨T3, L3, k3, n3⟩, -, X3, ⟨Lc3, hQ3, l3, y3, z3⟩, st3⟩ := Jvm.LawKit.callS X2 hx (y := (⟨"com/example/kilit/kilit/sql/Identifier", "isStart", "(C)Z"⟩ : MethodName)) hown (mvT hZ (hw _ (List.mem_of_getElem? (i := 12) rfl))) (mvT hZ (hw _ (List.mem_of_getElem? (i := 6) rfl))) (mvT hZ (hw _ (List.mem_of_getElem? (i := 3) rfl))) (mvT hZ (hw _ (List.mem_of_getElem? (i := 7) rfl))) (by decide) (backOf (W := 0) (rm2 l Z a0 hw [] ((x0 &&& (65535 : Int32)).toUInt32.toUInt16.toUInt32.toInt32) h0 n0 Z0) hZ (hw _ (List.mem_of_getElem? (i := 7) rfl)) (hw _ (List.mem_of_getElem? (i := 3) rfl)) (by decide) (by decide)) (g := (mkF m 24 #[iv x0, iv (x0 &&& (65535 : Int32)), iv ((x0 &&& (65535 : Int32)).toUInt32.toUInt16.toUInt32.toInt32), iv (own_f2 ((x0 &&& (65535 : Int32)).toUInt32.toUInt16.toUInt32.toInt32))] [(.int ((x0 &&& (65535 : Int32)).toUInt32.toUInt16.toUInt32.toInt32))])) rfl (by rw [hml]; rfl) (argsL := [(.int ((x0 &&& (65535 : Int32)).toUInt32.toUInt16.toUInt32.toInt32))]) (rest := []) (lenOf pd_0 rfl) rfl (by show 2 * 0 + _ ≤ _; exact Nat.le_of_eq rfl) (hb hby at_24) (fun _ _ => ⟨rfl, eq2, (by decide : 0 + 0 ≤ _), (by decide : 0 + 0 ≤ _)⟩)
  dsimp only [Pt.U, Pt.locs, Pt.cells, Pt.slots] at X3 l3 y3 z3 st3 hQ3
  subst l3 y3 z3
  obtain ⟨rfl, Nq3, eq3⟩ := hQ3
  have N3 := Fr.app N2 Nq3
  have S4 : ∀ t, Steps p.tables e below (T3.setTop (mkF m 27 #[iv x0, iv (x0 &&& (65535 : Int32)), iv ((x0 &&& (65535 : Int32)).toUInt32.toUInt16.toUInt32.toInt32), iv (own_f2 ((x0 &&& (65535 : Int32)).toUInt32.toUInt16.toUInt32.toInt32))] [(.int (own_f1 ((x0 &&& (65535 : Int32)).toUInt32.toUInt16.toUInt32.toInt32)))])) t → Steps p.tables e below (s₁.setTop (entryFrame m #[(.int x0)] maxLocals)) t := by
    intro t k
    refine S0 t ?_
    show Steps p.tables e below (s₁.setTop (mkF m 0 #[iv x0, .unset, .unset, .unset] [])) _
    refine XS.iloadN X0.here hx rfl (hb hby at_0) rfl ?_
    show Steps p.tables e below (s₁.setTop (mkF m 1 #[iv x0, .unset, .unset, .unset] [(.int x0)])) _
    refine X0.ldcInt hx hown (mvT hZ (hw _ (List.mem_of_getElem? (i := 0) rfl))) (g := (mkF m 1 #[iv x0, .unset, .unset, .unset] [(.int x0)])) rfl (hb hby at_1) _ ?_
    show Steps p.tables e below (s₁.setTop (mkF m 3 #[iv x0, .unset, .unset, .unset] [(.int (65535 : Int32)), (.int x0)])) _
    refine XS.iand X0.here hx rfl (hb hby at_3) rfl ?_
    show Steps p.tables e below (s₁.setTop (mkF m 4 #[iv x0, .unset, .unset, .unset] [(.int (x0 &&& (65535 : Int32)))])) _
    refine XS.istoreN X0.here hx rfl (hb hby at_4) rfl (l' := #[iv x0, iv (x0 &&& (65535 : Int32)), .unset, .unset]) rfl ?_
    show Steps p.tables e below (s₁.setTop (mkF m 5 #[iv x0, iv (x0 &&& (65535 : Int32)), .unset, .unset] [])) _
    refine XS.iloadN X0.here hx rfl (hb hby at_5) rfl ?_
    show Steps p.tables e below (s₁.setTop (mkF m 6 #[iv x0, iv (x0 &&& (65535 : Int32)), .unset, .unset] [(.int (x0 &&& (65535 : Int32)))])) _
    refine XS.i2c X0.here hx rfl (hb hby at_6) rfl ?_
    show Steps p.tables e below (s₁.setTop (mkF m 7 #[iv x0, iv (x0 &&& (65535 : Int32)), .unset, .unset] [(.int ((x0 &&& (65535 : Int32)).toUInt32.toUInt16.toUInt32.toInt32))])) _
    refine XS.istoreN X0.here hx rfl (hb hby at_7) rfl (l' := #[iv x0, iv (x0 &&& (65535 : Int32)), iv ((x0 &&& (65535 : Int32)).toUInt32.toUInt16.toUInt32.toInt32), .unset]) rfl ?_
    show Steps p.tables e below (s₁.setTop (mkF m 8 #[iv x0, iv (x0 &&& (65535 : Int32)), iv ((x0 &&& (65535 : Int32)).toUInt32.toUInt16.toUInt32.toInt32), .unset] [])) _
    refine XS.iloadN X0.here hx rfl (hb hby at_8) rfl ?_
    show Steps p.tables e below (s₁.setTop (mkF m 9 #[iv x0, iv (x0 &&& (65535 : Int32)), iv ((x0 &&& (65535 : Int32)).toUInt32.toUInt16.toUInt32.toInt32), .unset] [(.int ((x0 &&& (65535 : Int32)).toUInt32.toUInt16.toUInt32.toInt32))])) _
    refine st1 _ ?_
    show Steps p.tables e below (T1.setTop (mkF m 12 #[iv x0, iv (x0 &&& (65535 : Int32)), iv ((x0 &&& (65535 : Int32)).toUInt32.toUInt16.toUInt32.toInt32), .unset] [(.int (own_f2 ((x0 &&& (65535 : Int32)).toUInt32.toUInt16.toUInt32.toInt32)))])) _
    refine XS.istoreN X1.here hx rfl (hb hby at_12) rfl (l' := #[iv x0, iv (x0 &&& (65535 : Int32)), iv ((x0 &&& (65535 : Int32)).toUInt32.toUInt16.toUInt32.toInt32), iv (own_f2 ((x0 &&& (65535 : Int32)).toUInt32.toUInt16.toUInt32.toInt32))]) rfl ?_
    show Steps p.tables e below (T1.setTop (mkF m 13 #[iv x0, iv (x0 &&& (65535 : Int32)), iv ((x0 &&& (65535 : Int32)).toUInt32.toUInt16.toUInt32.toInt32), iv (own_f2 ((x0 &&& (65535 : Int32)).toUInt32.toUInt16.toUInt32.toInt32))] [])) _
    refine XS.iloadN X1.here hx rfl (hb hby at_13) rfl ?_
    show Steps p.tables e below (T1.setTop (mkF m 14 #[iv x0, iv (x0 &&& (65535 : Int32)), iv ((x0 &&& (65535 : Int32)).toUInt32.toUInt16.toUInt32.toInt32), iv (own_f2 ((x0 &&& (65535 : Int32)).toUInt32.toUInt16.toUInt32.toInt32))] [(.int (own_f2 ((x0 &&& (65535 : Int32)).toUInt32.toUInt16.toUInt32.toInt32)))])) _
    refine XS.iloadN X1.here hx rfl (hb hby at_14) rfl ?_
    show Steps p.tables e below (T1.setTop (mkF m 15 #[iv x0, iv (x0 &&& (65535 : Int32)), iv ((x0 &&& (65535 : Int32)).toUInt32.toUInt16.toUInt32.toInt32), iv (own_f2 ((x0 &&& (65535 : Int32)).toUInt32.toUInt16.toUInt32.toInt32))] [(.int (x0 &&& (65535 : Int32))), (.int (own_f2 ((x0 &&& (65535 : Int32)).toUInt32.toUInt16.toUInt32.toInt32)))])) _
    refine st2 _ ?_
    show Steps p.tables e below (T2.setTop (mkF m 18 #[iv x0, iv (x0 &&& (65535 : Int32)), iv ((x0 &&& (65535 : Int32)).toUInt32.toUInt16.toUInt32.toInt32), iv (own_f2 ((x0 &&& (65535 : Int32)).toUInt32.toUInt16.toUInt32.toInt32))] [(.int (own_f3 (x0 &&& (65535 : Int32)))), (.int (own_f2 ((x0 &&& (65535 : Int32)).toUInt32.toUInt16.toUInt32.toInt32)))])) _
    refine XS.icmpYes X2.here hx rfl (pc0 := 18) (pc' := 23) rfl (hb hby at_18) rfl (teq (own_plain _)).1 (by decide) (by decide) ?_
    show Steps p.tables e below (T2.setTop (mkF m 23 #[iv x0, iv (x0 &&& (65535 : Int32)), iv ((x0 &&& (65535 : Int32)).toUInt32.toUInt16.toUInt32.toInt32), iv (own_f2 ((x0 &&& (65535 : Int32)).toUInt32.toUInt16.toUInt32.toInt32))] [])) _
    refine XS.iloadN X2.here hx rfl (hb hby at_23) rfl ?_
    show Steps p.tables e below (T2.setTop (mkF m 24 #[iv x0, iv (x0 &&& (65535 : Int32)), iv ((x0 &&& (65535 : Int32)).toUInt32.toUInt16.toUInt32.toInt32), iv (own_f2 ((x0 &&& (65535 : Int32)).toUInt32.toUInt16.toUInt32.toInt32))] [(.int ((x0 &&& (65535 : Int32)).toUInt32.toUInt16.toUInt32.toInt32))])) _
    refine st3 _ ?_
    exact k
  by_cases hc5 : (own_f1 ((x0 &&& (65535 : Int32)).toUInt32.toUInt16.toUInt32.toInt32)) = (0 : Int32)
  · skip
    obtain ⟨fs, hr, hrun, hended, hW, hsame⟩ := X3.leave (v := some (.int (1 : Int32))) (fun h => by rw [Bd.returns] at h; cases h)
    refine ⟨_, _, S4 _ ?_, hrun, hended, _, _, rfl, ?_, ⟨_, rfl⟩, hW, hsame.mono (by decide) (by decide)⟩
    · skip
      show Steps p.tables e below (T3.setTop (mkF m 27 #[iv x0, iv (x0 &&& (65535 : Int32)), iv ((x0 &&& (65535 : Int32)).toUInt32.toUInt16.toUInt32.toInt32), iv (own_f2 ((x0 &&& (65535 : Int32)).toUInt32.toUInt16.toUInt32.toInt32))] [(.int (own_f1 ((x0 &&& (65535 : Int32)).toUInt32.toUInt16.toUInt32.toInt32)))])) _
      refine XS.ifYes X3.here hx rfl (pc0 := 27) (pc' := 36) rfl (hb hby at_27) rfl ((if0 _ _).trans (teq hc5).1) (by decide) (by decide) ?_
      show Steps p.tables e below (T3.setTop (mkF m 36 #[iv x0, iv (x0 &&& (65535 : Int32)), iv ((x0 &&& (65535 : Int32)).toUInt32.toUInt16.toUInt32.toInt32), iv (own_f2 ((x0 &&& (65535 : Int32)).toUInt32.toUInt16.toUInt32.toInt32))] [])) _
      refine XS.iconst X3.here hx rfl (hb hby at_36) ?_
      show Steps p.tables e below (T3.setTop (mkF m 37 #[iv x0, iv (x0 &&& (65535 : Int32)), iv ((x0 &&& (65535 : Int32)).toUInt32.toUInt16.toUInt32.toInt32), iv (own_f2 ((x0 &&& (65535 : Int32)).toUInt32.toUInt16.toUInt32.toInt32))] [(.int (1 : Int32))])) _
      exact retN X3 hx (t := .boolean) Bd.returns (by simp) (hb hby at_37) hr
    · show Q0 Z x0 h0 n0 _ T3.heap _
      rw [eq3]
      exact ⟨rfl, N3⟩
  · skip
    obtain ⟨fs, hr, hrun, hended, hW, hsame⟩ := X3.leave (v := some (.int (1 : Int32))) (fun h => by rw [Bd.returns] at h; cases h)
    refine ⟨_, _, S4 _ ?_, hrun, hended, _, _, rfl, ?_, ⟨_, rfl⟩, hW, hsame.mono (by decide) (by decide)⟩
    · skip
      show Steps p.tables e below (T3.setTop (mkF m 27 #[iv x0, iv (x0 &&& (65535 : Int32)), iv ((x0 &&& (65535 : Int32)).toUInt32.toUInt16.toUInt32.toInt32), iv (own_f2 ((x0 &&& (65535 : Int32)).toUInt32.toUInt16.toUInt32.toInt32))] [(.int (own_f1 ((x0 &&& (65535 : Int32)).toUInt32.toUInt16.toUInt32.toInt32)))])) _
      refine XS.ifNo X3.here hx rfl (hb hby at_27) rfl ((if0 _ _).trans (feq hc5).1) ?_
      show Steps p.tables e below (T3.setTop (mkF m 30 #[iv x0, iv (x0 &&& (65535 : Int32)), iv ((x0 &&& (65535 : Int32)).toUInt32.toUInt16.toUInt32.toInt32), iv (own_f2 ((x0 &&& (65535 : Int32)).toUInt32.toUInt16.toUInt32.toInt32))] [])) _
      refine XS.iloadN X3.here hx rfl (hb hby at_30) rfl ?_
      show Steps p.tables e below (T3.setTop (mkF m 31 #[iv x0, iv (x0 &&& (65535 : Int32)), iv ((x0 &&& (65535 : Int32)).toUInt32.toUInt16.toUInt32.toInt32), iv (own_f2 ((x0 &&& (65535 : Int32)).toUInt32.toUInt16.toUInt32.toInt32))] [(.int (own_f2 ((x0 &&& (65535 : Int32)).toUInt32.toUInt16.toUInt32.toInt32)))])) _
      refine XS.ifYes X3.here hx rfl (pc0 := 31) (pc' := 36) rfl (hb hby at_31) rfl ((if0 _ _).trans (feq (own_start _ hc5)).2) (by decide) (by decide) ?_
      show Steps p.tables e below (T3.setTop (mkF m 36 #[iv x0, iv (x0 &&& (65535 : Int32)), iv ((x0 &&& (65535 : Int32)).toUInt32.toUInt16.toUInt32.toInt32), iv (own_f2 ((x0 &&& (65535 : Int32)).toUInt32.toUInt16.toUInt32.toInt32))] [])) _
      refine XS.iconst X3.here hx rfl (hb hby at_36) ?_
      show Steps p.tables e below (T3.setTop (mkF m 37 #[iv x0, iv (x0 &&& (65535 : Int32)), iv ((x0 &&& (65535 : Int32)).toUInt32.toUInt16.toUInt32.toInt32), iv (own_f2 ((x0 &&& (65535 : Int32)).toUInt32.toUInt16.toUInt32.toInt32))] [(.int (1 : Int32))])) _
      exact retN X3 hx (t := .boolean) Bd.returns (by simp) (hb hby at_37) hr
    · show Q0 Z x0 h0 n0 _ T3.heap _
      rw [eq3]
      exact ⟨rfl, N3⟩
set_option maxRecDepth 65536 in
set_option maxHeartbeats 40000000 in
theorem comes_1 {Post : Tables → Env → Array Value → State → Outcome → State → Prop} (hpost : ∀ tb e args s v u, (limb_1_1.after args s (.returned v) u = true ∧ limb_1_2.after args s (.returned v) u = true ∧ True) → FrameEnd s (.returned v) u (Jvm.fieldLocs frame_1_writes args s ++ Jvm.arrayLocs frame_1_arrays args s ++ Jvm.staticLocs frame_1_statics s) 0 0 → Post tb e args s (.returned v) u) :
    ArmFor flags0 classFile x code maxLocals ret World_1 tables_1 room_1 Calls_1 rest_1 Pre_1 Post := by
  intro l hfl _ _ p e ha hc hk s m args below hf hA hF happ hP
  obtain ⟨hcalls, hrest, hpre⟩ := hP
  obtain ⟨-, -, -, hnamed, -, -, -, hat⟩ := (Spec.applies_iff hf).mp happ
  obtain ⟨hg, hn⟩ := and_e (Cond.before_iff.mp (show (Jvm.Cond.and given_1 narrow_1).before args s = true from hpre))
  obtain ⟨g1, g2⟩ := and_e hg
  obtain ⟨w0, rfl⟩ : ∃ w0 : Value, args = #[w0] := by
    have hs : args.size = 1 := by simpa [Cond.value, given_1] using g1
    obtain ⟨L⟩ := args
    match L, hs with
    | [w0], _ => exact ⟨w0, rfl⟩
  have hw := fun d (hd : d ∈ tables_1) => atoms_spec (ws := Jvm.Cond.code x code maxLocals ret :: tables_1) hat d (List.mem_cons_of_mem _ hd)
  have hfit : Fit s := fun {y c} hc i hi => by
    obtain ⟨ha, rfl⟩ := Array.getElem?_eq_some_iff.mp hc
    have q := List.all_eq_true.mp ((Array.all_eq_true_iff_forall_mem.mp hF) _ (Array.getElem_mem ha)) i (List.mem_range.mpr hi)
    simpa [Array.getElem?_eq_getElem hi] using q
  obtain ⟨i0, ei0⟩ := is_v g2
  obtain rfl : w0 = (.int i0) := Option.some.inj ei0
  obtain ⟨n, o, h1, h2, h3, _, L, rfl, ⟨rfl, N⟩, hq⟩ := rm0 l s _ hw tables_1 i0 s.heap s.heap.size (Nat.le_refl _)  p e ha hc hk s m _ below hf ((Spec.applies_iff_loose hf).mp happ).1 ⟨rfl, State.Warmed39.refl s, rfl⟩ trivial
  refine ⟨n, _, h1, h2, h3, hpost _ _ _ _ _ _ ⟨Cond.after_iff.mpr rfl, Cond.after_iff.mpr (eq_i res_at (Term.int_eval (1)) rfl), trivial⟩ ⟨hq.1, hq.2.1, (hq.2.2.sift fun y hy => Or.inr (N y hy)).mono (by decide) (by decide)⟩⟩
theorem main_1_1 : Claimed_1_1 := comes_1 fun _ _ _ _ _ _ h hF => ⟨h.1, hF⟩
theorem main_1_2 : Claimed_1_2 := comes_1 fun _ _ _ _ _ _ h hF => ⟨h.2.1, hF⟩
end Jvm.Pilot.@@N@@
namespace Jvm.Pilot.@@N@@
open Jvm Jvm.ClassFile Sem Op Lib Jvm.Free Jvm.Stand Jvm.Pilot.@@N@@.Jvm.D
/-! MADE BY PROGRAM (witnessworld.py) out of the Statement's table words and the real class files: 9 classes; the members and pool entries that the words name. The judged class is class 1, her method 2. -/
namespace start1
open Jvm.ClassFile
def u (s : String) : CpInfo := .utf8 (stringToUtf16 s)
/-- a pool by its gaps: so many unusable entries, then the entry; so many at the end -/
def gap : Nat → List CpInfo → List CpInfo
  | 0, r => r
  | n + 1, r => .unusable :: gap n r
def poolList (es : List (Nat × CpInfo)) (last : Nat) : List CpInfo := es.foldr (fun e r => gap e.1 (e.2 :: r)) (gap last [])
def pool (es : List (Nat × CpInfo)) (last : Nat) : Array CpInfo := ⟨poolList es last⟩
def fileOf (pool : Array CpInfo) (this : Nat) (attrs : Array Attribute := #[]) (ms : Array MethodInfo := #[]) (fl : Nat := 33) (sup : Nat := 0) (ifs : Array Nat := #[]) (fds : Array FieldInfo := #[]) : ClassFile where
  minorVersion := 0
  majorVersion := 65
  constantPool := pool
  accessFlags := fl
  thisClass := this
  superClass := sup
  interfaces := ifs
  fields := fds
  methods := ms
  attributes := attrs
def plain (name : String) (sup : Option ClassId) : Class where
  name := name
  kind := .ordinary
  loader := none
  accessFlags := 33
  super := sup
  interfaces := #[]
  cf := none
  fields := #[]
  methods := #[]
  instanceTypes := #[]
  staticTypes := #[]
  resolved := #[]
  callSites := []
  init := .initialized
  statics := none
  mirror := none

def pool0 : Array CpInfo := pool [(5, u "<init>"), (0, u "()V"), (1, .class_ 10), (1, u "java/lang/Object")] 113

def k0m0 : Method := { name := "<init>", desc := "()V", sig := { parameters := [], returnType := none }, accessFlags := 1, code := none }
/-- java/lang/Object -/
def k0 : Class := { plain "java/lang/Object" none with
  accessFlags := 33
  interfaces := #[]
  cf := some (fileOf pool0 8 #[] #[{ accessFlags := 1, nameIndex := 5, descriptorIndex := 6, attributes := #[] }] 33 0 #[] #[])
  fields := #[]
  methods := #[k0m0]
  instanceTypes := #[]
  staticTypes := #[]
  resolved := Array.replicate 124 none
  statics := none }

def pool1 : Array CpInfo := pool [(2, .class_ 4), (1, u "java/lang/Object"), (0, u "<init>"), (0, u "()V"), (0, .integer 65535), (0, .methodref 9 10), (0, .class_ 11), (0, .nameAndType 12 13), (0, u "com/example/kilit/kilit/sql/Identifier"), (0, u "isPart"), (0, u "(C)Z"), (0, .methodref 15 16), (0, .class_ 17), (0, .nameAndType 18 19), (0, u "com/example/kilit/kilit/sql/IdentifierIsPartPinLaw"), (0, u "expected"), (0, u "(I)Z"), (0, .methodref 9 21), (0, .nameAndType 22 13), (0, u "isStart"), (3, u "law")] 2

def k1m0 : Method := { name := "<init>", desc := "()V", sig := { parameters := [], returnType := none }, accessFlags := 2, code := none }
def k1c1 : Code := { maxStack := 2, maxLocals := 6, code := method_2_code, exceptionTable := #[], attributes := #[] }
def k1m1 : Method := { name := "expected", desc := "(I)Z", sig := { parameters := [.int], returnType := some .boolean }, accessFlags := 10, code := some k1c1 }
def k1c2 : Code := { maxStack := 2, maxLocals := 4, code := code, exceptionTable := #[], attributes := #[] }
def k1m2 : Method := { name := "law", desc := "(I)Z", sig := { parameters := [.int], returnType := some .boolean }, accessFlags := 9, code := some k1c2 }
/-- com/example/kilit/kilit/sql/IdentifierIsPartPinLaw -/
def k1 : Class := { plain "com/example/kilit/kilit/sql/IdentifierIsPartPinLaw" (some 0) with
  accessFlags := 49
  interfaces := #[]
  cf := some (fileOf pool1 15 #[] #[{ accessFlags := 2, nameIndex := 5, descriptorIndex := 6, attributes := #[] }, { accessFlags := 10, nameIndex := 18, descriptorIndex := 19, attributes := #[] }, { accessFlags := 9, nameIndex := 26, descriptorIndex := 19, attributes := #[] }] 49 2 #[] #[])
  fields := #[]
  methods := #[k1m0, k1m1, k1m2]
  instanceTypes := #[]
  staticTypes := #[]
  resolved := Array.replicate 29 none
  statics := none }

def pool2 : Array CpInfo := pool [(2, .class_ 4), (1, u "java/lang/Object"), (0, u "<init>"), (0, u "()V"), (0, .methodref 8 9), (0, .class_ 10), (0, .nameAndType 11 12), (0, u "com/example/kilit/kilit/sql/Identifier"), (0, u "isStart"), (0, u "(C)Z"), (16, u "isPart")] 28

def k2m0 : Method := { name := "<init>", desc := "()V", sig := { parameters := [], returnType := none }, accessFlags := 2, code := none }
def k2c1 : Code := { maxStack := 2, maxLocals := 1, code := prog_55_method_2_code, exceptionTable := #[], attributes := #[] }
def k2m1 : Method := { name := "isStart", desc := "(C)Z", sig := { parameters := [.char], returnType := some .boolean }, accessFlags := 8, code := some k2c1 }
def k2c2 : Code := { maxStack := 2, maxLocals := 1, code := prog_55_method_3_code, exceptionTable := #[], attributes := #[] }
def k2m2 : Method := { name := "isPart", desc := "(C)Z", sig := { parameters := [.char], returnType := some .boolean }, accessFlags := 8, code := some k2c2 }
/-- com/example/kilit/kilit/sql/Identifier -/
def k2 : Class := { plain "com/example/kilit/kilit/sql/Identifier" (some 0) with
  accessFlags := 49
  interfaces := #[]
  cf := some (fileOf pool2 8 #[] #[{ accessFlags := 2, nameIndex := 5, descriptorIndex := 6, attributes := #[] }, { accessFlags := 8, nameIndex := 11, descriptorIndex := 12, attributes := #[] }, { accessFlags := 8, nameIndex := 29, descriptorIndex := 12, attributes := #[] }] 49 2 #[] #[])
  fields := #[]
  methods := #[k2m0, k2m1, k2m2]
  instanceTypes := #[]
  staticTypes := #[]
  resolved := Array.replicate 58 none
  statics := none }

def pool3 : Array CpInfo := pool [(1, u "java/lang/Cloneable"), (0, .class_ 1), (0, u "java/lang/Object"), (0, .class_ 3)] 3

/-- java/lang/Cloneable -/
def k3 : Class := { plain "java/lang/Cloneable" (some 0) with
  accessFlags := 1537
  interfaces := #[]
  cf := some (fileOf pool3 2 #[] #[] 1537 4 #[] #[])
  fields := #[]
  methods := #[]
  instanceTypes := #[]
  staticTypes := #[]
  resolved := Array.replicate 8 none
  statics := none }

def pool4 : Array CpInfo := pool [(1, u "java/io/Serializable"), (0, .class_ 1), (0, u "java/lang/Object"), (0, .class_ 3)] 3

/-- java/io/Serializable -/
def k4 : Class := { plain "java/io/Serializable" (some 0) with
  accessFlags := 1537
  interfaces := #[]
  cf := some (fileOf pool4 2 #[] #[] 1537 4 #[] #[])
  fields := #[]
  methods := #[]
  instanceTypes := #[]
  staticTypes := #[]
  resolved := Array.replicate 8 none
  statics := none }

/-- the primitive byte -/
def k5 : Class := { plain "byte" none with kind := .primitive 'B', accessFlags := 0x411 }
/-- [B -/
def k6 : Class := { plain "[B" (some 0) with kind := .array 5 .byte, interfaces := #[3, 4], accessFlags := 1041 }

/-- the primitive int -/
def k7 : Class := { plain "int" none with kind := .primitive 'I', accessFlags := 0x411 }
/-- [I -/
def k8 : Class := { plain "[I" (some 0) with kind := .array 7 .int, interfaces := #[3, 4], accessFlags := 1041 }

def heap : Heap := #[]
def classes : Array Class := #[k0, k1, k2, k3, k4, k5, k6, k7, k8]
def interned : List (Array UInt16 × Addr) := []
def slotsUsed : Nat := 0
def theMethod : MethodId := ⟨1, 2⟩
def args0 : Array Value := #[.int 65]
def aboutOver (below : List Frame) : State where
  vm := { classes := classes, interned := interned.toArray }
  heap := heap
  slotsUsed := slotsUsed
  threads := #[{ frames := .invoking theMethod args0 :: below }]
def below0 : List Frame := [.native { method := ⟨0, 0⟩, args := #[] }]
def about1 : State := aboutOver below0
def p0 : Program := .bare "" "" ""
def e0 : Env := launch0.env 0 0 0
theorem w_frames : about1.frames = Frame.invoking theMethod args0 :: below0 := rfl
set_option maxRecDepth 65536 in
theorem w_args : argsFit about1.vm theMethod args0 = true := by decide +kernel
set_option maxRecDepth 65536 in
theorem w_heap : heapFits about1 = true := by decide +kernel
set_option maxRecDepth 65536 in
theorem w_runnable : about1.curStatus? = some .runnable := by decide +kernel
set_option maxRecDepth 65536 in
theorem w_alone : about1.alone = true := by decide +kernel
set_option maxRecDepth 65536 in
theorem w_named : about1.methodNamed? x = some theMethod := by decide +kernel
set_option maxRecDepth 65536 in
theorem w_hears : about1.hears theMethod below0 = true := by decide +kernel
set_option maxRecDepth 65536 in
theorem w_ripe : about1.ripe theMethod args0 below0 = true := by decide +kernel
theorem w_running : about1.status = .running := rfl
set_option maxRecDepth 65536 in
theorem w_room : about1.hasRoom e0.platform room_1 = true :=
  launch0.hasRoom_least _ room_1 (by decide +kernel) (by decide +kernel) (by decide +kernel) (by decide +kernel) (by decide +kernel) (by decide +kernel)
theorem allAtoms_all (ts : List Jvm.Cond) (a : Array Jvm.Value) (st : Jvm.State) : (allAtoms ts).before a st = ts.all (fun c => c.before a st) := by
  induction ts with
  | nil => rfl
  | cons c t ih =>
    show (Jvm.Cond.and c (allAtoms t)).before a st = _
    rw [Jvm.Cond.before_and, ih, List.all_cons]
def words1 : List Jvm.Cond := Jvm.Cond.code x code maxLocals ret :: tables_1
/-- a 'code' word, met by the world's own term for the bytes: nothing is compared byte by byte -/
theorem code_word {y : MethodName} {bytes : ByteArray} {mx : Nat} {rt : Option FieldType} {a : Array Value} {s : State} {m : MethodId} {meth : Method} {c : Code} (h1 : s.methodNamed? y = some m) (h2 : s.vm.method? m = some meth) (h3 : meth.code = some c) (h4 : c.code = bytes)
    (h5 : (c.maxLocals == mx && c.exceptionTable.isEmpty && decide (c.maxStack ≤ mostOperands) && decide (meth.sig.returnType = rt) && !meth.locks && decide (parseMethodDescriptor y.desc = some meth.sig)) = true) : (Jvm.Cond.code y bytes mx rt).before a s = true := by
  simp only [Bool.and_eq_true, beq_iff_eq, Bool.not_eq_true', decide_eq_true_eq] at h5
  obtain ⟨⟨⟨⟨⟨g1, g2⟩, g3⟩, g4⟩, g5⟩, g6⟩ := h5
  simp [Cond.before, Cond.holds, Cond.value, h1, h2, h3, h4, g1, g2, g3, g4, g5, g6]
def isCode : Jvm.Cond → Bool
  | .code _ _ _ _ => true
  | _ => false
theorem all_split {L : List Jvm.Cond} {P : Jvm.Cond → Bool} (h1 : L.all (fun c => isCode c || P c) = true) (h2 : ∀ c ∈ L.filter isCode, P c = true) : L.all P = true := by
  refine List.all_eq_true.mpr fun c hc => ?_
  have h := List.all_eq_true.mp h1 c hc
  rcases Bool.eq_false_or_eq_true (isCode c) with hi | hi
  · exact h2 c (List.mem_filter.mpr ⟨hc, hi⟩)
  · simpa [hi] using h
set_option maxRecDepth 65536 in
theorem w_c0 : (Jvm.Cond.code x code maxLocals ret).before args0 about1 = true := code_word (m := ⟨1, 2⟩) (meth := k1m2) (c := k1c2) (by decide +kernel) rfl rfl rfl (by decide +kernel)
set_option maxRecDepth 65536 in
theorem w_c1 : (Jvm.Cond.code ({ cls := "com/example/kilit/kilit/sql/Identifier", name := "isPart", desc := "(C)Z" } : Jvm.MethodName) prog_55_method_3_code (1 : Nat) (Option.some Jvm.ClassFile.FieldType.boolean)).before args0 about1 = true := code_word (m := ⟨2, 2⟩) (meth := k2m2) (c := k2c2) (by decide +kernel) rfl rfl rfl (by decide +kernel)
set_option maxRecDepth 65536 in
theorem w_c2 : (Jvm.Cond.code ({ cls := "com/example/kilit/kilit/sql/Identifier", name := "isStart", desc := "(C)Z" } : Jvm.MethodName) prog_55_method_2_code (1 : Nat) (Option.some Jvm.ClassFile.FieldType.boolean)).before args0 about1 = true := code_word (m := ⟨2, 1⟩) (meth := k2m1) (c := k2c1) (by decide +kernel) rfl rfl rfl (by decide +kernel)
set_option maxRecDepth 65536 in
theorem w_c3 : (Jvm.Cond.code ({ cls := "com/example/kilit/kilit/sql/IdentifierIsPartPinLaw", name := "expected", desc := "(I)Z" } : Jvm.MethodName) method_2_code (6 : Nat) (Option.some Jvm.ClassFile.FieldType.boolean)).before args0 about1 = true := code_word (m := ⟨1, 1⟩) (meth := k1m1) (c := k1c1) (by decide +kernel) rfl rfl rfl (by decide +kernel)
def codes1 : List Jvm.Cond := [Jvm.Cond.code x code maxLocals ret, Jvm.Cond.code ({ cls := "com/example/kilit/kilit/sql/Identifier", name := "isPart", desc := "(C)Z" } : Jvm.MethodName) prog_55_method_3_code (1 : Nat) (Option.some Jvm.ClassFile.FieldType.boolean), Jvm.Cond.code ({ cls := "com/example/kilit/kilit/sql/Identifier", name := "isStart", desc := "(C)Z" } : Jvm.MethodName) prog_55_method_2_code (1 : Nat) (Option.some Jvm.ClassFile.FieldType.boolean), Jvm.Cond.code ({ cls := "com/example/kilit/kilit/sql/IdentifierIsPartPinLaw", name := "expected", desc := "(I)Z" } : Jvm.MethodName) method_2_code (6 : Nat) (Option.some Jvm.ClassFile.FieldType.boolean)]
set_option maxRecDepth 65536 in
theorem codes_eq : words1.filter isCode = codes1 := rfl
theorem w_codes : ∀ c ∈ words1.filter isCode, c.before args0 about1 = true := by
  rw [codes_eq]
  intro c hc
  simp only [codes1, List.mem_cons, List.not_mem_nil, or_false] at hc
  rcases hc with rfl | rfl | rfl | rfl
  · exact w_c0
  · exact w_c1
  · exact w_c2
  · exact w_c3
set_option maxRecDepth 65536 in
theorem w_t1 : words1.all (fun c => isCode c || c.before args0 about1) = true := by decide +kernel
theorem w_tables : (allAtoms (Jvm.Cond.code x code maxLocals ret :: tables_1)).before args0 about1 = true := by
  rw [allAtoms_all]
  show words1.all (fun c => c.before args0 about1) = true
  refine all_split ?_ w_codes
  rw [w_t1]
set_option maxRecDepth 65536 in
theorem w_case : (Jvm.Cond.and given_1 narrow_1).before args0 about1 = true := by decide +kernel
theorem w_applies : (headSpec (Jvm.Cond.code x code maxLocals ret :: tables_1) room_1).applies x e0.platform about1 = true :=
  (Spec.applies_iff w_frames).mpr ⟨w_running, w_runnable, w_alone, w_named, w_hears, w_ripe, w_room, w_tables⟩
theorem atStart : AtStart classFile x code maxLocals ret World_1 tables_1 room_1 Calls_1 rest_1 Pre_1 launch0 p0 e0 about1 theMethod args0 below0 :=
  ⟨lists_1, trivial, launch0.admits_env _ _ _, launch0.least_env, fairChoices_fair.cas, fairChoices_fair.clock, w_frames, w_args, w_heap, w_applies, trivial, trivial, w_case⟩
end start1
theorem witness_1 : WitnessClaimed_1 := ⟨start1.p0, start1.e0, start1.about1, start1.theMethod, start1.args0, start1.below0, start1.atStart⟩
end Jvm.Pilot.@@N@@
