import JvmDerived
import JvmDerived.Pilot.@@N@@Statement
import JvmDerived.Pilot.@@N@@Code
set_option linter.unusedVariables false
set_option linter.unusedSimpArgs false
@@BLOCK:NumsL.lean.txt@@
namespace Jvm.RoadKit
open Sem ClassFile Op Lib Jvm.Stand Jvm.Free Jvm.LawKit
section New
variable {p : Program} {l : Launch} {e : Env} {R : Room} {s : State} {m : MethodId} {args : Array Value} {below : List Frame} {meth : Method} {c : Code} {T : State} {locs : List Loc} {cells slots : Nat}
theorem retI (X : Stand p l e R s m args below meth c T locs cells slots) (hx : p.tables.exec = Jvm.exec) {pc : Nat} {Ls : Array Slot} {z : Int32} {rest : List Value} (hret : meth.sig.returnType = some .int) (hd : decode c.code pc = .ok (.ireturn, 1)) {fs : List Frame}
    (hl : ∀ (f : JFrame) (acts : List Action), f.method = m → f.locked = none → f.entered = [] → (doReturn e (T.setTop f) acts (some (.int z))).1 = T.setFrames fs) : Steps p.tables e below (T.setTop (mkF m pc Ls (.int z :: rest))) (T.setFrames fs) := by
  have hm' : T.vm.method? m = some meth := X.method'
  have hn : narrow .int (.int z) = .int z := rfl
  show Steps p.tables e below (T.setTop { method := m, pc := pc, locals := Ls, stack := _ :: rest, locked := none }) _
  jvm_step X.here [X.here.top, hx, hd, hm', hret, hn]
  first | (intro acts; rw [hl _ acts rfl rfl rfl]) | rw [hl _ _ rfl rfl rfl]
  exact Steps.refl _
end New
end Jvm.RoadKit
namespace Jvm.Pilot.@@N@@
open Jvm Jvm.ClassFile Sem Op Lib Jvm.Free Jvm.Stand Jvm.LawKit Jvm.RoadKit Bundle Jvm.Pilot.@@N@@.Jvm.D
theorem own_nb (y : Int32) : nar .byte (y.toInt8.toInt32) = y.toInt8.toInt32 := by
  show (y.toInt8.toInt32).toInt8.toInt32 = _
  simp
theorem own_fb (y : Int32) : fits .byte (.int (y.toInt8.toInt32)) = true := fits_nar_byte y

def own_Tab (Z : State) (a : Addr) (c : Cell) (f : Int32 → Int32) : Prop := Arr Z Z.heap a c .int ∧ c.slots.size = (256 : Int32).toNatClampNeg ∧ ∀ j : Int32, ¬ (j < 0 ∨ c.slots.size ≤ j.toNatClampNeg) → c.slots[j.toNatClampNeg]? = some (.int (f j))
def own_L (x : Int32) : Int32 := if x < 194 then 0 else if x < 224 then 2 else if x < 240 then 3 else if x < 245 then 4 else 0
def own_lo (x : Int32) : Int32 := if x < 194 then 0 else if x < 224 then 128 else if x < 225 then 160 else if x < 240 then 128 else if x < 241 then 144 else if x < 245 then 128 else 0
def own_hi (x : Int32) : Int32 := if x < 194 then 0 else if x < 237 then 191 else if x < 238 then 159 else if x < 244 then 191 else if x < 245 then 143 else 0
theorem own_255 (x : Int32) : ¬ (x &&& (255 : Int32)) < 0 ∧ (x &&& (255 : Int32)) < (256 : Int32) := by
  have h := Jvm.Kit.i32_mask x 255 (k := 8) (by decide) (by decide)
  simp only [Int32.lt_iff_toInt_lt, h, Int32.reduceToInt]
  omega
theorem own_L4 (x : Int32) (h0 : ¬ own_L x = (0 : Int32)) (h2 : ¬ own_L x = (2 : Int32)) (h3 : ¬ own_L x = (3 : Int32)) : own_L x = (4 : Int32) := by
  unfold own_L at *
  by_cases a : x < 194
  · rw [if_pos a] at h0; exact absurd rfl h0
  rw [if_neg a] at h0 h2 h3 ⊢
  by_cases b : x < 224
  · rw [if_pos b] at h2; exact absurd rfl h2
  rw [if_neg b] at h0 h2 h3 ⊢
  by_cases c : x < 240
  · rw [if_pos c] at h3; exact absurd rfl h3
  rw [if_neg c] at h0 h2 h3 ⊢
  by_cases d : x < 245
  · rw [if_pos d]
  · rw [if_neg d] at h0; exact absurd rfl h0

def own_ct (u0 : Int32) : Int32 := if (u0 &&& (192 : Int32)) = (128 : Int32) then (1 : Int32) else (0 : Int32)
theorem d3_0 : decode method_3_code 0 = .ok (.iload_n 0, 1) := by decide +kernel
theorem d3_1 : decode method_3_code 1 = .ok (.sipush 192, 3) := by decide +kernel
theorem d3_4 : decode method_3_code 4 = .ok (.iand, 1) := by decide +kernel
theorem d3_5 : decode method_3_code 5 = .ok (.sipush 128, 3) := by decide +kernel
theorem d3_8 : decode method_3_code 8 = .ok (.if_icmp .ne 7, 3) := by decide +kernel
theorem d3_11 : decode method_3_code 11 = .ok (.iconst 1, 1) := by decide +kernel
theorem d3_12 : decode method_3_code 12 = .ok (.goto 4, 3) := by decide +kernel
theorem d3_16 : decode method_3_code 16 = .ok (.ireturn, 1) := by decide +kernel
theorem d3_15 : decode method_3_code 15 = .ok (.iconst 0, 1) := by decide +kernel
theorem pn_0 : plainName "com/example/rivanna/rivanna/core/json/Utf8SequenceLengthPinLaw" = true := by first | (simp [plainName, overriddenIn]; done) | decide +kernel
def QCt (Z : State) (u0 : Int32)  (h0 : Heap) (n0 : Nat) (v : Option Value) (h : Heap) (L : List Loc) : Prop := v = some (.int (own_ct u0)) ∧ Fr n0 L ∧ h = h0
theorem ef_rmCt (m : MethodId) (u0 : Int32) : entryFrame m #[(.int u0)] 1 = mkF m 0 #[iv u0] [] := by first | (simp [entryFrame, mkF, argsToLocals, Value.category]; done) | rfl
set_option maxRecDepth 65536 in
set_option maxHeartbeats 40000000 in
theorem rmCt (l : Launch) (Z : State) (a0 : Array Value) (hw : ∀ d ∈ tables_1, d.before a0 Z = true) (ws : List Jvm.Cond) (u0 : Int32)  (h0 : Heap) (n0 : Nat) (Z0 : n0 ≤ h0.size) :
    MetFree l (⟨"com/example/rivanna/rivanna/core/json/Utf8SequenceLengthPinLaw", "cont", "(I)Z"⟩ : MethodName) (head1 (Jvm.Cond.code (⟨"com/example/rivanna/rivanna/core/json/Utf8SequenceLengthPinLaw", "cont", "(I)Z"⟩ : MethodName) method_3_code 1 (some .boolean) :: ws) ({ frames := 0, cells := 0, slots := 0, locals := 0 } : Room)) (fun a U => a = #[(.int u0)] ∧ Z.Warmed39 U.vm ∧ U.heap = h0) (fun _ _ _ _ _ => True) (fun _ U o U' => ∃ v L, o = .returned v ∧ QCt Z u0 h0 n0 v U'.heap L ∧ FrameEnd U o U' L ({ frames := 0, cells := 0, slots := 0, locals := 0 } : Room).cells ({ frames := 0, cells := 0, slots := 0, locals := 0 } : Room).slots) := by
  refine MetFree.of_bodySF (plainFor_of_name pn_0) hisR ?_
  intro p e s m args below meth c s₁ Bd hml0 hP hK
  obtain ⟨rfl, hZ, hh⟩ := hP
  have hx := Bd.exec
  have hby := Bd.bytes
  have hml : c.maxLocals = 1 := hml0
  have hown : s.vm.findClass "com/example/rivanna/rivanna/core/json/Utf8SequenceLengthPinLaw" = some m.cls := findClass_of_methodNamed Bd.named
  have hnm := (name_of_methodNamed Bd.named Bd.method).1
  have X0 : Stand p l e ({ frames := 0, cells := 0, slots := 0, locals := 0 } : Room) s m #[(.int u0)] below meth c s₁ [] 0 0 := Stand.of_body Bd
  have e0 : s₁.heap = h0 := by rw [← hh, Bd.state]; rfl
  have N0 := Fr.nil n0
  have S0 : ∀ t, Steps p.tables e below (s₁.setTop (mkF m 0 #[iv u0] [])) t → Steps p.tables e below (s₁.setTop (entryFrame m #[(.int u0)] 1)) t := fun t k => castTop (ef_rmCt m u0) k
  have S1 : ∀ t, Steps p.tables e below (s₁.setTop (mkF m 8 #[iv u0] [(.int (128 : Int32)), (.int (u0 &&& (192 : Int32)))])) t → Steps p.tables e below (s₁.setTop (entryFrame m #[(.int u0)] 1)) t := by
    intro t k
    refine S0 t ?_
    show Steps p.tables e below (s₁.setTop (mkF m 0 #[iv u0] [])) _
    refine XS.iloadN X0.here hx rfl (hb hby d3_0) rfl ?_
    show Steps p.tables e below (s₁.setTop (mkF m 1 #[iv u0] [(.int u0)])) _
    refine XS.sipush X0.here hx rfl (hb hby d3_1) ?_
    show Steps p.tables e below (s₁.setTop (mkF m 4 #[iv u0] [(.int (192 : Int32)), (.int u0)])) _
    refine XS.iand X0.here hx rfl (hb hby d3_4) rfl ?_
    show Steps p.tables e below (s₁.setTop (mkF m 5 #[iv u0] [(.int (u0 &&& (192 : Int32)))])) _
    refine XS.sipush X0.here hx rfl (hb hby d3_5) ?_
    exact k
  by_cases hc2 : (u0 &&& (192 : Int32)) = (128 : Int32)
  · skip
    obtain ⟨fs, hr, hrun, hended, hW, hsame⟩ := X0.leave (v := some (.int (1 : Int32))) (fun h => by rw [Bd.returns] at h; cases h)
    refine ⟨_, _, S1 _ ?_, hrun, hended, _, _, rfl, ?_, ⟨_, rfl⟩, hW, hsame.mono (by decide) (by decide)⟩
    · skip
      show Steps p.tables e below (s₁.setTop (mkF m 8 #[iv u0] [(.int (128 : Int32)), (.int (u0 &&& (192 : Int32)))])) _
      refine XS.icmpNo X0.here hx rfl (hb hby d3_8) rfl (teq hc2).2 ?_
      show Steps p.tables e below (s₁.setTop (mkF m 11 #[iv u0] [])) _
      refine XS.iconst X0.here hx rfl (hb hby d3_11) ?_
      show Steps p.tables e below (s₁.setTop (mkF m 12 #[iv u0] [(.int (1 : Int32))])) _
      refine XS.goto X0.here hx rfl (pc0 := 12) (pc' := 16) rfl (hb hby d3_12) (by decide) (by decide) ?_
      show Steps p.tables e below (s₁.setTop (mkF m 16 #[iv u0] [(.int (1 : Int32))])) _
      exact retN X0 hx (t := .boolean) Bd.returns (by simp) (hb hby d3_16) hr
    · show QCt Z u0 h0 n0 _ s₁.heap _
      rw [e0]
      exact ⟨(by unfold own_ct; rw [if_pos hc2]), N0, rfl⟩
  · skip
    obtain ⟨fs, hr, hrun, hended, hW, hsame⟩ := X0.leave (v := some (.int (0 : Int32))) (fun h => by rw [Bd.returns] at h; cases h)
    refine ⟨_, _, S1 _ ?_, hrun, hended, _, _, rfl, ?_, ⟨_, rfl⟩, hW, hsame.mono (by decide) (by decide)⟩
    · skip
      show Steps p.tables e below (s₁.setTop (mkF m 8 #[iv u0] [(.int (128 : Int32)), (.int (u0 &&& (192 : Int32)))])) _
      refine XS.icmpYes X0.here hx rfl (pc0 := 8) (pc' := 15) rfl (hb hby d3_8) rfl (feq hc2).2 (by decide) (by decide) ?_
      show Steps p.tables e below (s₁.setTop (mkF m 15 #[iv u0] [])) _
      refine XS.iconst X0.here hx rfl (hb hby d3_15) ?_
      show Steps p.tables e below (s₁.setTop (mkF m 16 #[iv u0] [(.int (0 : Int32))])) _
      exact retN X0 hx (t := .boolean) Bd.returns (by simp) (hb hby d3_16) hr
    · show QCt Z u0 h0 n0 _ s₁.heap _
      rw [e0]
      exact ⟨(by unfold own_ct; rw [if_neg hc2]), N0, rfl⟩
def own_ex (u0 : Int32) (u1 : Int32) (u2 : Int32) (u3 : Int32) (u4 : Int32) : Int32 := if (u0 &&& (128 : Int32)) = (0 : Int32) then (0 : Int32) else (if (u0 &&& (224 : Int32)) = (192 : Int32) then (if u4 < (2 : Int32) then (0 : Int32) else (if (own_ct u1) = (0 : Int32) then (0 : Int32) else (if (((u0 &&& (31 : Int32)) <<< ((6 : Int32) &&& 31)) ||| (u1 &&& (63 : Int32))) < (128 : Int32) then (0 : Int32) else (2 : Int32)))) else (if (u0 &&& (240 : Int32)) = (224 : Int32) then (if u4 < (3 : Int32) then (0 : Int32) else (if (own_ct u1) = (0 : Int32) then (0 : Int32) else (if (own_ct u2) = (0 : Int32) then (0 : Int32) else (if ((((u0 &&& (15 : Int32)) <<< ((12 : Int32) &&& 31)) ||| ((u1 &&& (63 : Int32)) <<< ((6 : Int32) &&& 31))) ||| (u2 &&& (63 : Int32))) < (2048 : Int32) then (0 : Int32) else (if ((((u0 &&& (15 : Int32)) <<< ((12 : Int32) &&& 31)) ||| ((u1 &&& (63 : Int32)) <<< ((6 : Int32) &&& 31))) ||| (u2 &&& (63 : Int32))) < (55296 : Int32) then (3 : Int32) else (if (57343 : Int32) < ((((u0 &&& (15 : Int32)) <<< ((12 : Int32) &&& 31)) ||| ((u1 &&& (63 : Int32)) <<< ((6 : Int32) &&& 31))) ||| (u2 &&& (63 : Int32))) then (3 : Int32) else (0 : Int32))))))) else (if (u0 &&& (248 : Int32)) = (240 : Int32) then (if u4 < (4 : Int32) then (0 : Int32) else (if (own_ct u1) = (0 : Int32) then (0 : Int32) else (if (own_ct u2) = (0 : Int32) then (0 : Int32) else (if (own_ct u3) = (0 : Int32) then (0 : Int32) else (if (((((u0 &&& (7 : Int32)) <<< ((18 : Int32) &&& 31)) ||| ((u1 &&& (63 : Int32)) <<< ((12 : Int32) &&& 31))) ||| ((u2 &&& (63 : Int32)) <<< ((6 : Int32) &&& 31))) ||| (u3 &&& (63 : Int32))) < (65536 : Int32) then (0 : Int32) else (if (1114111 : Int32) < (((((u0 &&& (7 : Int32)) <<< ((18 : Int32) &&& 31)) ||| ((u1 &&& (63 : Int32)) <<< ((12 : Int32) &&& 31))) ||| ((u2 &&& (63 : Int32)) <<< ((6 : Int32) &&& 31))) ||| (u3 &&& (63 : Int32))) then (0 : Int32) else (4 : Int32))))))) else (0 : Int32))))
theorem d1_0 : decode method_4_code 0 = .ok (.iload_n 0, 1) := by decide +kernel
theorem d1_1 : decode method_4_code 1 = .ok (.sipush 128, 3) := by decide +kernel
theorem d1_4 : decode method_4_code 4 = .ok (.iand, 1) := by decide +kernel
theorem d1_5 : decode method_4_code 5 = .ok (.ifCond .ne 9, 3) := by decide +kernel
theorem d1_8 : decode method_4_code 8 = .ok (.iconst 0, 1) := by decide +kernel
theorem d1_9 : decode method_4_code 9 = .ok (.istore 5, 2) := by decide +kernel
theorem d1_11 : decode method_4_code 11 = .ok (.goto 57, 3) := by decide +kernel
theorem d1_68 : decode method_4_code 68 = .ok (.iload 5, 2) := by decide +kernel
theorem d1_70 : decode method_4_code 70 = .ok (.ifCond .eq 10, 3) := by decide +kernel
theorem d1_80 : decode method_4_code 80 = .ok (.iconst 0, 1) := by decide +kernel
theorem d1_81 : decode method_4_code 81 = .ok (.ireturn, 1) := by decide +kernel
theorem d1_14 : decode method_4_code 14 = .ok (.iload_n 0, 1) := by decide +kernel
theorem d1_15 : decode method_4_code 15 = .ok (.sipush 224, 3) := by decide +kernel
theorem d1_18 : decode method_4_code 18 = .ok (.iand, 1) := by decide +kernel
theorem d1_19 : decode method_4_code 19 = .ok (.sipush 192, 3) := by decide +kernel
theorem d1_22 : decode method_4_code 22 = .ok (.if_icmp .ne 9, 3) := by decide +kernel
theorem d1_25 : decode method_4_code 25 = .ok (.iconst 2, 1) := by decide +kernel
theorem d1_26 : decode method_4_code 26 = .ok (.istore 5, 2) := by decide +kernel
theorem d1_28 : decode method_4_code 28 = .ok (.goto 40, 3) := by decide +kernel
theorem d1_73 : decode method_4_code 73 = .ok (.iload 5, 2) := by decide +kernel
theorem d1_75 : decode method_4_code 75 = .ok (.iload 4, 2) := by decide +kernel
theorem d1_77 : decode method_4_code 77 = .ok (.if_icmp .le 5, 3) := by decide +kernel
theorem d1_82 : decode method_4_code 82 = .ok (.iload_n 1, 1) := by decide +kernel
theorem d1_83 : decode method_4_code 83 = .ok (.invokestatic 19, 3) := by decide +kernel
theorem pd_0 : parseMethodDescriptor "(I)Z" = some ⟨[.int], some .boolean⟩ := by decide +kernel
theorem d1_86 : decode method_4_code 86 = .ok (.ifCond .ne 5, 3) := by decide +kernel
theorem d1_89 : decode method_4_code 89 = .ok (.iconst 0, 1) := by decide +kernel
theorem d1_90 : decode method_4_code 90 = .ok (.ireturn, 1) := by decide +kernel
theorem d1_91 : decode method_4_code 91 = .ok (.iload 5, 2) := by decide +kernel
theorem d1_93 : decode method_4_code 93 = .ok (.iconst 3, 1) := by decide +kernel
theorem d1_94 : decode method_4_code 94 = .ok (.if_icmp .lt 12, 3) := by decide +kernel
theorem d1_106 : decode method_4_code 106 = .ok (.iload 5, 2) := by decide +kernel
theorem d1_108 : decode method_4_code 108 = .ok (.iconst 4, 1) := by decide +kernel
theorem d1_109 : decode method_4_code 109 = .ok (.if_icmp .ne 12, 3) := by decide +kernel
theorem d1_121 : decode method_4_code 121 = .ok (.iload 5, 2) := by decide +kernel
theorem d1_123 : decode method_4_code 123 = .ok (.iconst 2, 1) := by decide +kernel
theorem d1_124 : decode method_4_code 124 = .ok (.if_icmp .ne 31, 3) := by decide +kernel
theorem d1_127 : decode method_4_code 127 = .ok (.iload_n 0, 1) := by decide +kernel
theorem d1_128 : decode method_4_code 128 = .ok (.bipush 31, 2) := by decide +kernel
theorem d1_130 : decode method_4_code 130 = .ok (.iand, 1) := by decide +kernel
theorem d1_131 : decode method_4_code 131 = .ok (.bipush 6, 2) := by decide +kernel
theorem d1_133 : decode method_4_code 133 = .ok (.ishl, 1) := by decide +kernel
theorem d1_134 : decode method_4_code 134 = .ok (.iload_n 1, 1) := by decide +kernel
theorem d1_135 : decode method_4_code 135 = .ok (.bipush 63, 2) := by decide +kernel
theorem d1_137 : decode method_4_code 137 = .ok (.iand, 1) := by decide +kernel
theorem d1_138 : decode method_4_code 138 = .ok (.ior, 1) := by decide +kernel
theorem d1_139 : decode method_4_code 139 = .ok (.istore 6, 2) := by decide +kernel
theorem d1_141 : decode method_4_code 141 = .ok (.iload 6, 2) := by decide +kernel
theorem d1_143 : decode method_4_code 143 = .ok (.sipush 128, 3) := by decide +kernel
theorem d1_146 : decode method_4_code 146 = .ok (.if_icmp .lt 7, 3) := by decide +kernel
theorem d1_153 : decode method_4_code 153 = .ok (.iconst 0, 1) := by decide +kernel
theorem d1_154 : decode method_4_code 154 = .ok (.ireturn, 1) := by decide +kernel
theorem d1_149 : decode method_4_code 149 = .ok (.iconst 2, 1) := by decide +kernel
theorem d1_150 : decode method_4_code 150 = .ok (.goto 4, 3) := by decide +kernel
theorem d1_31 : decode method_4_code 31 = .ok (.iload_n 0, 1) := by decide +kernel
theorem d1_32 : decode method_4_code 32 = .ok (.sipush 240, 3) := by decide +kernel
theorem d1_35 : decode method_4_code 35 = .ok (.iand, 1) := by decide +kernel
theorem d1_36 : decode method_4_code 36 = .ok (.sipush 224, 3) := by decide +kernel
theorem d1_39 : decode method_4_code 39 = .ok (.if_icmp .ne 9, 3) := by decide +kernel
theorem d1_42 : decode method_4_code 42 = .ok (.iconst 3, 1) := by decide +kernel
theorem d1_43 : decode method_4_code 43 = .ok (.istore 5, 2) := by decide +kernel
theorem d1_45 : decode method_4_code 45 = .ok (.goto 23, 3) := by decide +kernel
theorem d1_97 : decode method_4_code 97 = .ok (.iload_n 2, 1) := by decide +kernel
theorem d1_98 : decode method_4_code 98 = .ok (.invokestatic 19, 3) := by decide +kernel
theorem d1_101 : decode method_4_code 101 = .ok (.ifCond .ne 5, 3) := by decide +kernel
theorem d1_104 : decode method_4_code 104 = .ok (.iconst 0, 1) := by decide +kernel
theorem d1_105 : decode method_4_code 105 = .ok (.ireturn, 1) := by decide +kernel
theorem d1_155 : decode method_4_code 155 = .ok (.iload 5, 2) := by decide +kernel
theorem d1_157 : decode method_4_code 157 = .ok (.iconst 3, 1) := by decide +kernel
theorem d1_158 : decode method_4_code 158 = .ok (.if_icmp .ne 53, 3) := by decide +kernel
theorem d1_161 : decode method_4_code 161 = .ok (.iload_n 0, 1) := by decide +kernel
theorem d1_162 : decode method_4_code 162 = .ok (.bipush 15, 2) := by decide +kernel
theorem d1_164 : decode method_4_code 164 = .ok (.iand, 1) := by decide +kernel
theorem d1_165 : decode method_4_code 165 = .ok (.bipush 12, 2) := by decide +kernel
theorem d1_167 : decode method_4_code 167 = .ok (.ishl, 1) := by decide +kernel
theorem d1_168 : decode method_4_code 168 = .ok (.iload_n 1, 1) := by decide +kernel
theorem d1_169 : decode method_4_code 169 = .ok (.bipush 63, 2) := by decide +kernel
theorem d1_171 : decode method_4_code 171 = .ok (.iand, 1) := by decide +kernel
theorem d1_172 : decode method_4_code 172 = .ok (.bipush 6, 2) := by decide +kernel
theorem d1_174 : decode method_4_code 174 = .ok (.ishl, 1) := by decide +kernel
theorem d1_175 : decode method_4_code 175 = .ok (.ior, 1) := by decide +kernel
theorem d1_176 : decode method_4_code 176 = .ok (.iload_n 2, 1) := by decide +kernel
theorem d1_177 : decode method_4_code 177 = .ok (.bipush 63, 2) := by decide +kernel
theorem d1_179 : decode method_4_code 179 = .ok (.iand, 1) := by decide +kernel
theorem d1_180 : decode method_4_code 180 = .ok (.ior, 1) := by decide +kernel
theorem d1_181 : decode method_4_code 181 = .ok (.istore 6, 2) := by decide +kernel
theorem d1_183 : decode method_4_code 183 = .ok (.iload 6, 2) := by decide +kernel
theorem d1_185 : decode method_4_code 185 = .ok (.sipush 2048, 3) := by decide +kernel
theorem d1_188 : decode method_4_code 188 = .ok (.if_icmp .ge 5, 3) := by decide +kernel
theorem d1_191 : decode method_4_code 191 = .ok (.iconst 0, 1) := by decide +kernel
theorem d1_192 : decode method_4_code 192 = .ok (.ireturn, 1) := by decide +kernel
theorem d1_193 : decode method_4_code 193 = .ok (.iload 6, 2) := by decide +kernel
theorem d1_195 : decode method_4_code 195 = .ok (.ldc 23, 2) := by decide +kernel
theorem d1_197 : decode method_4_code 197 = .ok (.if_icmp .lt 12, 3) := by decide +kernel
theorem d1_209 : decode method_4_code 209 = .ok (.iconst 3, 1) := by decide +kernel
theorem d1_210 : decode method_4_code 210 = .ok (.ireturn, 1) := by decide +kernel
theorem d1_200 : decode method_4_code 200 = .ok (.iload 6, 2) := by decide +kernel
theorem d1_202 : decode method_4_code 202 = .ok (.ldc 24, 2) := by decide +kernel
theorem d1_204 : decode method_4_code 204 = .ok (.if_icmp .gt 5, 3) := by decide +kernel
theorem d1_207 : decode method_4_code 207 = .ok (.iconst 0, 1) := by decide +kernel
theorem d1_208 : decode method_4_code 208 = .ok (.ireturn, 1) := by decide +kernel
theorem d1_48 : decode method_4_code 48 = .ok (.iload_n 0, 1) := by decide +kernel
theorem d1_49 : decode method_4_code 49 = .ok (.sipush 248, 3) := by decide +kernel
theorem d1_52 : decode method_4_code 52 = .ok (.iand, 1) := by decide +kernel
theorem d1_53 : decode method_4_code 53 = .ok (.sipush 240, 3) := by decide +kernel
theorem d1_56 : decode method_4_code 56 = .ok (.if_icmp .ne 9, 3) := by decide +kernel
theorem d1_59 : decode method_4_code 59 = .ok (.iconst 4, 1) := by decide +kernel
theorem d1_60 : decode method_4_code 60 = .ok (.istore 5, 2) := by decide +kernel
theorem d1_62 : decode method_4_code 62 = .ok (.goto 6, 3) := by decide +kernel
theorem d1_112 : decode method_4_code 112 = .ok (.iload_n 3, 1) := by decide +kernel
theorem d1_113 : decode method_4_code 113 = .ok (.invokestatic 19, 3) := by decide +kernel
theorem d1_116 : decode method_4_code 116 = .ok (.ifCond .ne 5, 3) := by decide +kernel
theorem d1_119 : decode method_4_code 119 = .ok (.iconst 0, 1) := by decide +kernel
theorem d1_120 : decode method_4_code 120 = .ok (.ireturn, 1) := by decide +kernel
theorem d1_211 : decode method_4_code 211 = .ok (.iload_n 0, 1) := by decide +kernel
theorem d1_212 : decode method_4_code 212 = .ok (.bipush 7, 2) := by decide +kernel
theorem d1_214 : decode method_4_code 214 = .ok (.iand, 1) := by decide +kernel
theorem d1_215 : decode method_4_code 215 = .ok (.bipush 18, 2) := by decide +kernel
theorem d1_217 : decode method_4_code 217 = .ok (.ishl, 1) := by decide +kernel
theorem d1_218 : decode method_4_code 218 = .ok (.iload_n 1, 1) := by decide +kernel
theorem d1_219 : decode method_4_code 219 = .ok (.bipush 63, 2) := by decide +kernel
theorem d1_221 : decode method_4_code 221 = .ok (.iand, 1) := by decide +kernel
theorem d1_222 : decode method_4_code 222 = .ok (.bipush 12, 2) := by decide +kernel
theorem d1_224 : decode method_4_code 224 = .ok (.ishl, 1) := by decide +kernel
theorem d1_225 : decode method_4_code 225 = .ok (.ior, 1) := by decide +kernel
theorem d1_226 : decode method_4_code 226 = .ok (.iload_n 2, 1) := by decide +kernel
theorem d1_227 : decode method_4_code 227 = .ok (.bipush 63, 2) := by decide +kernel
theorem d1_229 : decode method_4_code 229 = .ok (.iand, 1) := by decide +kernel
theorem d1_230 : decode method_4_code 230 = .ok (.bipush 6, 2) := by decide +kernel
theorem d1_232 : decode method_4_code 232 = .ok (.ishl, 1) := by decide +kernel
theorem d1_233 : decode method_4_code 233 = .ok (.ior, 1) := by decide +kernel
theorem d1_234 : decode method_4_code 234 = .ok (.iload_n 3, 1) := by decide +kernel
theorem d1_235 : decode method_4_code 235 = .ok (.bipush 63, 2) := by decide +kernel
theorem d1_237 : decode method_4_code 237 = .ok (.iand, 1) := by decide +kernel
theorem d1_238 : decode method_4_code 238 = .ok (.ior, 1) := by decide +kernel
theorem d1_239 : decode method_4_code 239 = .ok (.istore 6, 2) := by decide +kernel
theorem d1_241 : decode method_4_code 241 = .ok (.iload 6, 2) := by decide +kernel
theorem d1_243 : decode method_4_code 243 = .ok (.ldc 25, 2) := by decide +kernel
theorem d1_245 : decode method_4_code 245 = .ok (.if_icmp .lt 10, 3) := by decide +kernel
theorem d1_255 : decode method_4_code 255 = .ok (.iconst 0, 1) := by decide +kernel
theorem d1_256 : decode method_4_code 256 = .ok (.ireturn, 1) := by decide +kernel
theorem d1_248 : decode method_4_code 248 = .ok (.iload 6, 2) := by decide +kernel
theorem d1_250 : decode method_4_code 250 = .ok (.ldc 26, 2) := by decide +kernel
theorem d1_252 : decode method_4_code 252 = .ok (.if_icmp .le 5, 3) := by decide +kernel
theorem d1_257 : decode method_4_code 257 = .ok (.iconst 4, 1) := by decide +kernel
theorem d1_258 : decode method_4_code 258 = .ok (.ireturn, 1) := by decide +kernel
theorem d1_65 : decode method_4_code 65 = .ok (.iconst 0, 1) := by decide +kernel
theorem d1_66 : decode method_4_code 66 = .ok (.istore 5, 2) := by decide +kernel
def QEx (Z : State) (u0 : Int32) (u1 : Int32) (u2 : Int32) (u3 : Int32) (u4 : Int32)  (h0 : Heap) (n0 : Nat) (v : Option Value) (h : Heap) (L : List Loc) : Prop := v = some (.int (own_ex u0 u1 u2 u3 u4)) ∧ Fr n0 L ∧ h = h0
theorem ef_rmEx (m : MethodId) (u0 : Int32) (u1 : Int32) (u2 : Int32) (u3 : Int32) (u4 : Int32) : entryFrame m #[(.int u0), (.int u1), (.int u2), (.int u3), (.int u4)] 7 = mkF m 0 #[iv u0, iv u1, iv u2, iv u3, iv u4, .unset, .unset] [] := by first | (simp [entryFrame, mkF, argsToLocals, Value.category]; done) | rfl
set_option maxRecDepth 65536 in
set_option maxHeartbeats 40000000 in
theorem rmEx (l : Launch) (Z : State) (a0 : Array Value) (hw : ∀ d ∈ tables_1, d.before a0 Z = true) (ws : List Jvm.Cond) (u0 : Int32) (u1 : Int32) (u2 : Int32) (u3 : Int32) (u4 : Int32)  (h0 : Heap) (n0 : Nat) (Z0 : n0 ≤ h0.size) :
    MetFree l (⟨"com/example/rivanna/rivanna/core/json/Utf8SequenceLengthPinLaw", "expected", "(IIIII)I"⟩ : MethodName) (head1 (Jvm.Cond.code (⟨"com/example/rivanna/rivanna/core/json/Utf8SequenceLengthPinLaw", "expected", "(IIIII)I"⟩ : MethodName) method_4_code 7 (some .int) :: ws) ({ frames := 1, cells := 0, slots := 0, locals := 12 } : Room)) (fun a U => a = #[(.int u0), (.int u1), (.int u2), (.int u3), (.int u4)] ∧ Z.Warmed39 U.vm ∧ U.heap = h0) (fun _ _ _ _ _ => True) (fun _ U o U' => ∃ v L, o = .returned v ∧ QEx Z u0 u1 u2 u3 u4 h0 n0 v U'.heap L ∧ FrameEnd U o U' L ({ frames := 1, cells := 0, slots := 0, locals := 12 } : Room).cells ({ frames := 1, cells := 0, slots := 0, locals := 12 } : Room).slots) := by
  refine MetFree.of_bodySF (plainFor_of_name pn_0) hisR ?_
  intro p e s m args below meth c s₁ Bd hml0 hP hK
  obtain ⟨rfl, hZ, hh⟩ := hP
  have hx := Bd.exec
  have hby := Bd.bytes
  have hml : c.maxLocals = 7 := hml0
  have hown : s.vm.findClass "com/example/rivanna/rivanna/core/json/Utf8SequenceLengthPinLaw" = some m.cls := findClass_of_methodNamed Bd.named
  have hnm := (name_of_methodNamed Bd.named Bd.method).1
  have X0 : Stand p l e ({ frames := 1, cells := 0, slots := 0, locals := 12 } : Room) s m #[(.int u0), (.int u1), (.int u2), (.int u3), (.int u4)] below meth c s₁ [] 0 0 := Stand.of_body Bd
  have e0 : s₁.heap = h0 := by rw [← hh, Bd.state]; rfl
  have N0 := Fr.nil n0
  have S0 : ∀ t, Steps p.tables e below (s₁.setTop (mkF m 0 #[iv u0, iv u1, iv u2, iv u3, iv u4, .unset, .unset] [])) t → Steps p.tables e below (s₁.setTop (entryFrame m #[(.int u0), (.int u1), (.int u2), (.int u3), (.int u4)] 7)) t := fun t k => castTop (ef_rmEx m u0 u1 u2 u3 u4) k
  have S1 : ∀ t, Steps p.tables e below (s₁.setTop (mkF m 5 #[iv u0, iv u1, iv u2, iv u3, iv u4, .unset, .unset] [(.int (u0 &&& (128 : Int32)))])) t → Steps p.tables e below (s₁.setTop (entryFrame m #[(.int u0), (.int u1), (.int u2), (.int u3), (.int u4)] 7)) t := by
    intro t k
    refine S0 t ?_
    show Steps p.tables e below (s₁.setTop (mkF m 0 #[iv u0, iv u1, iv u2, iv u3, iv u4, .unset, .unset] [])) _
    refine XS.iloadN X0.here hx rfl (hb hby d1_0) rfl ?_
    show Steps p.tables e below (s₁.setTop (mkF m 1 #[iv u0, iv u1, iv u2, iv u3, iv u4, .unset, .unset] [(.int u0)])) _
    refine XS.sipush X0.here hx rfl (hb hby d1_1) ?_
    show Steps p.tables e below (s₁.setTop (mkF m 4 #[iv u0, iv u1, iv u2, iv u3, iv u4, .unset, .unset] [(.int (128 : Int32)), (.int u0)])) _
    refine XS.iand X0.here hx rfl (hb hby d1_4) rfl ?_
    exact k
  by_cases hc2 : (u0 &&& (128 : Int32)) = (0 : Int32)
  · skip
    obtain ⟨fs, hr, hrun, hended, hW, hsame⟩ := X0.leave (v := some (.int (0 : Int32))) (fun h => by rw [Bd.returns] at h; cases h)
    refine ⟨_, _, S1 _ ?_, hrun, hended, _, _, rfl, ?_, ⟨_, rfl⟩, hW, hsame.mono (by decide) (by decide)⟩
    · skip
      show Steps p.tables e below (s₁.setTop (mkF m 5 #[iv u0, iv u1, iv u2, iv u3, iv u4, .unset, .unset] [(.int (u0 &&& (128 : Int32)))])) _
      refine XS.ifNo X0.here hx rfl (hb hby d1_5) rfl ((if0 _ _).trans (teq hc2).2) ?_
      show Steps p.tables e below (s₁.setTop (mkF m 8 #[iv u0, iv u1, iv u2, iv u3, iv u4, .unset, .unset] [])) _
      refine XS.iconst X0.here hx rfl (hb hby d1_8) ?_
      show Steps p.tables e below (s₁.setTop (mkF m 9 #[iv u0, iv u1, iv u2, iv u3, iv u4, .unset, .unset] [(.int (0 : Int32))])) _
      refine XS.istore X0.here hx rfl (hb hby d1_9) rfl (l' := #[iv u0, iv u1, iv u2, iv u3, iv u4, iv (0 : Int32), .unset]) rfl ?_
      show Steps p.tables e below (s₁.setTop (mkF m 11 #[iv u0, iv u1, iv u2, iv u3, iv u4, iv (0 : Int32), .unset] [])) _
      refine XS.goto X0.here hx rfl (pc0 := 11) (pc' := 68) rfl (hb hby d1_11) (by decide) (by decide) ?_
      show Steps p.tables e below (s₁.setTop (mkF m 68 #[iv u0, iv u1, iv u2, iv u3, iv u4, iv (0 : Int32), .unset] [])) _
      refine XS.iload X0.here hx rfl (hb hby d1_68) rfl ?_
      show Steps p.tables e below (s₁.setTop (mkF m 70 #[iv u0, iv u1, iv u2, iv u3, iv u4, iv (0 : Int32), .unset] [(.int (0 : Int32))])) _
      refine XS.ifYes X0.here hx rfl (pc0 := 70) (pc' := 80) rfl (hb hby d1_70) rfl ((if0 _ _).trans (teq (by decide : (0 : Int32) = (0 : Int32))).1) (by decide) (by decide) ?_
      show Steps p.tables e below (s₁.setTop (mkF m 80 #[iv u0, iv u1, iv u2, iv u3, iv u4, iv (0 : Int32), .unset] [])) _
      refine XS.iconst X0.here hx rfl (hb hby d1_80) ?_
      show Steps p.tables e below (s₁.setTop (mkF m 81 #[iv u0, iv u1, iv u2, iv u3, iv u4, iv (0 : Int32), .unset] [(.int (0 : Int32))])) _
      exact retI X0 hx Bd.returns (hb hby d1_81) hr
    · show QEx Z u0 u1 u2 u3 u4 h0 n0 _ s₁.heap _
      rw [e0]
      exact ⟨(by unfold own_ex; rw [if_pos hc2]), N0, rfl⟩
  · skip
    have S3 : ∀ t, Steps p.tables e below (s₁.setTop (mkF m 22 #[iv u0, iv u1, iv u2, iv u3, iv u4, .unset, .unset] [(.int (192 : Int32)), (.int (u0 &&& (224 : Int32)))])) t → Steps p.tables e below (s₁.setTop (entryFrame m #[(.int u0), (.int u1), (.int u2), (.int u3), (.int u4)] 7)) t := by
      intro t k
      refine S1 t ?_
      show Steps p.tables e below (s₁.setTop (mkF m 5 #[iv u0, iv u1, iv u2, iv u3, iv u4, .unset, .unset] [(.int (u0 &&& (128 : Int32)))])) _
      refine XS.ifYes X0.here hx rfl (pc0 := 5) (pc' := 14) rfl (hb hby d1_5) rfl ((if0 _ _).trans (feq hc2).2) (by decide) (by decide) ?_
      show Steps p.tables e below (s₁.setTop (mkF m 14 #[iv u0, iv u1, iv u2, iv u3, iv u4, .unset, .unset] [])) _
      refine XS.iloadN X0.here hx rfl (hb hby d1_14) rfl ?_
      show Steps p.tables e below (s₁.setTop (mkF m 15 #[iv u0, iv u1, iv u2, iv u3, iv u4, .unset, .unset] [(.int u0)])) _
      refine XS.sipush X0.here hx rfl (hb hby d1_15) ?_
      show Steps p.tables e below (s₁.setTop (mkF m 18 #[iv u0, iv u1, iv u2, iv u3, iv u4, .unset, .unset] [(.int (224 : Int32)), (.int u0)])) _
      refine XS.iand X0.here hx rfl (hb hby d1_18) rfl ?_
      show Steps p.tables e below (s₁.setTop (mkF m 19 #[iv u0, iv u1, iv u2, iv u3, iv u4, .unset, .unset] [(.int (u0 &&& (224 : Int32)))])) _
      refine XS.sipush X0.here hx rfl (hb hby d1_19) ?_
      exact k
    by_cases hc4 : (u0 &&& (224 : Int32)) = (192 : Int32)
    · skip
      have S5 : ∀ t, Steps p.tables e below (s₁.setTop (mkF m 77 #[iv u0, iv u1, iv u2, iv u3, iv u4, iv (2 : Int32), .unset] [(.int u4), (.int (2 : Int32))])) t → Steps p.tables e below (s₁.setTop (entryFrame m #[(.int u0), (.int u1), (.int u2), (.int u3), (.int u4)] 7)) t := by
        intro t k
        refine S3 t ?_
        show Steps p.tables e below (s₁.setTop (mkF m 22 #[iv u0, iv u1, iv u2, iv u3, iv u4, .unset, .unset] [(.int (192 : Int32)), (.int (u0 &&& (224 : Int32)))])) _
        refine XS.icmpNo X0.here hx rfl (hb hby d1_22) rfl (teq hc4).2 ?_
        show Steps p.tables e below (s₁.setTop (mkF m 25 #[iv u0, iv u1, iv u2, iv u3, iv u4, .unset, .unset] [])) _
        refine XS.iconst X0.here hx rfl (hb hby d1_25) ?_
        show Steps p.tables e below (s₁.setTop (mkF m 26 #[iv u0, iv u1, iv u2, iv u3, iv u4, .unset, .unset] [(.int (2 : Int32))])) _
        refine XS.istore X0.here hx rfl (hb hby d1_26) rfl (l' := #[iv u0, iv u1, iv u2, iv u3, iv u4, iv (2 : Int32), .unset]) rfl ?_
        show Steps p.tables e below (s₁.setTop (mkF m 28 #[iv u0, iv u1, iv u2, iv u3, iv u4, iv (2 : Int32), .unset] [])) _
        refine XS.goto X0.here hx rfl (pc0 := 28) (pc' := 68) rfl (hb hby d1_28) (by decide) (by decide) ?_
        show Steps p.tables e below (s₁.setTop (mkF m 68 #[iv u0, iv u1, iv u2, iv u3, iv u4, iv (2 : Int32), .unset] [])) _
        refine XS.iload X0.here hx rfl (hb hby d1_68) rfl ?_
        show Steps p.tables e below (s₁.setTop (mkF m 70 #[iv u0, iv u1, iv u2, iv u3, iv u4, iv (2 : Int32), .unset] [(.int (2 : Int32))])) _
        refine XS.ifNo X0.here hx rfl (hb hby d1_70) rfl ((if0 _ _).trans (feq (by decide : ¬ ((2 : Int32) = (0 : Int32)))).1) ?_
        show Steps p.tables e below (s₁.setTop (mkF m 73 #[iv u0, iv u1, iv u2, iv u3, iv u4, iv (2 : Int32), .unset] [])) _
        refine XS.iload X0.here hx rfl (hb hby d1_73) rfl ?_
        show Steps p.tables e below (s₁.setTop (mkF m 75 #[iv u0, iv u1, iv u2, iv u3, iv u4, iv (2 : Int32), .unset] [(.int (2 : Int32))])) _
        refine XS.iload X0.here hx rfl (hb hby d1_75) rfl ?_
        exact k
      by_cases hc6 : u4 < (2 : Int32)
      · skip
        obtain ⟨fs, hr, hrun, hended, hW, hsame⟩ := X0.leave (v := some (.int (0 : Int32))) (fun h => by rw [Bd.returns] at h; cases h)
        refine ⟨_, _, S5 _ ?_, hrun, hended, _, _, rfl, ?_, ⟨_, rfl⟩, hW, hsame.mono (by decide) (by decide)⟩
        · skip
          show Steps p.tables e below (s₁.setTop (mkF m 77 #[iv u0, iv u1, iv u2, iv u3, iv u4, iv (2 : Int32), .unset] [(.int u4), (.int (2 : Int32))])) _
          refine XS.icmpNo X0.here hx rfl (hb hby d1_77) rfl (tlt hc6).2.2.2 ?_
          show Steps p.tables e below (s₁.setTop (mkF m 80 #[iv u0, iv u1, iv u2, iv u3, iv u4, iv (2 : Int32), .unset] [])) _
          refine XS.iconst X0.here hx rfl (hb hby d1_80) ?_
          show Steps p.tables e below (s₁.setTop (mkF m 81 #[iv u0, iv u1, iv u2, iv u3, iv u4, iv (2 : Int32), .unset] [(.int (0 : Int32))])) _
          exact retI X0 hx Bd.returns (hb hby d1_81) hr
        · show QEx Z u0 u1 u2 u3 u4 h0 n0 _ s₁.heap _
          rw [e0]
          exact ⟨(by unfold own_ex; rw [if_neg hc2, if_pos hc4, if_pos hc6]), N0, rfl⟩
      · skip
        obtain ⟨_, _, ⟨T7, L7, k7, n7⟩, -, X7, ⟨Lc7, hQ7, l7, y7, z7⟩, st7⟩ := Jvm.LawKit.callS X0 hx (y := (⟨"com/example/rivanna/rivanna/core/json/Utf8SequenceLengthPinLaw", "cont", "(I)Z"⟩ : MethodName)) hown (mvT hZ (hw _ (List.mem_of_getElem? (i := 11) rfl))) (mvT hZ (hw _ (List.mem_of_getElem? (i := 12) rfl))) (mvT hZ (hw _ (List.mem_of_getElem? (i := 3) rfl))) (mvT hZ (hw _ (List.mem_of_getElem? (i := 13) rfl))) (by decide) (backOf (W := 0) (rmCt l Z a0 hw [] u1 h0 n0 Z0) hZ (hw _ (List.mem_of_getElem? (i := 13) rfl)) (hw _ (List.mem_of_getElem? (i := 3) rfl)) (by decide) (by decide)) (g := (mkF m 83 #[iv u0, iv u1, iv u2, iv u3, iv u4, iv (2 : Int32), .unset] [(.int u1)])) rfl (by rw [hml]; rfl) (argsL := [(.int u1)]) (rest := []) (lenOf pd_0 rfl) rfl (by show 2 * 0 + _ ≤ _; exact Nat.le_of_eq rfl) (hb hby d1_83) (fun _ _ => ⟨rfl, e0, (by decide : 0 + 0 ≤ _), (by decide : 0 + 0 ≤ _)⟩)
        dsimp only [Pt.U, Pt.locs, Pt.cells, Pt.slots] at X7 l7 y7 z7 st7 hQ7
        subst y7 z7
        obtain ⟨rfl, Nq7, eq7⟩ := hQ7
        have N7 : Fr n0 L7 := by rw [l7]; exact Fr.app N0 Nq7
        have S8 : ∀ t, Steps p.tables e below (T7.setTop (mkF m 86 #[iv u0, iv u1, iv u2, iv u3, iv u4, iv (2 : Int32), .unset] [(.int (own_ct u1))])) t → Steps p.tables e below (s₁.setTop (entryFrame m #[(.int u0), (.int u1), (.int u2), (.int u3), (.int u4)] 7)) t := by
          intro t k
          refine S5 t ?_
          show Steps p.tables e below (s₁.setTop (mkF m 77 #[iv u0, iv u1, iv u2, iv u3, iv u4, iv (2 : Int32), .unset] [(.int u4), (.int (2 : Int32))])) _
          refine XS.icmpYes X0.here hx rfl (pc0 := 77) (pc' := 82) rfl (hb hby d1_77) rfl (flt hc6).2.2.2 (by decide) (by decide) ?_
          show Steps p.tables e below (s₁.setTop (mkF m 82 #[iv u0, iv u1, iv u2, iv u3, iv u4, iv (2 : Int32), .unset] [])) _
          refine XS.iloadN X0.here hx rfl (hb hby d1_82) rfl ?_
          show Steps p.tables e below (s₁.setTop (mkF m 83 #[iv u0, iv u1, iv u2, iv u3, iv u4, iv (2 : Int32), .unset] [(.int u1)])) _
          refine st7 _ ?_
          exact k
        by_cases hc9 : (own_ct u1) = (0 : Int32)
        · skip
          obtain ⟨fs, hr, hrun, hended, hW, hsame⟩ := X7.leave (v := some (.int (0 : Int32))) (fun h => by rw [Bd.returns] at h; cases h)
          refine ⟨_, _, S8 _ ?_, hrun, hended, _, _, rfl, ?_, ⟨_, rfl⟩, hW, hsame.mono (by decide) (by decide)⟩
          · skip
            show Steps p.tables e below (T7.setTop (mkF m 86 #[iv u0, iv u1, iv u2, iv u3, iv u4, iv (2 : Int32), .unset] [(.int (own_ct u1))])) _
            refine XS.ifNo X7.here hx rfl (hb hby d1_86) rfl ((if0 _ _).trans (teq hc9).2) ?_
            show Steps p.tables e below (T7.setTop (mkF m 89 #[iv u0, iv u1, iv u2, iv u3, iv u4, iv (2 : Int32), .unset] [])) _
            refine XS.iconst X7.here hx rfl (hb hby d1_89) ?_
            show Steps p.tables e below (T7.setTop (mkF m 90 #[iv u0, iv u1, iv u2, iv u3, iv u4, iv (2 : Int32), .unset] [(.int (0 : Int32))])) _
            exact retI X7 hx Bd.returns (hb hby d1_90) hr
          · show QEx Z u0 u1 u2 u3 u4 h0 n0 _ T7.heap _
            rw [eq7]
            exact ⟨(by unfold own_ex; rw [if_neg hc2, if_pos hc4, if_neg hc6, if_pos hc9]), N7, rfl⟩
        · skip
          have S10 : ∀ t, Steps p.tables e below (T7.setTop (mkF m 146 #[iv u0, iv u1, iv u2, iv u3, iv u4, iv (2 : Int32), iv (((u0 &&& (31 : Int32)) <<< ((6 : Int32) &&& 31)) ||| (u1 &&& (63 : Int32)))] [(.int (128 : Int32)), (.int (((u0 &&& (31 : Int32)) <<< ((6 : Int32) &&& 31)) ||| (u1 &&& (63 : Int32))))])) t → Steps p.tables e below (s₁.setTop (entryFrame m #[(.int u0), (.int u1), (.int u2), (.int u3), (.int u4)] 7)) t := by
            intro t k
            refine S8 t ?_
            show Steps p.tables e below (T7.setTop (mkF m 86 #[iv u0, iv u1, iv u2, iv u3, iv u4, iv (2 : Int32), .unset] [(.int (own_ct u1))])) _
            refine XS.ifYes X7.here hx rfl (pc0 := 86) (pc' := 91) rfl (hb hby d1_86) rfl ((if0 _ _).trans (feq hc9).2) (by decide) (by decide) ?_
            show Steps p.tables e below (T7.setTop (mkF m 91 #[iv u0, iv u1, iv u2, iv u3, iv u4, iv (2 : Int32), .unset] [])) _
            refine XS.iload X7.here hx rfl (hb hby d1_91) rfl ?_
            show Steps p.tables e below (T7.setTop (mkF m 93 #[iv u0, iv u1, iv u2, iv u3, iv u4, iv (2 : Int32), .unset] [(.int (2 : Int32))])) _
            refine XS.iconst X7.here hx rfl (hb hby d1_93) ?_
            show Steps p.tables e below (T7.setTop (mkF m 94 #[iv u0, iv u1, iv u2, iv u3, iv u4, iv (2 : Int32), .unset] [(.int (3 : Int32)), (.int (2 : Int32))])) _
            refine XS.icmpYes X7.here hx rfl (pc0 := 94) (pc' := 106) rfl (hb hby d1_94) rfl (tlt (by decide : (2 : Int32) < (3 : Int32))).1 (by decide) (by decide) ?_
            show Steps p.tables e below (T7.setTop (mkF m 106 #[iv u0, iv u1, iv u2, iv u3, iv u4, iv (2 : Int32), .unset] [])) _
            refine XS.iload X7.here hx rfl (hb hby d1_106) rfl ?_
            show Steps p.tables e below (T7.setTop (mkF m 108 #[iv u0, iv u1, iv u2, iv u3, iv u4, iv (2 : Int32), .unset] [(.int (2 : Int32))])) _
            refine XS.iconst X7.here hx rfl (hb hby d1_108) ?_
            show Steps p.tables e below (T7.setTop (mkF m 109 #[iv u0, iv u1, iv u2, iv u3, iv u4, iv (2 : Int32), .unset] [(.int (4 : Int32)), (.int (2 : Int32))])) _
            refine XS.icmpYes X7.here hx rfl (pc0 := 109) (pc' := 121) rfl (hb hby d1_109) rfl (feq (by decide : ¬ ((2 : Int32) = (4 : Int32)))).2 (by decide) (by decide) ?_
            show Steps p.tables e below (T7.setTop (mkF m 121 #[iv u0, iv u1, iv u2, iv u3, iv u4, iv (2 : Int32), .unset] [])) _
            refine XS.iload X7.here hx rfl (hb hby d1_121) rfl ?_
            show Steps p.tables e below (T7.setTop (mkF m 123 #[iv u0, iv u1, iv u2, iv u3, iv u4, iv (2 : Int32), .unset] [(.int (2 : Int32))])) _
            refine XS.iconst X7.here hx rfl (hb hby d1_123) ?_
            show Steps p.tables e below (T7.setTop (mkF m 124 #[iv u0, iv u1, iv u2, iv u3, iv u4, iv (2 : Int32), .unset] [(.int (2 : Int32)), (.int (2 : Int32))])) _
            refine XS.icmpNo X7.here hx rfl (hb hby d1_124) rfl (teq (by decide : (2 : Int32) = (2 : Int32))).2 ?_
            show Steps p.tables e below (T7.setTop (mkF m 127 #[iv u0, iv u1, iv u2, iv u3, iv u4, iv (2 : Int32), .unset] [])) _
            refine XS.iloadN X7.here hx rfl (hb hby d1_127) rfl ?_
            show Steps p.tables e below (T7.setTop (mkF m 128 #[iv u0, iv u1, iv u2, iv u3, iv u4, iv (2 : Int32), .unset] [(.int u0)])) _
            refine XS.bipush X7.here hx rfl (hb hby d1_128) ?_
            show Steps p.tables e below (T7.setTop (mkF m 130 #[iv u0, iv u1, iv u2, iv u3, iv u4, iv (2 : Int32), .unset] [(.int (31 : Int32)), (.int u0)])) _
            refine XS.iand X7.here hx rfl (hb hby d1_130) rfl ?_
            show Steps p.tables e below (T7.setTop (mkF m 131 #[iv u0, iv u1, iv u2, iv u3, iv u4, iv (2 : Int32), .unset] [(.int (u0 &&& (31 : Int32)))])) _
            refine XS.bipush X7.here hx rfl (hb hby d1_131) ?_
            show Steps p.tables e below (T7.setTop (mkF m 133 #[iv u0, iv u1, iv u2, iv u3, iv u4, iv (2 : Int32), .unset] [(.int (6 : Int32)), (.int (u0 &&& (31 : Int32)))])) _
            refine XS.ishl X7.here hx rfl (hb hby d1_133) rfl ?_
            show Steps p.tables e below (T7.setTop (mkF m 134 #[iv u0, iv u1, iv u2, iv u3, iv u4, iv (2 : Int32), .unset] [(.int ((u0 &&& (31 : Int32)) <<< ((6 : Int32) &&& 31)))])) _
            refine XS.iloadN X7.here hx rfl (hb hby d1_134) rfl ?_
            show Steps p.tables e below (T7.setTop (mkF m 135 #[iv u0, iv u1, iv u2, iv u3, iv u4, iv (2 : Int32), .unset] [(.int u1), (.int ((u0 &&& (31 : Int32)) <<< ((6 : Int32) &&& 31)))])) _
            refine XS.bipush X7.here hx rfl (hb hby d1_135) ?_
            show Steps p.tables e below (T7.setTop (mkF m 137 #[iv u0, iv u1, iv u2, iv u3, iv u4, iv (2 : Int32), .unset] [(.int (63 : Int32)), (.int u1), (.int ((u0 &&& (31 : Int32)) <<< ((6 : Int32) &&& 31)))])) _
            refine XS.iand X7.here hx rfl (hb hby d1_137) rfl ?_
            show Steps p.tables e below (T7.setTop (mkF m 138 #[iv u0, iv u1, iv u2, iv u3, iv u4, iv (2 : Int32), .unset] [(.int (u1 &&& (63 : Int32))), (.int ((u0 &&& (31 : Int32)) <<< ((6 : Int32) &&& 31)))])) _
            refine XS.ior X7.here hx rfl (hb hby d1_138) rfl ?_
            show Steps p.tables e below (T7.setTop (mkF m 139 #[iv u0, iv u1, iv u2, iv u3, iv u4, iv (2 : Int32), .unset] [(.int (((u0 &&& (31 : Int32)) <<< ((6 : Int32) &&& 31)) ||| (u1 &&& (63 : Int32))))])) _
            refine XS.istore X7.here hx rfl (hb hby d1_139) rfl (l' := #[iv u0, iv u1, iv u2, iv u3, iv u4, iv (2 : Int32), iv (((u0 &&& (31 : Int32)) <<< ((6 : Int32) &&& 31)) ||| (u1 &&& (63 : Int32)))]) rfl ?_
            show Steps p.tables e below (T7.setTop (mkF m 141 #[iv u0, iv u1, iv u2, iv u3, iv u4, iv (2 : Int32), iv (((u0 &&& (31 : Int32)) <<< ((6 : Int32) &&& 31)) ||| (u1 &&& (63 : Int32)))] [])) _
            refine XS.iload X7.here hx rfl (hb hby d1_141) rfl ?_
            show Steps p.tables e below (T7.setTop (mkF m 143 #[iv u0, iv u1, iv u2, iv u3, iv u4, iv (2 : Int32), iv (((u0 &&& (31 : Int32)) <<< ((6 : Int32) &&& 31)) ||| (u1 &&& (63 : Int32)))] [(.int (((u0 &&& (31 : Int32)) <<< ((6 : Int32) &&& 31)) ||| (u1 &&& (63 : Int32))))])) _
            refine XS.sipush X7.here hx rfl (hb hby d1_143) ?_
            exact k
          by_cases hc11 : (((u0 &&& (31 : Int32)) <<< ((6 : Int32) &&& 31)) ||| (u1 &&& (63 : Int32))) < (128 : Int32)
          · skip
            obtain ⟨fs, hr, hrun, hended, hW, hsame⟩ := X7.leave (v := some (.int (0 : Int32))) (fun h => by rw [Bd.returns] at h; cases h)
            refine ⟨_, _, S10 _ ?_, hrun, hended, _, _, rfl, ?_, ⟨_, rfl⟩, hW, hsame.mono (by decide) (by decide)⟩
            · skip
              show Steps p.tables e below (T7.setTop (mkF m 146 #[iv u0, iv u1, iv u2, iv u3, iv u4, iv (2 : Int32), iv (((u0 &&& (31 : Int32)) <<< ((6 : Int32) &&& 31)) ||| (u1 &&& (63 : Int32)))] [(.int (128 : Int32)), (.int (((u0 &&& (31 : Int32)) <<< ((6 : Int32) &&& 31)) ||| (u1 &&& (63 : Int32))))])) _
              refine XS.icmpYes X7.here hx rfl (pc0 := 146) (pc' := 153) rfl (hb hby d1_146) rfl (tlt hc11).1 (by decide) (by decide) ?_
              show Steps p.tables e below (T7.setTop (mkF m 153 #[iv u0, iv u1, iv u2, iv u3, iv u4, iv (2 : Int32), iv (((u0 &&& (31 : Int32)) <<< ((6 : Int32) &&& 31)) ||| (u1 &&& (63 : Int32)))] [])) _
              refine XS.iconst X7.here hx rfl (hb hby d1_153) ?_
              show Steps p.tables e below (T7.setTop (mkF m 154 #[iv u0, iv u1, iv u2, iv u3, iv u4, iv (2 : Int32), iv (((u0 &&& (31 : Int32)) <<< ((6 : Int32) &&& 31)) ||| (u1 &&& (63 : Int32)))] [(.int (0 : Int32))])) _
              exact retI X7 hx Bd.returns (hb hby d1_154) hr
            · show QEx Z u0 u1 u2 u3 u4 h0 n0 _ T7.heap _
              rw [eq7]
              exact ⟨(by unfold own_ex; rw [if_neg hc2, if_pos hc4, if_neg hc6, if_neg hc9, if_pos hc11]), N7, rfl⟩
          · skip
            obtain ⟨fs, hr, hrun, hended, hW, hsame⟩ := X7.leave (v := some (.int (2 : Int32))) (fun h => by rw [Bd.returns] at h; cases h)
            refine ⟨_, _, S10 _ ?_, hrun, hended, _, _, rfl, ?_, ⟨_, rfl⟩, hW, hsame.mono (by decide) (by decide)⟩
            · skip
              show Steps p.tables e below (T7.setTop (mkF m 146 #[iv u0, iv u1, iv u2, iv u3, iv u4, iv (2 : Int32), iv (((u0 &&& (31 : Int32)) <<< ((6 : Int32) &&& 31)) ||| (u1 &&& (63 : Int32)))] [(.int (128 : Int32)), (.int (((u0 &&& (31 : Int32)) <<< ((6 : Int32) &&& 31)) ||| (u1 &&& (63 : Int32))))])) _
              refine XS.icmpNo X7.here hx rfl (hb hby d1_146) rfl (flt hc11).1 ?_
              show Steps p.tables e below (T7.setTop (mkF m 149 #[iv u0, iv u1, iv u2, iv u3, iv u4, iv (2 : Int32), iv (((u0 &&& (31 : Int32)) <<< ((6 : Int32) &&& 31)) ||| (u1 &&& (63 : Int32)))] [])) _
              refine XS.iconst X7.here hx rfl (hb hby d1_149) ?_
              show Steps p.tables e below (T7.setTop (mkF m 150 #[iv u0, iv u1, iv u2, iv u3, iv u4, iv (2 : Int32), iv (((u0 &&& (31 : Int32)) <<< ((6 : Int32) &&& 31)) ||| (u1 &&& (63 : Int32)))] [(.int (2 : Int32))])) _
              refine XS.goto X7.here hx rfl (pc0 := 150) (pc' := 154) rfl (hb hby d1_150) (by decide) (by decide) ?_
              show Steps p.tables e below (T7.setTop (mkF m 154 #[iv u0, iv u1, iv u2, iv u3, iv u4, iv (2 : Int32), iv (((u0 &&& (31 : Int32)) <<< ((6 : Int32) &&& 31)) ||| (u1 &&& (63 : Int32)))] [(.int (2 : Int32))])) _
              exact retI X7 hx Bd.returns (hb hby d1_154) hr
            · show QEx Z u0 u1 u2 u3 u4 h0 n0 _ T7.heap _
              rw [eq7]
              exact ⟨(by unfold own_ex; rw [if_neg hc2, if_pos hc4, if_neg hc6, if_neg hc9, if_neg hc11]), N7, rfl⟩
    · skip
      have S12 : ∀ t, Steps p.tables e below (s₁.setTop (mkF m 39 #[iv u0, iv u1, iv u2, iv u3, iv u4, .unset, .unset] [(.int (224 : Int32)), (.int (u0 &&& (240 : Int32)))])) t → Steps p.tables e below (s₁.setTop (entryFrame m #[(.int u0), (.int u1), (.int u2), (.int u3), (.int u4)] 7)) t := by
        intro t k
        refine S3 t ?_
        show Steps p.tables e below (s₁.setTop (mkF m 22 #[iv u0, iv u1, iv u2, iv u3, iv u4, .unset, .unset] [(.int (192 : Int32)), (.int (u0 &&& (224 : Int32)))])) _
        refine XS.icmpYes X0.here hx rfl (pc0 := 22) (pc' := 31) rfl (hb hby d1_22) rfl (feq hc4).2 (by decide) (by decide) ?_
        show Steps p.tables e below (s₁.setTop (mkF m 31 #[iv u0, iv u1, iv u2, iv u3, iv u4, .unset, .unset] [])) _
        refine XS.iloadN X0.here hx rfl (hb hby d1_31) rfl ?_
        show Steps p.tables e below (s₁.setTop (mkF m 32 #[iv u0, iv u1, iv u2, iv u3, iv u4, .unset, .unset] [(.int u0)])) _
        refine XS.sipush X0.here hx rfl (hb hby d1_32) ?_
        show Steps p.tables e below (s₁.setTop (mkF m 35 #[iv u0, iv u1, iv u2, iv u3, iv u4, .unset, .unset] [(.int (240 : Int32)), (.int u0)])) _
        refine XS.iand X0.here hx rfl (hb hby d1_35) rfl ?_
        show Steps p.tables e below (s₁.setTop (mkF m 36 #[iv u0, iv u1, iv u2, iv u3, iv u4, .unset, .unset] [(.int (u0 &&& (240 : Int32)))])) _
        refine XS.sipush X0.here hx rfl (hb hby d1_36) ?_
        exact k
      by_cases hc13 : (u0 &&& (240 : Int32)) = (224 : Int32)
      · skip
        have S14 : ∀ t, Steps p.tables e below (s₁.setTop (mkF m 77 #[iv u0, iv u1, iv u2, iv u3, iv u4, iv (3 : Int32), .unset] [(.int u4), (.int (3 : Int32))])) t → Steps p.tables e below (s₁.setTop (entryFrame m #[(.int u0), (.int u1), (.int u2), (.int u3), (.int u4)] 7)) t := by
          intro t k
          refine S12 t ?_
          show Steps p.tables e below (s₁.setTop (mkF m 39 #[iv u0, iv u1, iv u2, iv u3, iv u4, .unset, .unset] [(.int (224 : Int32)), (.int (u0 &&& (240 : Int32)))])) _
          refine XS.icmpNo X0.here hx rfl (hb hby d1_39) rfl (teq hc13).2 ?_
          show Steps p.tables e below (s₁.setTop (mkF m 42 #[iv u0, iv u1, iv u2, iv u3, iv u4, .unset, .unset] [])) _
          refine XS.iconst X0.here hx rfl (hb hby d1_42) ?_
          show Steps p.tables e below (s₁.setTop (mkF m 43 #[iv u0, iv u1, iv u2, iv u3, iv u4, .unset, .unset] [(.int (3 : Int32))])) _
          refine XS.istore X0.here hx rfl (hb hby d1_43) rfl (l' := #[iv u0, iv u1, iv u2, iv u3, iv u4, iv (3 : Int32), .unset]) rfl ?_
          show Steps p.tables e below (s₁.setTop (mkF m 45 #[iv u0, iv u1, iv u2, iv u3, iv u4, iv (3 : Int32), .unset] [])) _
          refine XS.goto X0.here hx rfl (pc0 := 45) (pc' := 68) rfl (hb hby d1_45) (by decide) (by decide) ?_
          show Steps p.tables e below (s₁.setTop (mkF m 68 #[iv u0, iv u1, iv u2, iv u3, iv u4, iv (3 : Int32), .unset] [])) _
          refine XS.iload X0.here hx rfl (hb hby d1_68) rfl ?_
          show Steps p.tables e below (s₁.setTop (mkF m 70 #[iv u0, iv u1, iv u2, iv u3, iv u4, iv (3 : Int32), .unset] [(.int (3 : Int32))])) _
          refine XS.ifNo X0.here hx rfl (hb hby d1_70) rfl ((if0 _ _).trans (feq (by decide : ¬ ((3 : Int32) = (0 : Int32)))).1) ?_
          show Steps p.tables e below (s₁.setTop (mkF m 73 #[iv u0, iv u1, iv u2, iv u3, iv u4, iv (3 : Int32), .unset] [])) _
          refine XS.iload X0.here hx rfl (hb hby d1_73) rfl ?_
          show Steps p.tables e below (s₁.setTop (mkF m 75 #[iv u0, iv u1, iv u2, iv u3, iv u4, iv (3 : Int32), .unset] [(.int (3 : Int32))])) _
          refine XS.iload X0.here hx rfl (hb hby d1_75) rfl ?_
          exact k
        by_cases hc15 : u4 < (3 : Int32)
        · skip
          obtain ⟨fs, hr, hrun, hended, hW, hsame⟩ := X0.leave (v := some (.int (0 : Int32))) (fun h => by rw [Bd.returns] at h; cases h)
          refine ⟨_, _, S14 _ ?_, hrun, hended, _, _, rfl, ?_, ⟨_, rfl⟩, hW, hsame.mono (by decide) (by decide)⟩
          · skip
            show Steps p.tables e below (s₁.setTop (mkF m 77 #[iv u0, iv u1, iv u2, iv u3, iv u4, iv (3 : Int32), .unset] [(.int u4), (.int (3 : Int32))])) _
            refine XS.icmpNo X0.here hx rfl (hb hby d1_77) rfl (tlt hc15).2.2.2 ?_
            show Steps p.tables e below (s₁.setTop (mkF m 80 #[iv u0, iv u1, iv u2, iv u3, iv u4, iv (3 : Int32), .unset] [])) _
            refine XS.iconst X0.here hx rfl (hb hby d1_80) ?_
            show Steps p.tables e below (s₁.setTop (mkF m 81 #[iv u0, iv u1, iv u2, iv u3, iv u4, iv (3 : Int32), .unset] [(.int (0 : Int32))])) _
            exact retI X0 hx Bd.returns (hb hby d1_81) hr
          · show QEx Z u0 u1 u2 u3 u4 h0 n0 _ s₁.heap _
            rw [e0]
            exact ⟨(by unfold own_ex; rw [if_neg hc2, if_neg hc4, if_pos hc13, if_pos hc15]), N0, rfl⟩
        · skip
          obtain ⟨_, _, ⟨T16, L16, k16, n16⟩, -, X16, ⟨Lc16, hQ16, l16, y16, z16⟩, st16⟩ := Jvm.LawKit.callS X0 hx (y := (⟨"com/example/rivanna/rivanna/core/json/Utf8SequenceLengthPinLaw", "cont", "(I)Z"⟩ : MethodName)) hown (mvT hZ (hw _ (List.mem_of_getElem? (i := 11) rfl))) (mvT hZ (hw _ (List.mem_of_getElem? (i := 12) rfl))) (mvT hZ (hw _ (List.mem_of_getElem? (i := 3) rfl))) (mvT hZ (hw _ (List.mem_of_getElem? (i := 13) rfl))) (by decide) (backOf (W := 0) (rmCt l Z a0 hw [] u1 h0 n0 Z0) hZ (hw _ (List.mem_of_getElem? (i := 13) rfl)) (hw _ (List.mem_of_getElem? (i := 3) rfl)) (by decide) (by decide)) (g := (mkF m 83 #[iv u0, iv u1, iv u2, iv u3, iv u4, iv (3 : Int32), .unset] [(.int u1)])) rfl (by rw [hml]; rfl) (argsL := [(.int u1)]) (rest := []) (lenOf pd_0 rfl) rfl (by show 2 * 0 + _ ≤ _; exact Nat.le_of_eq rfl) (hb hby d1_83) (fun _ _ => ⟨rfl, e0, (by decide : 0 + 0 ≤ _), (by decide : 0 + 0 ≤ _)⟩)
          dsimp only [Pt.U, Pt.locs, Pt.cells, Pt.slots] at X16 l16 y16 z16 st16 hQ16
          subst y16 z16
          obtain ⟨rfl, Nq16, eq16⟩ := hQ16
          have N16 : Fr n0 L16 := by rw [l16]; exact Fr.app N0 Nq16
          have S17 : ∀ t, Steps p.tables e below (T16.setTop (mkF m 86 #[iv u0, iv u1, iv u2, iv u3, iv u4, iv (3 : Int32), .unset] [(.int (own_ct u1))])) t → Steps p.tables e below (s₁.setTop (entryFrame m #[(.int u0), (.int u1), (.int u2), (.int u3), (.int u4)] 7)) t := by
            intro t k
            refine S14 t ?_
            show Steps p.tables e below (s₁.setTop (mkF m 77 #[iv u0, iv u1, iv u2, iv u3, iv u4, iv (3 : Int32), .unset] [(.int u4), (.int (3 : Int32))])) _
            refine XS.icmpYes X0.here hx rfl (pc0 := 77) (pc' := 82) rfl (hb hby d1_77) rfl (flt hc15).2.2.2 (by decide) (by decide) ?_
            show Steps p.tables e below (s₁.setTop (mkF m 82 #[iv u0, iv u1, iv u2, iv u3, iv u4, iv (3 : Int32), .unset] [])) _
            refine XS.iloadN X0.here hx rfl (hb hby d1_82) rfl ?_
            show Steps p.tables e below (s₁.setTop (mkF m 83 #[iv u0, iv u1, iv u2, iv u3, iv u4, iv (3 : Int32), .unset] [(.int u1)])) _
            refine st16 _ ?_
            exact k
          by_cases hc18 : (own_ct u1) = (0 : Int32)
          · skip
            obtain ⟨fs, hr, hrun, hended, hW, hsame⟩ := X16.leave (v := some (.int (0 : Int32))) (fun h => by rw [Bd.returns] at h; cases h)
            refine ⟨_, _, S17 _ ?_, hrun, hended, _, _, rfl, ?_, ⟨_, rfl⟩, hW, hsame.mono (by decide) (by decide)⟩
            · skip
              show Steps p.tables e below (T16.setTop (mkF m 86 #[iv u0, iv u1, iv u2, iv u3, iv u4, iv (3 : Int32), .unset] [(.int (own_ct u1))])) _
              refine XS.ifNo X16.here hx rfl (hb hby d1_86) rfl ((if0 _ _).trans (teq hc18).2) ?_
              show Steps p.tables e below (T16.setTop (mkF m 89 #[iv u0, iv u1, iv u2, iv u3, iv u4, iv (3 : Int32), .unset] [])) _
              refine XS.iconst X16.here hx rfl (hb hby d1_89) ?_
              show Steps p.tables e below (T16.setTop (mkF m 90 #[iv u0, iv u1, iv u2, iv u3, iv u4, iv (3 : Int32), .unset] [(.int (0 : Int32))])) _
              exact retI X16 hx Bd.returns (hb hby d1_90) hr
            · show QEx Z u0 u1 u2 u3 u4 h0 n0 _ T16.heap _
              rw [eq16]
              exact ⟨(by unfold own_ex; rw [if_neg hc2, if_neg hc4, if_pos hc13, if_neg hc15, if_pos hc18]), N16, rfl⟩
          · skip
            obtain ⟨_, _, ⟨T19, L19, k19, n19⟩, -, X19, ⟨Lc19, hQ19, l19, y19, z19⟩, st19⟩ := Jvm.LawKit.callS X16 hx (y := (⟨"com/example/rivanna/rivanna/core/json/Utf8SequenceLengthPinLaw", "cont", "(I)Z"⟩ : MethodName)) hown (mvT hZ (hw _ (List.mem_of_getElem? (i := 11) rfl))) (mvT hZ (hw _ (List.mem_of_getElem? (i := 12) rfl))) (mvT hZ (hw _ (List.mem_of_getElem? (i := 3) rfl))) (mvT hZ (hw _ (List.mem_of_getElem? (i := 13) rfl))) (by decide) (backOf (W := 0) (rmCt l Z a0 hw [] u2 h0 n0 Z0) hZ (hw _ (List.mem_of_getElem? (i := 13) rfl)) (hw _ (List.mem_of_getElem? (i := 3) rfl)) (by decide) (by decide)) (g := (mkF m 98 #[iv u0, iv u1, iv u2, iv u3, iv u4, iv (3 : Int32), .unset] [(.int u2)])) rfl (by rw [hml]; rfl) (argsL := [(.int u2)]) (rest := []) (lenOf pd_0 rfl) rfl (by show 2 * 0 + _ ≤ _; exact Nat.le_of_eq rfl) (hb hby d1_98) (fun _ _ => ⟨rfl, eq16, (by decide : 0 + 0 ≤ _), (by decide : 0 + 0 ≤ _)⟩)
            dsimp only [Pt.U, Pt.locs, Pt.cells, Pt.slots] at X19 l19 y19 z19 st19 hQ19
            subst y19 z19
            obtain ⟨rfl, Nq19, eq19⟩ := hQ19
            have N19 : Fr n0 L19 := by rw [l19]; exact Fr.app N16 Nq19
            have S20 : ∀ t, Steps p.tables e below (T19.setTop (mkF m 101 #[iv u0, iv u1, iv u2, iv u3, iv u4, iv (3 : Int32), .unset] [(.int (own_ct u2))])) t → Steps p.tables e below (s₁.setTop (entryFrame m #[(.int u0), (.int u1), (.int u2), (.int u3), (.int u4)] 7)) t := by
              intro t k
              refine S17 t ?_
              show Steps p.tables e below (T16.setTop (mkF m 86 #[iv u0, iv u1, iv u2, iv u3, iv u4, iv (3 : Int32), .unset] [(.int (own_ct u1))])) _
              refine XS.ifYes X16.here hx rfl (pc0 := 86) (pc' := 91) rfl (hb hby d1_86) rfl ((if0 _ _).trans (feq hc18).2) (by decide) (by decide) ?_
              show Steps p.tables e below (T16.setTop (mkF m 91 #[iv u0, iv u1, iv u2, iv u3, iv u4, iv (3 : Int32), .unset] [])) _
              refine XS.iload X16.here hx rfl (hb hby d1_91) rfl ?_
              show Steps p.tables e below (T16.setTop (mkF m 93 #[iv u0, iv u1, iv u2, iv u3, iv u4, iv (3 : Int32), .unset] [(.int (3 : Int32))])) _
              refine XS.iconst X16.here hx rfl (hb hby d1_93) ?_
              show Steps p.tables e below (T16.setTop (mkF m 94 #[iv u0, iv u1, iv u2, iv u3, iv u4, iv (3 : Int32), .unset] [(.int (3 : Int32)), (.int (3 : Int32))])) _
              refine XS.icmpNo X16.here hx rfl (hb hby d1_94) rfl (flt (by decide : ¬ ((3 : Int32) < (3 : Int32)))).1 ?_
              show Steps p.tables e below (T16.setTop (mkF m 97 #[iv u0, iv u1, iv u2, iv u3, iv u4, iv (3 : Int32), .unset] [])) _
              refine XS.iloadN X16.here hx rfl (hb hby d1_97) rfl ?_
              show Steps p.tables e below (T16.setTop (mkF m 98 #[iv u0, iv u1, iv u2, iv u3, iv u4, iv (3 : Int32), .unset] [(.int u2)])) _
              refine st19 _ ?_
              exact k
            by_cases hc21 : (own_ct u2) = (0 : Int32)
            · skip
              obtain ⟨fs, hr, hrun, hended, hW, hsame⟩ := X19.leave (v := some (.int (0 : Int32))) (fun h => by rw [Bd.returns] at h; cases h)
              refine ⟨_, _, S20 _ ?_, hrun, hended, _, _, rfl, ?_, ⟨_, rfl⟩, hW, hsame.mono (by decide) (by decide)⟩
              · skip
                show Steps p.tables e below (T19.setTop (mkF m 101 #[iv u0, iv u1, iv u2, iv u3, iv u4, iv (3 : Int32), .unset] [(.int (own_ct u2))])) _
                refine XS.ifNo X19.here hx rfl (hb hby d1_101) rfl ((if0 _ _).trans (teq hc21).2) ?_
                show Steps p.tables e below (T19.setTop (mkF m 104 #[iv u0, iv u1, iv u2, iv u3, iv u4, iv (3 : Int32), .unset] [])) _
                refine XS.iconst X19.here hx rfl (hb hby d1_104) ?_
                show Steps p.tables e below (T19.setTop (mkF m 105 #[iv u0, iv u1, iv u2, iv u3, iv u4, iv (3 : Int32), .unset] [(.int (0 : Int32))])) _
                exact retI X19 hx Bd.returns (hb hby d1_105) hr
              · show QEx Z u0 u1 u2 u3 u4 h0 n0 _ T19.heap _
                rw [eq19]
                exact ⟨(by unfold own_ex; rw [if_neg hc2, if_neg hc4, if_pos hc13, if_neg hc15, if_neg hc18, if_pos hc21]), N19, rfl⟩
            · skip
              have S22 : ∀ t, Steps p.tables e below (T19.setTop (mkF m 188 #[iv u0, iv u1, iv u2, iv u3, iv u4, iv (3 : Int32), iv ((((u0 &&& (15 : Int32)) <<< ((12 : Int32) &&& 31)) ||| ((u1 &&& (63 : Int32)) <<< ((6 : Int32) &&& 31))) ||| (u2 &&& (63 : Int32)))] [(.int (2048 : Int32)), (.int ((((u0 &&& (15 : Int32)) <<< ((12 : Int32) &&& 31)) ||| ((u1 &&& (63 : Int32)) <<< ((6 : Int32) &&& 31))) ||| (u2 &&& (63 : Int32))))])) t → Steps p.tables e below (s₁.setTop (entryFrame m #[(.int u0), (.int u1), (.int u2), (.int u3), (.int u4)] 7)) t := by
                intro t k
                refine S20 t ?_
                show Steps p.tables e below (T19.setTop (mkF m 101 #[iv u0, iv u1, iv u2, iv u3, iv u4, iv (3 : Int32), .unset] [(.int (own_ct u2))])) _
                refine XS.ifYes X19.here hx rfl (pc0 := 101) (pc' := 106) rfl (hb hby d1_101) rfl ((if0 _ _).trans (feq hc21).2) (by decide) (by decide) ?_
                show Steps p.tables e below (T19.setTop (mkF m 106 #[iv u0, iv u1, iv u2, iv u3, iv u4, iv (3 : Int32), .unset] [])) _
                refine XS.iload X19.here hx rfl (hb hby d1_106) rfl ?_
                show Steps p.tables e below (T19.setTop (mkF m 108 #[iv u0, iv u1, iv u2, iv u3, iv u4, iv (3 : Int32), .unset] [(.int (3 : Int32))])) _
                refine XS.iconst X19.here hx rfl (hb hby d1_108) ?_
                show Steps p.tables e below (T19.setTop (mkF m 109 #[iv u0, iv u1, iv u2, iv u3, iv u4, iv (3 : Int32), .unset] [(.int (4 : Int32)), (.int (3 : Int32))])) _
                refine XS.icmpYes X19.here hx rfl (pc0 := 109) (pc' := 121) rfl (hb hby d1_109) rfl (feq (by decide : ¬ ((3 : Int32) = (4 : Int32)))).2 (by decide) (by decide) ?_
                show Steps p.tables e below (T19.setTop (mkF m 121 #[iv u0, iv u1, iv u2, iv u3, iv u4, iv (3 : Int32), .unset] [])) _
                refine XS.iload X19.here hx rfl (hb hby d1_121) rfl ?_
                show Steps p.tables e below (T19.setTop (mkF m 123 #[iv u0, iv u1, iv u2, iv u3, iv u4, iv (3 : Int32), .unset] [(.int (3 : Int32))])) _
                refine XS.iconst X19.here hx rfl (hb hby d1_123) ?_
                show Steps p.tables e below (T19.setTop (mkF m 124 #[iv u0, iv u1, iv u2, iv u3, iv u4, iv (3 : Int32), .unset] [(.int (2 : Int32)), (.int (3 : Int32))])) _
                refine XS.icmpYes X19.here hx rfl (pc0 := 124) (pc' := 155) rfl (hb hby d1_124) rfl (feq (by decide : ¬ ((3 : Int32) = (2 : Int32)))).2 (by decide) (by decide) ?_
                show Steps p.tables e below (T19.setTop (mkF m 155 #[iv u0, iv u1, iv u2, iv u3, iv u4, iv (3 : Int32), .unset] [])) _
                refine XS.iload X19.here hx rfl (hb hby d1_155) rfl ?_
                show Steps p.tables e below (T19.setTop (mkF m 157 #[iv u0, iv u1, iv u2, iv u3, iv u4, iv (3 : Int32), .unset] [(.int (3 : Int32))])) _
                refine XS.iconst X19.here hx rfl (hb hby d1_157) ?_
                show Steps p.tables e below (T19.setTop (mkF m 158 #[iv u0, iv u1, iv u2, iv u3, iv u4, iv (3 : Int32), .unset] [(.int (3 : Int32)), (.int (3 : Int32))])) _
                refine XS.icmpNo X19.here hx rfl (hb hby d1_158) rfl (teq (by decide : (3 : Int32) = (3 : Int32))).2 ?_
                show Steps p.tables e below (T19.setTop (mkF m 161 #[iv u0, iv u1, iv u2, iv u3, iv u4, iv (3 : Int32), .unset] [])) _
                refine XS.iloadN X19.here hx rfl (hb hby d1_161) rfl ?_
                show Steps p.tables e below (T19.setTop (mkF m 162 #[iv u0, iv u1, iv u2, iv u3, iv u4, iv (3 : Int32), .unset] [(.int u0)])) _
                refine XS.bipush X19.here hx rfl (hb hby d1_162) ?_
                show Steps p.tables e below (T19.setTop (mkF m 164 #[iv u0, iv u1, iv u2, iv u3, iv u4, iv (3 : Int32), .unset] [(.int (15 : Int32)), (.int u0)])) _
                refine XS.iand X19.here hx rfl (hb hby d1_164) rfl ?_
                show Steps p.tables e below (T19.setTop (mkF m 165 #[iv u0, iv u1, iv u2, iv u3, iv u4, iv (3 : Int32), .unset] [(.int (u0 &&& (15 : Int32)))])) _
                refine XS.bipush X19.here hx rfl (hb hby d1_165) ?_
                show Steps p.tables e below (T19.setTop (mkF m 167 #[iv u0, iv u1, iv u2, iv u3, iv u4, iv (3 : Int32), .unset] [(.int (12 : Int32)), (.int (u0 &&& (15 : Int32)))])) _
                refine XS.ishl X19.here hx rfl (hb hby d1_167) rfl ?_
                show Steps p.tables e below (T19.setTop (mkF m 168 #[iv u0, iv u1, iv u2, iv u3, iv u4, iv (3 : Int32), .unset] [(.int ((u0 &&& (15 : Int32)) <<< ((12 : Int32) &&& 31)))])) _
                refine XS.iloadN X19.here hx rfl (hb hby d1_168) rfl ?_
                show Steps p.tables e below (T19.setTop (mkF m 169 #[iv u0, iv u1, iv u2, iv u3, iv u4, iv (3 : Int32), .unset] [(.int u1), (.int ((u0 &&& (15 : Int32)) <<< ((12 : Int32) &&& 31)))])) _
                refine XS.bipush X19.here hx rfl (hb hby d1_169) ?_
                show Steps p.tables e below (T19.setTop (mkF m 171 #[iv u0, iv u1, iv u2, iv u3, iv u4, iv (3 : Int32), .unset] [(.int (63 : Int32)), (.int u1), (.int ((u0 &&& (15 : Int32)) <<< ((12 : Int32) &&& 31)))])) _
                refine XS.iand X19.here hx rfl (hb hby d1_171) rfl ?_
                show Steps p.tables e below (T19.setTop (mkF m 172 #[iv u0, iv u1, iv u2, iv u3, iv u4, iv (3 : Int32), .unset] [(.int (u1 &&& (63 : Int32))), (.int ((u0 &&& (15 : Int32)) <<< ((12 : Int32) &&& 31)))])) _
                refine XS.bipush X19.here hx rfl (hb hby d1_172) ?_
                show Steps p.tables e below (T19.setTop (mkF m 174 #[iv u0, iv u1, iv u2, iv u3, iv u4, iv (3 : Int32), .unset] [(.int (6 : Int32)), (.int (u1 &&& (63 : Int32))), (.int ((u0 &&& (15 : Int32)) <<< ((12 : Int32) &&& 31)))])) _
                refine XS.ishl X19.here hx rfl (hb hby d1_174) rfl ?_
                show Steps p.tables e below (T19.setTop (mkF m 175 #[iv u0, iv u1, iv u2, iv u3, iv u4, iv (3 : Int32), .unset] [(.int ((u1 &&& (63 : Int32)) <<< ((6 : Int32) &&& 31))), (.int ((u0 &&& (15 : Int32)) <<< ((12 : Int32) &&& 31)))])) _
                refine XS.ior X19.here hx rfl (hb hby d1_175) rfl ?_
                show Steps p.tables e below (T19.setTop (mkF m 176 #[iv u0, iv u1, iv u2, iv u3, iv u4, iv (3 : Int32), .unset] [(.int (((u0 &&& (15 : Int32)) <<< ((12 : Int32) &&& 31)) ||| ((u1 &&& (63 : Int32)) <<< ((6 : Int32) &&& 31))))])) _
                refine XS.iloadN X19.here hx rfl (hb hby d1_176) rfl ?_
                show Steps p.tables e below (T19.setTop (mkF m 177 #[iv u0, iv u1, iv u2, iv u3, iv u4, iv (3 : Int32), .unset] [(.int u2), (.int (((u0 &&& (15 : Int32)) <<< ((12 : Int32) &&& 31)) ||| ((u1 &&& (63 : Int32)) <<< ((6 : Int32) &&& 31))))])) _
                refine XS.bipush X19.here hx rfl (hb hby d1_177) ?_
                show Steps p.tables e below (T19.setTop (mkF m 179 #[iv u0, iv u1, iv u2, iv u3, iv u4, iv (3 : Int32), .unset] [(.int (63 : Int32)), (.int u2), (.int (((u0 &&& (15 : Int32)) <<< ((12 : Int32) &&& 31)) ||| ((u1 &&& (63 : Int32)) <<< ((6 : Int32) &&& 31))))])) _
                refine XS.iand X19.here hx rfl (hb hby d1_179) rfl ?_
                show Steps p.tables e below (T19.setTop (mkF m 180 #[iv u0, iv u1, iv u2, iv u3, iv u4, iv (3 : Int32), .unset] [(.int (u2 &&& (63 : Int32))), (.int (((u0 &&& (15 : Int32)) <<< ((12 : Int32) &&& 31)) ||| ((u1 &&& (63 : Int32)) <<< ((6 : Int32) &&& 31))))])) _
                refine XS.ior X19.here hx rfl (hb hby d1_180) rfl ?_
                show Steps p.tables e below (T19.setTop (mkF m 181 #[iv u0, iv u1, iv u2, iv u3, iv u4, iv (3 : Int32), .unset] [(.int ((((u0 &&& (15 : Int32)) <<< ((12 : Int32) &&& 31)) ||| ((u1 &&& (63 : Int32)) <<< ((6 : Int32) &&& 31))) ||| (u2 &&& (63 : Int32))))])) _
                refine XS.istore X19.here hx rfl (hb hby d1_181) rfl (l' := #[iv u0, iv u1, iv u2, iv u3, iv u4, iv (3 : Int32), iv ((((u0 &&& (15 : Int32)) <<< ((12 : Int32) &&& 31)) ||| ((u1 &&& (63 : Int32)) <<< ((6 : Int32) &&& 31))) ||| (u2 &&& (63 : Int32)))]) rfl ?_
                show Steps p.tables e below (T19.setTop (mkF m 183 #[iv u0, iv u1, iv u2, iv u3, iv u4, iv (3 : Int32), iv ((((u0 &&& (15 : Int32)) <<< ((12 : Int32) &&& 31)) ||| ((u1 &&& (63 : Int32)) <<< ((6 : Int32) &&& 31))) ||| (u2 &&& (63 : Int32)))] [])) _
                refine XS.iload X19.here hx rfl (hb hby d1_183) rfl ?_
                show Steps p.tables e below (T19.setTop (mkF m 185 #[iv u0, iv u1, iv u2, iv u3, iv u4, iv (3 : Int32), iv ((((u0 &&& (15 : Int32)) <<< ((12 : Int32) &&& 31)) ||| ((u1 &&& (63 : Int32)) <<< ((6 : Int32) &&& 31))) ||| (u2 &&& (63 : Int32)))] [(.int ((((u0 &&& (15 : Int32)) <<< ((12 : Int32) &&& 31)) ||| ((u1 &&& (63 : Int32)) <<< ((6 : Int32) &&& 31))) ||| (u2 &&& (63 : Int32))))])) _
                refine XS.sipush X19.here hx rfl (hb hby d1_185) ?_
                exact k
              by_cases hc23 : ((((u0 &&& (15 : Int32)) <<< ((12 : Int32) &&& 31)) ||| ((u1 &&& (63 : Int32)) <<< ((6 : Int32) &&& 31))) ||| (u2 &&& (63 : Int32))) < (2048 : Int32)
              · skip
                obtain ⟨fs, hr, hrun, hended, hW, hsame⟩ := X19.leave (v := some (.int (0 : Int32))) (fun h => by rw [Bd.returns] at h; cases h)
                refine ⟨_, _, S22 _ ?_, hrun, hended, _, _, rfl, ?_, ⟨_, rfl⟩, hW, hsame.mono (by decide) (by decide)⟩
                · skip
                  show Steps p.tables e below (T19.setTop (mkF m 188 #[iv u0, iv u1, iv u2, iv u3, iv u4, iv (3 : Int32), iv ((((u0 &&& (15 : Int32)) <<< ((12 : Int32) &&& 31)) ||| ((u1 &&& (63 : Int32)) <<< ((6 : Int32) &&& 31))) ||| (u2 &&& (63 : Int32)))] [(.int (2048 : Int32)), (.int ((((u0 &&& (15 : Int32)) <<< ((12 : Int32) &&& 31)) ||| ((u1 &&& (63 : Int32)) <<< ((6 : Int32) &&& 31))) ||| (u2 &&& (63 : Int32))))])) _
                  refine XS.icmpNo X19.here hx rfl (hb hby d1_188) rfl (tlt hc23).2.1 ?_
                  show Steps p.tables e below (T19.setTop (mkF m 191 #[iv u0, iv u1, iv u2, iv u3, iv u4, iv (3 : Int32), iv ((((u0 &&& (15 : Int32)) <<< ((12 : Int32) &&& 31)) ||| ((u1 &&& (63 : Int32)) <<< ((6 : Int32) &&& 31))) ||| (u2 &&& (63 : Int32)))] [])) _
                  refine XS.iconst X19.here hx rfl (hb hby d1_191) ?_
                  show Steps p.tables e below (T19.setTop (mkF m 192 #[iv u0, iv u1, iv u2, iv u3, iv u4, iv (3 : Int32), iv ((((u0 &&& (15 : Int32)) <<< ((12 : Int32) &&& 31)) ||| ((u1 &&& (63 : Int32)) <<< ((6 : Int32) &&& 31))) ||| (u2 &&& (63 : Int32)))] [(.int (0 : Int32))])) _
                  exact retI X19 hx Bd.returns (hb hby d1_192) hr
                · show QEx Z u0 u1 u2 u3 u4 h0 n0 _ T19.heap _
                  rw [eq19]
                  exact ⟨(by unfold own_ex; rw [if_neg hc2, if_neg hc4, if_pos hc13, if_neg hc15, if_neg hc18, if_neg hc21, if_pos hc23]), N19, rfl⟩
              · skip
                have S24 : ∀ t, Steps p.tables e below (T19.setTop (mkF m 197 #[iv u0, iv u1, iv u2, iv u3, iv u4, iv (3 : Int32), iv ((((u0 &&& (15 : Int32)) <<< ((12 : Int32) &&& 31)) ||| ((u1 &&& (63 : Int32)) <<< ((6 : Int32) &&& 31))) ||| (u2 &&& (63 : Int32)))] [(.int (55296 : Int32)), (.int ((((u0 &&& (15 : Int32)) <<< ((12 : Int32) &&& 31)) ||| ((u1 &&& (63 : Int32)) <<< ((6 : Int32) &&& 31))) ||| (u2 &&& (63 : Int32))))])) t → Steps p.tables e below (s₁.setTop (entryFrame m #[(.int u0), (.int u1), (.int u2), (.int u3), (.int u4)] 7)) t := by
                  intro t k
                  refine S22 t ?_
                  show Steps p.tables e below (T19.setTop (mkF m 188 #[iv u0, iv u1, iv u2, iv u3, iv u4, iv (3 : Int32), iv ((((u0 &&& (15 : Int32)) <<< ((12 : Int32) &&& 31)) ||| ((u1 &&& (63 : Int32)) <<< ((6 : Int32) &&& 31))) ||| (u2 &&& (63 : Int32)))] [(.int (2048 : Int32)), (.int ((((u0 &&& (15 : Int32)) <<< ((12 : Int32) &&& 31)) ||| ((u1 &&& (63 : Int32)) <<< ((6 : Int32) &&& 31))) ||| (u2 &&& (63 : Int32))))])) _
                  refine XS.icmpYes X19.here hx rfl (pc0 := 188) (pc' := 193) rfl (hb hby d1_188) rfl (flt hc23).2.1 (by decide) (by decide) ?_
                  show Steps p.tables e below (T19.setTop (mkF m 193 #[iv u0, iv u1, iv u2, iv u3, iv u4, iv (3 : Int32), iv ((((u0 &&& (15 : Int32)) <<< ((12 : Int32) &&& 31)) ||| ((u1 &&& (63 : Int32)) <<< ((6 : Int32) &&& 31))) ||| (u2 &&& (63 : Int32)))] [])) _
                  refine XS.iload X19.here hx rfl (hb hby d1_193) rfl ?_
                  show Steps p.tables e below (T19.setTop (mkF m 195 #[iv u0, iv u1, iv u2, iv u3, iv u4, iv (3 : Int32), iv ((((u0 &&& (15 : Int32)) <<< ((12 : Int32) &&& 31)) ||| ((u1 &&& (63 : Int32)) <<< ((6 : Int32) &&& 31))) ||| (u2 &&& (63 : Int32)))] [(.int ((((u0 &&& (15 : Int32)) <<< ((12 : Int32) &&& 31)) ||| ((u1 &&& (63 : Int32)) <<< ((6 : Int32) &&& 31))) ||| (u2 &&& (63 : Int32))))])) _
                  refine X19.ldcInt hx hown (mvT hZ (hw _ (List.mem_of_getElem? (i := 18) rfl))) (g := (mkF m 195 #[iv u0, iv u1, iv u2, iv u3, iv u4, iv (3 : Int32), iv ((((u0 &&& (15 : Int32)) <<< ((12 : Int32) &&& 31)) ||| ((u1 &&& (63 : Int32)) <<< ((6 : Int32) &&& 31))) ||| (u2 &&& (63 : Int32)))] [(.int ((((u0 &&& (15 : Int32)) <<< ((12 : Int32) &&& 31)) ||| ((u1 &&& (63 : Int32)) <<< ((6 : Int32) &&& 31))) ||| (u2 &&& (63 : Int32))))])) rfl (hb hby d1_195) _ ?_
                  exact k
                by_cases hc25 : ((((u0 &&& (15 : Int32)) <<< ((12 : Int32) &&& 31)) ||| ((u1 &&& (63 : Int32)) <<< ((6 : Int32) &&& 31))) ||| (u2 &&& (63 : Int32))) < (55296 : Int32)
                · skip
                  obtain ⟨fs, hr, hrun, hended, hW, hsame⟩ := X19.leave (v := some (.int (3 : Int32))) (fun h => by rw [Bd.returns] at h; cases h)
                  refine ⟨_, _, S24 _ ?_, hrun, hended, _, _, rfl, ?_, ⟨_, rfl⟩, hW, hsame.mono (by decide) (by decide)⟩
                  · skip
                    show Steps p.tables e below (T19.setTop (mkF m 197 #[iv u0, iv u1, iv u2, iv u3, iv u4, iv (3 : Int32), iv ((((u0 &&& (15 : Int32)) <<< ((12 : Int32) &&& 31)) ||| ((u1 &&& (63 : Int32)) <<< ((6 : Int32) &&& 31))) ||| (u2 &&& (63 : Int32)))] [(.int (55296 : Int32)), (.int ((((u0 &&& (15 : Int32)) <<< ((12 : Int32) &&& 31)) ||| ((u1 &&& (63 : Int32)) <<< ((6 : Int32) &&& 31))) ||| (u2 &&& (63 : Int32))))])) _
                    refine XS.icmpYes X19.here hx rfl (pc0 := 197) (pc' := 209) rfl (hb hby d1_197) rfl (tlt hc25).1 (by decide) (by decide) ?_
                    show Steps p.tables e below (T19.setTop (mkF m 209 #[iv u0, iv u1, iv u2, iv u3, iv u4, iv (3 : Int32), iv ((((u0 &&& (15 : Int32)) <<< ((12 : Int32) &&& 31)) ||| ((u1 &&& (63 : Int32)) <<< ((6 : Int32) &&& 31))) ||| (u2 &&& (63 : Int32)))] [])) _
                    refine XS.iconst X19.here hx rfl (hb hby d1_209) ?_
                    show Steps p.tables e below (T19.setTop (mkF m 210 #[iv u0, iv u1, iv u2, iv u3, iv u4, iv (3 : Int32), iv ((((u0 &&& (15 : Int32)) <<< ((12 : Int32) &&& 31)) ||| ((u1 &&& (63 : Int32)) <<< ((6 : Int32) &&& 31))) ||| (u2 &&& (63 : Int32)))] [(.int (3 : Int32))])) _
                    exact retI X19 hx Bd.returns (hb hby d1_210) hr
                  · show QEx Z u0 u1 u2 u3 u4 h0 n0 _ T19.heap _
                    rw [eq19]
                    exact ⟨(by unfold own_ex; rw [if_neg hc2, if_neg hc4, if_pos hc13, if_neg hc15, if_neg hc18, if_neg hc21, if_neg hc23, if_pos hc25]), N19, rfl⟩
                · skip
                  have S26 : ∀ t, Steps p.tables e below (T19.setTop (mkF m 204 #[iv u0, iv u1, iv u2, iv u3, iv u4, iv (3 : Int32), iv ((((u0 &&& (15 : Int32)) <<< ((12 : Int32) &&& 31)) ||| ((u1 &&& (63 : Int32)) <<< ((6 : Int32) &&& 31))) ||| (u2 &&& (63 : Int32)))] [(.int (57343 : Int32)), (.int ((((u0 &&& (15 : Int32)) <<< ((12 : Int32) &&& 31)) ||| ((u1 &&& (63 : Int32)) <<< ((6 : Int32) &&& 31))) ||| (u2 &&& (63 : Int32))))])) t → Steps p.tables e below (s₁.setTop (entryFrame m #[(.int u0), (.int u1), (.int u2), (.int u3), (.int u4)] 7)) t := by
                    intro t k
                    refine S24 t ?_
                    show Steps p.tables e below (T19.setTop (mkF m 197 #[iv u0, iv u1, iv u2, iv u3, iv u4, iv (3 : Int32), iv ((((u0 &&& (15 : Int32)) <<< ((12 : Int32) &&& 31)) ||| ((u1 &&& (63 : Int32)) <<< ((6 : Int32) &&& 31))) ||| (u2 &&& (63 : Int32)))] [(.int (55296 : Int32)), (.int ((((u0 &&& (15 : Int32)) <<< ((12 : Int32) &&& 31)) ||| ((u1 &&& (63 : Int32)) <<< ((6 : Int32) &&& 31))) ||| (u2 &&& (63 : Int32))))])) _
                    refine XS.icmpNo X19.here hx rfl (hb hby d1_197) rfl (flt hc25).1 ?_
                    show Steps p.tables e below (T19.setTop (mkF m 200 #[iv u0, iv u1, iv u2, iv u3, iv u4, iv (3 : Int32), iv ((((u0 &&& (15 : Int32)) <<< ((12 : Int32) &&& 31)) ||| ((u1 &&& (63 : Int32)) <<< ((6 : Int32) &&& 31))) ||| (u2 &&& (63 : Int32)))] [])) _
                    refine XS.iload X19.here hx rfl (hb hby d1_200) rfl ?_
                    show Steps p.tables e below (T19.setTop (mkF m 202 #[iv u0, iv u1, iv u2, iv u3, iv u4, iv (3 : Int32), iv ((((u0 &&& (15 : Int32)) <<< ((12 : Int32) &&& 31)) ||| ((u1 &&& (63 : Int32)) <<< ((6 : Int32) &&& 31))) ||| (u2 &&& (63 : Int32)))] [(.int ((((u0 &&& (15 : Int32)) <<< ((12 : Int32) &&& 31)) ||| ((u1 &&& (63 : Int32)) <<< ((6 : Int32) &&& 31))) ||| (u2 &&& (63 : Int32))))])) _
                    refine X19.ldcInt hx hown (mvT hZ (hw _ (List.mem_of_getElem? (i := 19) rfl))) (g := (mkF m 202 #[iv u0, iv u1, iv u2, iv u3, iv u4, iv (3 : Int32), iv ((((u0 &&& (15 : Int32)) <<< ((12 : Int32) &&& 31)) ||| ((u1 &&& (63 : Int32)) <<< ((6 : Int32) &&& 31))) ||| (u2 &&& (63 : Int32)))] [(.int ((((u0 &&& (15 : Int32)) <<< ((12 : Int32) &&& 31)) ||| ((u1 &&& (63 : Int32)) <<< ((6 : Int32) &&& 31))) ||| (u2 &&& (63 : Int32))))])) rfl (hb hby d1_202) _ ?_
                    exact k
                  by_cases hc27 : (57343 : Int32) < ((((u0 &&& (15 : Int32)) <<< ((12 : Int32) &&& 31)) ||| ((u1 &&& (63 : Int32)) <<< ((6 : Int32) &&& 31))) ||| (u2 &&& (63 : Int32)))
                  · skip
                    obtain ⟨fs, hr, hrun, hended, hW, hsame⟩ := X19.leave (v := some (.int (3 : Int32))) (fun h => by rw [Bd.returns] at h; cases h)
                    refine ⟨_, _, S26 _ ?_, hrun, hended, _, _, rfl, ?_, ⟨_, rfl⟩, hW, hsame.mono (by decide) (by decide)⟩
                    · skip
                      show Steps p.tables e below (T19.setTop (mkF m 204 #[iv u0, iv u1, iv u2, iv u3, iv u4, iv (3 : Int32), iv ((((u0 &&& (15 : Int32)) <<< ((12 : Int32) &&& 31)) ||| ((u1 &&& (63 : Int32)) <<< ((6 : Int32) &&& 31))) ||| (u2 &&& (63 : Int32)))] [(.int (57343 : Int32)), (.int ((((u0 &&& (15 : Int32)) <<< ((12 : Int32) &&& 31)) ||| ((u1 &&& (63 : Int32)) <<< ((6 : Int32) &&& 31))) ||| (u2 &&& (63 : Int32))))])) _
                      refine XS.icmpYes X19.here hx rfl (pc0 := 204) (pc' := 209) rfl (hb hby d1_204) rfl (tlt hc27).2.2.1 (by decide) (by decide) ?_
                      show Steps p.tables e below (T19.setTop (mkF m 209 #[iv u0, iv u1, iv u2, iv u3, iv u4, iv (3 : Int32), iv ((((u0 &&& (15 : Int32)) <<< ((12 : Int32) &&& 31)) ||| ((u1 &&& (63 : Int32)) <<< ((6 : Int32) &&& 31))) ||| (u2 &&& (63 : Int32)))] [])) _
                      refine XS.iconst X19.here hx rfl (hb hby d1_209) ?_
                      show Steps p.tables e below (T19.setTop (mkF m 210 #[iv u0, iv u1, iv u2, iv u3, iv u4, iv (3 : Int32), iv ((((u0 &&& (15 : Int32)) <<< ((12 : Int32) &&& 31)) ||| ((u1 &&& (63 : Int32)) <<< ((6 : Int32) &&& 31))) ||| (u2 &&& (63 : Int32)))] [(.int (3 : Int32))])) _
                      exact retI X19 hx Bd.returns (hb hby d1_210) hr
                    · show QEx Z u0 u1 u2 u3 u4 h0 n0 _ T19.heap _
                      rw [eq19]
                      exact ⟨(by unfold own_ex; rw [if_neg hc2, if_neg hc4, if_pos hc13, if_neg hc15, if_neg hc18, if_neg hc21, if_neg hc23, if_neg hc25, if_pos hc27]), N19, rfl⟩
                  · skip
                    obtain ⟨fs, hr, hrun, hended, hW, hsame⟩ := X19.leave (v := some (.int (0 : Int32))) (fun h => by rw [Bd.returns] at h; cases h)
                    refine ⟨_, _, S26 _ ?_, hrun, hended, _, _, rfl, ?_, ⟨_, rfl⟩, hW, hsame.mono (by decide) (by decide)⟩
                    · skip
                      show Steps p.tables e below (T19.setTop (mkF m 204 #[iv u0, iv u1, iv u2, iv u3, iv u4, iv (3 : Int32), iv ((((u0 &&& (15 : Int32)) <<< ((12 : Int32) &&& 31)) ||| ((u1 &&& (63 : Int32)) <<< ((6 : Int32) &&& 31))) ||| (u2 &&& (63 : Int32)))] [(.int (57343 : Int32)), (.int ((((u0 &&& (15 : Int32)) <<< ((12 : Int32) &&& 31)) ||| ((u1 &&& (63 : Int32)) <<< ((6 : Int32) &&& 31))) ||| (u2 &&& (63 : Int32))))])) _
                      refine XS.icmpNo X19.here hx rfl (hb hby d1_204) rfl (flt hc27).2.2.1 ?_
                      show Steps p.tables e below (T19.setTop (mkF m 207 #[iv u0, iv u1, iv u2, iv u3, iv u4, iv (3 : Int32), iv ((((u0 &&& (15 : Int32)) <<< ((12 : Int32) &&& 31)) ||| ((u1 &&& (63 : Int32)) <<< ((6 : Int32) &&& 31))) ||| (u2 &&& (63 : Int32)))] [])) _
                      refine XS.iconst X19.here hx rfl (hb hby d1_207) ?_
                      show Steps p.tables e below (T19.setTop (mkF m 208 #[iv u0, iv u1, iv u2, iv u3, iv u4, iv (3 : Int32), iv ((((u0 &&& (15 : Int32)) <<< ((12 : Int32) &&& 31)) ||| ((u1 &&& (63 : Int32)) <<< ((6 : Int32) &&& 31))) ||| (u2 &&& (63 : Int32)))] [(.int (0 : Int32))])) _
                      exact retI X19 hx Bd.returns (hb hby d1_208) hr
                    · show QEx Z u0 u1 u2 u3 u4 h0 n0 _ T19.heap _
                      rw [eq19]
                      exact ⟨(by unfold own_ex; rw [if_neg hc2, if_neg hc4, if_pos hc13, if_neg hc15, if_neg hc18, if_neg hc21, if_neg hc23, if_neg hc25, if_neg hc27]), N19, rfl⟩
      · skip
        have S28 : ∀ t, Steps p.tables e below (s₁.setTop (mkF m 56 #[iv u0, iv u1, iv u2, iv u3, iv u4, .unset, .unset] [(.int (240 : Int32)), (.int (u0 &&& (248 : Int32)))])) t → Steps p.tables e below (s₁.setTop (entryFrame m #[(.int u0), (.int u1), (.int u2), (.int u3), (.int u4)] 7)) t := by
          intro t k
          refine S12 t ?_
          show Steps p.tables e below (s₁.setTop (mkF m 39 #[iv u0, iv u1, iv u2, iv u3, iv u4, .unset, .unset] [(.int (224 : Int32)), (.int (u0 &&& (240 : Int32)))])) _
          refine XS.icmpYes X0.here hx rfl (pc0 := 39) (pc' := 48) rfl (hb hby d1_39) rfl (feq hc13).2 (by decide) (by decide) ?_
          show Steps p.tables e below (s₁.setTop (mkF m 48 #[iv u0, iv u1, iv u2, iv u3, iv u4, .unset, .unset] [])) _
          refine XS.iloadN X0.here hx rfl (hb hby d1_48) rfl ?_
          show Steps p.tables e below (s₁.setTop (mkF m 49 #[iv u0, iv u1, iv u2, iv u3, iv u4, .unset, .unset] [(.int u0)])) _
          refine XS.sipush X0.here hx rfl (hb hby d1_49) ?_
          show Steps p.tables e below (s₁.setTop (mkF m 52 #[iv u0, iv u1, iv u2, iv u3, iv u4, .unset, .unset] [(.int (248 : Int32)), (.int u0)])) _
          refine XS.iand X0.here hx rfl (hb hby d1_52) rfl ?_
          show Steps p.tables e below (s₁.setTop (mkF m 53 #[iv u0, iv u1, iv u2, iv u3, iv u4, .unset, .unset] [(.int (u0 &&& (248 : Int32)))])) _
          refine XS.sipush X0.here hx rfl (hb hby d1_53) ?_
          exact k
        by_cases hc29 : (u0 &&& (248 : Int32)) = (240 : Int32)
        · skip
          have S30 : ∀ t, Steps p.tables e below (s₁.setTop (mkF m 77 #[iv u0, iv u1, iv u2, iv u3, iv u4, iv (4 : Int32), .unset] [(.int u4), (.int (4 : Int32))])) t → Steps p.tables e below (s₁.setTop (entryFrame m #[(.int u0), (.int u1), (.int u2), (.int u3), (.int u4)] 7)) t := by
            intro t k
            refine S28 t ?_
            show Steps p.tables e below (s₁.setTop (mkF m 56 #[iv u0, iv u1, iv u2, iv u3, iv u4, .unset, .unset] [(.int (240 : Int32)), (.int (u0 &&& (248 : Int32)))])) _
            refine XS.icmpNo X0.here hx rfl (hb hby d1_56) rfl (teq hc29).2 ?_
            show Steps p.tables e below (s₁.setTop (mkF m 59 #[iv u0, iv u1, iv u2, iv u3, iv u4, .unset, .unset] [])) _
            refine XS.iconst X0.here hx rfl (hb hby d1_59) ?_
            show Steps p.tables e below (s₁.setTop (mkF m 60 #[iv u0, iv u1, iv u2, iv u3, iv u4, .unset, .unset] [(.int (4 : Int32))])) _
            refine XS.istore X0.here hx rfl (hb hby d1_60) rfl (l' := #[iv u0, iv u1, iv u2, iv u3, iv u4, iv (4 : Int32), .unset]) rfl ?_
            show Steps p.tables e below (s₁.setTop (mkF m 62 #[iv u0, iv u1, iv u2, iv u3, iv u4, iv (4 : Int32), .unset] [])) _
            refine XS.goto X0.here hx rfl (pc0 := 62) (pc' := 68) rfl (hb hby d1_62) (by decide) (by decide) ?_
            show Steps p.tables e below (s₁.setTop (mkF m 68 #[iv u0, iv u1, iv u2, iv u3, iv u4, iv (4 : Int32), .unset] [])) _
            refine XS.iload X0.here hx rfl (hb hby d1_68) rfl ?_
            show Steps p.tables e below (s₁.setTop (mkF m 70 #[iv u0, iv u1, iv u2, iv u3, iv u4, iv (4 : Int32), .unset] [(.int (4 : Int32))])) _
            refine XS.ifNo X0.here hx rfl (hb hby d1_70) rfl ((if0 _ _).trans (feq (by decide : ¬ ((4 : Int32) = (0 : Int32)))).1) ?_
            show Steps p.tables e below (s₁.setTop (mkF m 73 #[iv u0, iv u1, iv u2, iv u3, iv u4, iv (4 : Int32), .unset] [])) _
            refine XS.iload X0.here hx rfl (hb hby d1_73) rfl ?_
            show Steps p.tables e below (s₁.setTop (mkF m 75 #[iv u0, iv u1, iv u2, iv u3, iv u4, iv (4 : Int32), .unset] [(.int (4 : Int32))])) _
            refine XS.iload X0.here hx rfl (hb hby d1_75) rfl ?_
            exact k
          by_cases hc31 : u4 < (4 : Int32)
          · skip
            obtain ⟨fs, hr, hrun, hended, hW, hsame⟩ := X0.leave (v := some (.int (0 : Int32))) (fun h => by rw [Bd.returns] at h; cases h)
            refine ⟨_, _, S30 _ ?_, hrun, hended, _, _, rfl, ?_, ⟨_, rfl⟩, hW, hsame.mono (by decide) (by decide)⟩
            · skip
              show Steps p.tables e below (s₁.setTop (mkF m 77 #[iv u0, iv u1, iv u2, iv u3, iv u4, iv (4 : Int32), .unset] [(.int u4), (.int (4 : Int32))])) _
              refine XS.icmpNo X0.here hx rfl (hb hby d1_77) rfl (tlt hc31).2.2.2 ?_
              show Steps p.tables e below (s₁.setTop (mkF m 80 #[iv u0, iv u1, iv u2, iv u3, iv u4, iv (4 : Int32), .unset] [])) _
              refine XS.iconst X0.here hx rfl (hb hby d1_80) ?_
              show Steps p.tables e below (s₁.setTop (mkF m 81 #[iv u0, iv u1, iv u2, iv u3, iv u4, iv (4 : Int32), .unset] [(.int (0 : Int32))])) _
              exact retI X0 hx Bd.returns (hb hby d1_81) hr
            · show QEx Z u0 u1 u2 u3 u4 h0 n0 _ s₁.heap _
              rw [e0]
              exact ⟨(by unfold own_ex; rw [if_neg hc2, if_neg hc4, if_neg hc13, if_pos hc29, if_pos hc31]), N0, rfl⟩
          · skip
            obtain ⟨_, _, ⟨T32, L32, k32, n32⟩, -, X32, ⟨Lc32, hQ32, l32, y32, z32⟩, st32⟩ := Jvm.LawKit.callS X0 hx (y := (⟨"com/example/rivanna/rivanna/core/json/Utf8SequenceLengthPinLaw", "cont", "(I)Z"⟩ : MethodName)) hown (mvT hZ (hw _ (List.mem_of_getElem? (i := 11) rfl))) (mvT hZ (hw _ (List.mem_of_getElem? (i := 12) rfl))) (mvT hZ (hw _ (List.mem_of_getElem? (i := 3) rfl))) (mvT hZ (hw _ (List.mem_of_getElem? (i := 13) rfl))) (by decide) (backOf (W := 0) (rmCt l Z a0 hw [] u1 h0 n0 Z0) hZ (hw _ (List.mem_of_getElem? (i := 13) rfl)) (hw _ (List.mem_of_getElem? (i := 3) rfl)) (by decide) (by decide)) (g := (mkF m 83 #[iv u0, iv u1, iv u2, iv u3, iv u4, iv (4 : Int32), .unset] [(.int u1)])) rfl (by rw [hml]; rfl) (argsL := [(.int u1)]) (rest := []) (lenOf pd_0 rfl) rfl (by show 2 * 0 + _ ≤ _; exact Nat.le_of_eq rfl) (hb hby d1_83) (fun _ _ => ⟨rfl, e0, (by decide : 0 + 0 ≤ _), (by decide : 0 + 0 ≤ _)⟩)
            dsimp only [Pt.U, Pt.locs, Pt.cells, Pt.slots] at X32 l32 y32 z32 st32 hQ32
            subst y32 z32
            obtain ⟨rfl, Nq32, eq32⟩ := hQ32
            have N32 : Fr n0 L32 := by rw [l32]; exact Fr.app N0 Nq32
            have S33 : ∀ t, Steps p.tables e below (T32.setTop (mkF m 86 #[iv u0, iv u1, iv u2, iv u3, iv u4, iv (4 : Int32), .unset] [(.int (own_ct u1))])) t → Steps p.tables e below (s₁.setTop (entryFrame m #[(.int u0), (.int u1), (.int u2), (.int u3), (.int u4)] 7)) t := by
              intro t k
              refine S30 t ?_
              show Steps p.tables e below (s₁.setTop (mkF m 77 #[iv u0, iv u1, iv u2, iv u3, iv u4, iv (4 : Int32), .unset] [(.int u4), (.int (4 : Int32))])) _
              refine XS.icmpYes X0.here hx rfl (pc0 := 77) (pc' := 82) rfl (hb hby d1_77) rfl (flt hc31).2.2.2 (by decide) (by decide) ?_
              show Steps p.tables e below (s₁.setTop (mkF m 82 #[iv u0, iv u1, iv u2, iv u3, iv u4, iv (4 : Int32), .unset] [])) _
              refine XS.iloadN X0.here hx rfl (hb hby d1_82) rfl ?_
              show Steps p.tables e below (s₁.setTop (mkF m 83 #[iv u0, iv u1, iv u2, iv u3, iv u4, iv (4 : Int32), .unset] [(.int u1)])) _
              refine st32 _ ?_
              exact k
            by_cases hc34 : (own_ct u1) = (0 : Int32)
            · skip
              obtain ⟨fs, hr, hrun, hended, hW, hsame⟩ := X32.leave (v := some (.int (0 : Int32))) (fun h => by rw [Bd.returns] at h; cases h)
              refine ⟨_, _, S33 _ ?_, hrun, hended, _, _, rfl, ?_, ⟨_, rfl⟩, hW, hsame.mono (by decide) (by decide)⟩
              · skip
                show Steps p.tables e below (T32.setTop (mkF m 86 #[iv u0, iv u1, iv u2, iv u3, iv u4, iv (4 : Int32), .unset] [(.int (own_ct u1))])) _
                refine XS.ifNo X32.here hx rfl (hb hby d1_86) rfl ((if0 _ _).trans (teq hc34).2) ?_
                show Steps p.tables e below (T32.setTop (mkF m 89 #[iv u0, iv u1, iv u2, iv u3, iv u4, iv (4 : Int32), .unset] [])) _
                refine XS.iconst X32.here hx rfl (hb hby d1_89) ?_
                show Steps p.tables e below (T32.setTop (mkF m 90 #[iv u0, iv u1, iv u2, iv u3, iv u4, iv (4 : Int32), .unset] [(.int (0 : Int32))])) _
                exact retI X32 hx Bd.returns (hb hby d1_90) hr
              · show QEx Z u0 u1 u2 u3 u4 h0 n0 _ T32.heap _
                rw [eq32]
                exact ⟨(by unfold own_ex; rw [if_neg hc2, if_neg hc4, if_neg hc13, if_pos hc29, if_neg hc31, if_pos hc34]), N32, rfl⟩
            · skip
              obtain ⟨_, _, ⟨T35, L35, k35, n35⟩, -, X35, ⟨Lc35, hQ35, l35, y35, z35⟩, st35⟩ := Jvm.LawKit.callS X32 hx (y := (⟨"com/example/rivanna/rivanna/core/json/Utf8SequenceLengthPinLaw", "cont", "(I)Z"⟩ : MethodName)) hown (mvT hZ (hw _ (List.mem_of_getElem? (i := 11) rfl))) (mvT hZ (hw _ (List.mem_of_getElem? (i := 12) rfl))) (mvT hZ (hw _ (List.mem_of_getElem? (i := 3) rfl))) (mvT hZ (hw _ (List.mem_of_getElem? (i := 13) rfl))) (by decide) (backOf (W := 0) (rmCt l Z a0 hw [] u2 h0 n0 Z0) hZ (hw _ (List.mem_of_getElem? (i := 13) rfl)) (hw _ (List.mem_of_getElem? (i := 3) rfl)) (by decide) (by decide)) (g := (mkF m 98 #[iv u0, iv u1, iv u2, iv u3, iv u4, iv (4 : Int32), .unset] [(.int u2)])) rfl (by rw [hml]; rfl) (argsL := [(.int u2)]) (rest := []) (lenOf pd_0 rfl) rfl (by show 2 * 0 + _ ≤ _; exact Nat.le_of_eq rfl) (hb hby d1_98) (fun _ _ => ⟨rfl, eq32, (by decide : 0 + 0 ≤ _), (by decide : 0 + 0 ≤ _)⟩)
              dsimp only [Pt.U, Pt.locs, Pt.cells, Pt.slots] at X35 l35 y35 z35 st35 hQ35
              subst y35 z35
              obtain ⟨rfl, Nq35, eq35⟩ := hQ35
              have N35 : Fr n0 L35 := by rw [l35]; exact Fr.app N32 Nq35
              have S36 : ∀ t, Steps p.tables e below (T35.setTop (mkF m 101 #[iv u0, iv u1, iv u2, iv u3, iv u4, iv (4 : Int32), .unset] [(.int (own_ct u2))])) t → Steps p.tables e below (s₁.setTop (entryFrame m #[(.int u0), (.int u1), (.int u2), (.int u3), (.int u4)] 7)) t := by
                intro t k
                refine S33 t ?_
                show Steps p.tables e below (T32.setTop (mkF m 86 #[iv u0, iv u1, iv u2, iv u3, iv u4, iv (4 : Int32), .unset] [(.int (own_ct u1))])) _
                refine XS.ifYes X32.here hx rfl (pc0 := 86) (pc' := 91) rfl (hb hby d1_86) rfl ((if0 _ _).trans (feq hc34).2) (by decide) (by decide) ?_
                show Steps p.tables e below (T32.setTop (mkF m 91 #[iv u0, iv u1, iv u2, iv u3, iv u4, iv (4 : Int32), .unset] [])) _
                refine XS.iload X32.here hx rfl (hb hby d1_91) rfl ?_
                show Steps p.tables e below (T32.setTop (mkF m 93 #[iv u0, iv u1, iv u2, iv u3, iv u4, iv (4 : Int32), .unset] [(.int (4 : Int32))])) _
                refine XS.iconst X32.here hx rfl (hb hby d1_93) ?_
                show Steps p.tables e below (T32.setTop (mkF m 94 #[iv u0, iv u1, iv u2, iv u3, iv u4, iv (4 : Int32), .unset] [(.int (3 : Int32)), (.int (4 : Int32))])) _
                refine XS.icmpNo X32.here hx rfl (hb hby d1_94) rfl (flt (by decide : ¬ ((4 : Int32) < (3 : Int32)))).1 ?_
                show Steps p.tables e below (T32.setTop (mkF m 97 #[iv u0, iv u1, iv u2, iv u3, iv u4, iv (4 : Int32), .unset] [])) _
                refine XS.iloadN X32.here hx rfl (hb hby d1_97) rfl ?_
                show Steps p.tables e below (T32.setTop (mkF m 98 #[iv u0, iv u1, iv u2, iv u3, iv u4, iv (4 : Int32), .unset] [(.int u2)])) _
                refine st35 _ ?_
                exact k
              by_cases hc37 : (own_ct u2) = (0 : Int32)
              · skip
                obtain ⟨fs, hr, hrun, hended, hW, hsame⟩ := X35.leave (v := some (.int (0 : Int32))) (fun h => by rw [Bd.returns] at h; cases h)
                refine ⟨_, _, S36 _ ?_, hrun, hended, _, _, rfl, ?_, ⟨_, rfl⟩, hW, hsame.mono (by decide) (by decide)⟩
                · skip
                  show Steps p.tables e below (T35.setTop (mkF m 101 #[iv u0, iv u1, iv u2, iv u3, iv u4, iv (4 : Int32), .unset] [(.int (own_ct u2))])) _
                  refine XS.ifNo X35.here hx rfl (hb hby d1_101) rfl ((if0 _ _).trans (teq hc37).2) ?_
                  show Steps p.tables e below (T35.setTop (mkF m 104 #[iv u0, iv u1, iv u2, iv u3, iv u4, iv (4 : Int32), .unset] [])) _
                  refine XS.iconst X35.here hx rfl (hb hby d1_104) ?_
                  show Steps p.tables e below (T35.setTop (mkF m 105 #[iv u0, iv u1, iv u2, iv u3, iv u4, iv (4 : Int32), .unset] [(.int (0 : Int32))])) _
                  exact retI X35 hx Bd.returns (hb hby d1_105) hr
                · show QEx Z u0 u1 u2 u3 u4 h0 n0 _ T35.heap _
                  rw [eq35]
                  exact ⟨(by unfold own_ex; rw [if_neg hc2, if_neg hc4, if_neg hc13, if_pos hc29, if_neg hc31, if_neg hc34, if_pos hc37]), N35, rfl⟩
              · skip
                obtain ⟨_, _, ⟨T38, L38, k38, n38⟩, -, X38, ⟨Lc38, hQ38, l38, y38, z38⟩, st38⟩ := Jvm.LawKit.callS X35 hx (y := (⟨"com/example/rivanna/rivanna/core/json/Utf8SequenceLengthPinLaw", "cont", "(I)Z"⟩ : MethodName)) hown (mvT hZ (hw _ (List.mem_of_getElem? (i := 11) rfl))) (mvT hZ (hw _ (List.mem_of_getElem? (i := 12) rfl))) (mvT hZ (hw _ (List.mem_of_getElem? (i := 3) rfl))) (mvT hZ (hw _ (List.mem_of_getElem? (i := 13) rfl))) (by decide) (backOf (W := 0) (rmCt l Z a0 hw [] u3 h0 n0 Z0) hZ (hw _ (List.mem_of_getElem? (i := 13) rfl)) (hw _ (List.mem_of_getElem? (i := 3) rfl)) (by decide) (by decide)) (g := (mkF m 113 #[iv u0, iv u1, iv u2, iv u3, iv u4, iv (4 : Int32), .unset] [(.int u3)])) rfl (by rw [hml]; rfl) (argsL := [(.int u3)]) (rest := []) (lenOf pd_0 rfl) rfl (by show 2 * 0 + _ ≤ _; exact Nat.le_of_eq rfl) (hb hby d1_113) (fun _ _ => ⟨rfl, eq35, (by decide : 0 + 0 ≤ _), (by decide : 0 + 0 ≤ _)⟩)
                dsimp only [Pt.U, Pt.locs, Pt.cells, Pt.slots] at X38 l38 y38 z38 st38 hQ38
                subst y38 z38
                obtain ⟨rfl, Nq38, eq38⟩ := hQ38
                have N38 : Fr n0 L38 := by rw [l38]; exact Fr.app N35 Nq38
                have S39 : ∀ t, Steps p.tables e below (T38.setTop (mkF m 116 #[iv u0, iv u1, iv u2, iv u3, iv u4, iv (4 : Int32), .unset] [(.int (own_ct u3))])) t → Steps p.tables e below (s₁.setTop (entryFrame m #[(.int u0), (.int u1), (.int u2), (.int u3), (.int u4)] 7)) t := by
                  intro t k
                  refine S36 t ?_
                  show Steps p.tables e below (T35.setTop (mkF m 101 #[iv u0, iv u1, iv u2, iv u3, iv u4, iv (4 : Int32), .unset] [(.int (own_ct u2))])) _
                  refine XS.ifYes X35.here hx rfl (pc0 := 101) (pc' := 106) rfl (hb hby d1_101) rfl ((if0 _ _).trans (feq hc37).2) (by decide) (by decide) ?_
                  show Steps p.tables e below (T35.setTop (mkF m 106 #[iv u0, iv u1, iv u2, iv u3, iv u4, iv (4 : Int32), .unset] [])) _
                  refine XS.iload X35.here hx rfl (hb hby d1_106) rfl ?_
                  show Steps p.tables e below (T35.setTop (mkF m 108 #[iv u0, iv u1, iv u2, iv u3, iv u4, iv (4 : Int32), .unset] [(.int (4 : Int32))])) _
                  refine XS.iconst X35.here hx rfl (hb hby d1_108) ?_
                  show Steps p.tables e below (T35.setTop (mkF m 109 #[iv u0, iv u1, iv u2, iv u3, iv u4, iv (4 : Int32), .unset] [(.int (4 : Int32)), (.int (4 : Int32))])) _
                  refine XS.icmpNo X35.here hx rfl (hb hby d1_109) rfl (teq (by decide : (4 : Int32) = (4 : Int32))).2 ?_
                  show Steps p.tables e below (T35.setTop (mkF m 112 #[iv u0, iv u1, iv u2, iv u3, iv u4, iv (4 : Int32), .unset] [])) _
                  refine XS.iloadN X35.here hx rfl (hb hby d1_112) rfl ?_
                  show Steps p.tables e below (T35.setTop (mkF m 113 #[iv u0, iv u1, iv u2, iv u3, iv u4, iv (4 : Int32), .unset] [(.int u3)])) _
                  refine st38 _ ?_
                  exact k
                by_cases hc40 : (own_ct u3) = (0 : Int32)
                · skip
                  obtain ⟨fs, hr, hrun, hended, hW, hsame⟩ := X38.leave (v := some (.int (0 : Int32))) (fun h => by rw [Bd.returns] at h; cases h)
                  refine ⟨_, _, S39 _ ?_, hrun, hended, _, _, rfl, ?_, ⟨_, rfl⟩, hW, hsame.mono (by decide) (by decide)⟩
                  · skip
                    show Steps p.tables e below (T38.setTop (mkF m 116 #[iv u0, iv u1, iv u2, iv u3, iv u4, iv (4 : Int32), .unset] [(.int (own_ct u3))])) _
                    refine XS.ifNo X38.here hx rfl (hb hby d1_116) rfl ((if0 _ _).trans (teq hc40).2) ?_
                    show Steps p.tables e below (T38.setTop (mkF m 119 #[iv u0, iv u1, iv u2, iv u3, iv u4, iv (4 : Int32), .unset] [])) _
                    refine XS.iconst X38.here hx rfl (hb hby d1_119) ?_
                    show Steps p.tables e below (T38.setTop (mkF m 120 #[iv u0, iv u1, iv u2, iv u3, iv u4, iv (4 : Int32), .unset] [(.int (0 : Int32))])) _
                    exact retI X38 hx Bd.returns (hb hby d1_120) hr
                  · show QEx Z u0 u1 u2 u3 u4 h0 n0 _ T38.heap _
                    rw [eq38]
                    exact ⟨(by unfold own_ex; rw [if_neg hc2, if_neg hc4, if_neg hc13, if_pos hc29, if_neg hc31, if_neg hc34, if_neg hc37, if_pos hc40]), N38, rfl⟩
                · skip
                  have S41 : ∀ t, Steps p.tables e below (T38.setTop (mkF m 245 #[iv u0, iv u1, iv u2, iv u3, iv u4, iv (4 : Int32), iv (((((u0 &&& (7 : Int32)) <<< ((18 : Int32) &&& 31)) ||| ((u1 &&& (63 : Int32)) <<< ((12 : Int32) &&& 31))) ||| ((u2 &&& (63 : Int32)) <<< ((6 : Int32) &&& 31))) ||| (u3 &&& (63 : Int32)))] [(.int (65536 : Int32)), (.int (((((u0 &&& (7 : Int32)) <<< ((18 : Int32) &&& 31)) ||| ((u1 &&& (63 : Int32)) <<< ((12 : Int32) &&& 31))) ||| ((u2 &&& (63 : Int32)) <<< ((6 : Int32) &&& 31))) ||| (u3 &&& (63 : Int32))))])) t → Steps p.tables e below (s₁.setTop (entryFrame m #[(.int u0), (.int u1), (.int u2), (.int u3), (.int u4)] 7)) t := by
                    intro t k
                    refine S39 t ?_
                    show Steps p.tables e below (T38.setTop (mkF m 116 #[iv u0, iv u1, iv u2, iv u3, iv u4, iv (4 : Int32), .unset] [(.int (own_ct u3))])) _
                    refine XS.ifYes X38.here hx rfl (pc0 := 116) (pc' := 121) rfl (hb hby d1_116) rfl ((if0 _ _).trans (feq hc40).2) (by decide) (by decide) ?_
                    show Steps p.tables e below (T38.setTop (mkF m 121 #[iv u0, iv u1, iv u2, iv u3, iv u4, iv (4 : Int32), .unset] [])) _
                    refine XS.iload X38.here hx rfl (hb hby d1_121) rfl ?_
                    show Steps p.tables e below (T38.setTop (mkF m 123 #[iv u0, iv u1, iv u2, iv u3, iv u4, iv (4 : Int32), .unset] [(.int (4 : Int32))])) _
                    refine XS.iconst X38.here hx rfl (hb hby d1_123) ?_
                    show Steps p.tables e below (T38.setTop (mkF m 124 #[iv u0, iv u1, iv u2, iv u3, iv u4, iv (4 : Int32), .unset] [(.int (2 : Int32)), (.int (4 : Int32))])) _
                    refine XS.icmpYes X38.here hx rfl (pc0 := 124) (pc' := 155) rfl (hb hby d1_124) rfl (feq (by decide : ¬ ((4 : Int32) = (2 : Int32)))).2 (by decide) (by decide) ?_
                    show Steps p.tables e below (T38.setTop (mkF m 155 #[iv u0, iv u1, iv u2, iv u3, iv u4, iv (4 : Int32), .unset] [])) _
                    refine XS.iload X38.here hx rfl (hb hby d1_155) rfl ?_
                    show Steps p.tables e below (T38.setTop (mkF m 157 #[iv u0, iv u1, iv u2, iv u3, iv u4, iv (4 : Int32), .unset] [(.int (4 : Int32))])) _
                    refine XS.iconst X38.here hx rfl (hb hby d1_157) ?_
                    show Steps p.tables e below (T38.setTop (mkF m 158 #[iv u0, iv u1, iv u2, iv u3, iv u4, iv (4 : Int32), .unset] [(.int (3 : Int32)), (.int (4 : Int32))])) _
                    refine XS.icmpYes X38.here hx rfl (pc0 := 158) (pc' := 211) rfl (hb hby d1_158) rfl (feq (by decide : ¬ ((4 : Int32) = (3 : Int32)))).2 (by decide) (by decide) ?_
                    show Steps p.tables e below (T38.setTop (mkF m 211 #[iv u0, iv u1, iv u2, iv u3, iv u4, iv (4 : Int32), .unset] [])) _
                    refine XS.iloadN X38.here hx rfl (hb hby d1_211) rfl ?_
                    show Steps p.tables e below (T38.setTop (mkF m 212 #[iv u0, iv u1, iv u2, iv u3, iv u4, iv (4 : Int32), .unset] [(.int u0)])) _
                    refine XS.bipush X38.here hx rfl (hb hby d1_212) ?_
                    show Steps p.tables e below (T38.setTop (mkF m 214 #[iv u0, iv u1, iv u2, iv u3, iv u4, iv (4 : Int32), .unset] [(.int (7 : Int32)), (.int u0)])) _
                    refine XS.iand X38.here hx rfl (hb hby d1_214) rfl ?_
                    show Steps p.tables e below (T38.setTop (mkF m 215 #[iv u0, iv u1, iv u2, iv u3, iv u4, iv (4 : Int32), .unset] [(.int (u0 &&& (7 : Int32)))])) _
                    refine XS.bipush X38.here hx rfl (hb hby d1_215) ?_
                    show Steps p.tables e below (T38.setTop (mkF m 217 #[iv u0, iv u1, iv u2, iv u3, iv u4, iv (4 : Int32), .unset] [(.int (18 : Int32)), (.int (u0 &&& (7 : Int32)))])) _
                    refine XS.ishl X38.here hx rfl (hb hby d1_217) rfl ?_
                    show Steps p.tables e below (T38.setTop (mkF m 218 #[iv u0, iv u1, iv u2, iv u3, iv u4, iv (4 : Int32), .unset] [(.int ((u0 &&& (7 : Int32)) <<< ((18 : Int32) &&& 31)))])) _
                    refine XS.iloadN X38.here hx rfl (hb hby d1_218) rfl ?_
                    show Steps p.tables e below (T38.setTop (mkF m 219 #[iv u0, iv u1, iv u2, iv u3, iv u4, iv (4 : Int32), .unset] [(.int u1), (.int ((u0 &&& (7 : Int32)) <<< ((18 : Int32) &&& 31)))])) _
                    refine XS.bipush X38.here hx rfl (hb hby d1_219) ?_
                    show Steps p.tables e below (T38.setTop (mkF m 221 #[iv u0, iv u1, iv u2, iv u3, iv u4, iv (4 : Int32), .unset] [(.int (63 : Int32)), (.int u1), (.int ((u0 &&& (7 : Int32)) <<< ((18 : Int32) &&& 31)))])) _
                    refine XS.iand X38.here hx rfl (hb hby d1_221) rfl ?_
                    show Steps p.tables e below (T38.setTop (mkF m 222 #[iv u0, iv u1, iv u2, iv u3, iv u4, iv (4 : Int32), .unset] [(.int (u1 &&& (63 : Int32))), (.int ((u0 &&& (7 : Int32)) <<< ((18 : Int32) &&& 31)))])) _
                    refine XS.bipush X38.here hx rfl (hb hby d1_222) ?_
                    show Steps p.tables e below (T38.setTop (mkF m 224 #[iv u0, iv u1, iv u2, iv u3, iv u4, iv (4 : Int32), .unset] [(.int (12 : Int32)), (.int (u1 &&& (63 : Int32))), (.int ((u0 &&& (7 : Int32)) <<< ((18 : Int32) &&& 31)))])) _
                    refine XS.ishl X38.here hx rfl (hb hby d1_224) rfl ?_
                    show Steps p.tables e below (T38.setTop (mkF m 225 #[iv u0, iv u1, iv u2, iv u3, iv u4, iv (4 : Int32), .unset] [(.int ((u1 &&& (63 : Int32)) <<< ((12 : Int32) &&& 31))), (.int ((u0 &&& (7 : Int32)) <<< ((18 : Int32) &&& 31)))])) _
                    refine XS.ior X38.here hx rfl (hb hby d1_225) rfl ?_
                    show Steps p.tables e below (T38.setTop (mkF m 226 #[iv u0, iv u1, iv u2, iv u3, iv u4, iv (4 : Int32), .unset] [(.int (((u0 &&& (7 : Int32)) <<< ((18 : Int32) &&& 31)) ||| ((u1 &&& (63 : Int32)) <<< ((12 : Int32) &&& 31))))])) _
                    refine XS.iloadN X38.here hx rfl (hb hby d1_226) rfl ?_
                    show Steps p.tables e below (T38.setTop (mkF m 227 #[iv u0, iv u1, iv u2, iv u3, iv u4, iv (4 : Int32), .unset] [(.int u2), (.int (((u0 &&& (7 : Int32)) <<< ((18 : Int32) &&& 31)) ||| ((u1 &&& (63 : Int32)) <<< ((12 : Int32) &&& 31))))])) _
                    refine XS.bipush X38.here hx rfl (hb hby d1_227) ?_
                    show Steps p.tables e below (T38.setTop (mkF m 229 #[iv u0, iv u1, iv u2, iv u3, iv u4, iv (4 : Int32), .unset] [(.int (63 : Int32)), (.int u2), (.int (((u0 &&& (7 : Int32)) <<< ((18 : Int32) &&& 31)) ||| ((u1 &&& (63 : Int32)) <<< ((12 : Int32) &&& 31))))])) _
                    refine XS.iand X38.here hx rfl (hb hby d1_229) rfl ?_
                    show Steps p.tables e below (T38.setTop (mkF m 230 #[iv u0, iv u1, iv u2, iv u3, iv u4, iv (4 : Int32), .unset] [(.int (u2 &&& (63 : Int32))), (.int (((u0 &&& (7 : Int32)) <<< ((18 : Int32) &&& 31)) ||| ((u1 &&& (63 : Int32)) <<< ((12 : Int32) &&& 31))))])) _
                    refine XS.bipush X38.here hx rfl (hb hby d1_230) ?_
                    show Steps p.tables e below (T38.setTop (mkF m 232 #[iv u0, iv u1, iv u2, iv u3, iv u4, iv (4 : Int32), .unset] [(.int (6 : Int32)), (.int (u2 &&& (63 : Int32))), (.int (((u0 &&& (7 : Int32)) <<< ((18 : Int32) &&& 31)) ||| ((u1 &&& (63 : Int32)) <<< ((12 : Int32) &&& 31))))])) _
                    refine XS.ishl X38.here hx rfl (hb hby d1_232) rfl ?_
                    show Steps p.tables e below (T38.setTop (mkF m 233 #[iv u0, iv u1, iv u2, iv u3, iv u4, iv (4 : Int32), .unset] [(.int ((u2 &&& (63 : Int32)) <<< ((6 : Int32) &&& 31))), (.int (((u0 &&& (7 : Int32)) <<< ((18 : Int32) &&& 31)) ||| ((u1 &&& (63 : Int32)) <<< ((12 : Int32) &&& 31))))])) _
                    refine XS.ior X38.here hx rfl (hb hby d1_233) rfl ?_
                    show Steps p.tables e below (T38.setTop (mkF m 234 #[iv u0, iv u1, iv u2, iv u3, iv u4, iv (4 : Int32), .unset] [(.int ((((u0 &&& (7 : Int32)) <<< ((18 : Int32) &&& 31)) ||| ((u1 &&& (63 : Int32)) <<< ((12 : Int32) &&& 31))) ||| ((u2 &&& (63 : Int32)) <<< ((6 : Int32) &&& 31))))])) _
                    refine XS.iloadN X38.here hx rfl (hb hby d1_234) rfl ?_
                    show Steps p.tables e below (T38.setTop (mkF m 235 #[iv u0, iv u1, iv u2, iv u3, iv u4, iv (4 : Int32), .unset] [(.int u3), (.int ((((u0 &&& (7 : Int32)) <<< ((18 : Int32) &&& 31)) ||| ((u1 &&& (63 : Int32)) <<< ((12 : Int32) &&& 31))) ||| ((u2 &&& (63 : Int32)) <<< ((6 : Int32) &&& 31))))])) _
                    refine XS.bipush X38.here hx rfl (hb hby d1_235) ?_
                    show Steps p.tables e below (T38.setTop (mkF m 237 #[iv u0, iv u1, iv u2, iv u3, iv u4, iv (4 : Int32), .unset] [(.int (63 : Int32)), (.int u3), (.int ((((u0 &&& (7 : Int32)) <<< ((18 : Int32) &&& 31)) ||| ((u1 &&& (63 : Int32)) <<< ((12 : Int32) &&& 31))) ||| ((u2 &&& (63 : Int32)) <<< ((6 : Int32) &&& 31))))])) _
                    refine XS.iand X38.here hx rfl (hb hby d1_237) rfl ?_
                    show Steps p.tables e below (T38.setTop (mkF m 238 #[iv u0, iv u1, iv u2, iv u3, iv u4, iv (4 : Int32), .unset] [(.int (u3 &&& (63 : Int32))), (.int ((((u0 &&& (7 : Int32)) <<< ((18 : Int32) &&& 31)) ||| ((u1 &&& (63 : Int32)) <<< ((12 : Int32) &&& 31))) ||| ((u2 &&& (63 : Int32)) <<< ((6 : Int32) &&& 31))))])) _
                    refine XS.ior X38.here hx rfl (hb hby d1_238) rfl ?_
                    show Steps p.tables e below (T38.setTop (mkF m 239 #[iv u0, iv u1, iv u2, iv u3, iv u4, iv (4 : Int32), .unset] [(.int (((((u0 &&& (7 : Int32)) <<< ((18 : Int32) &&& 31)) ||| ((u1 &&& (63 : Int32)) <<< ((12 : Int32) &&& 31))) ||| ((u2 &&& (63 : Int32)) <<< ((6 : Int32) &&& 31))) ||| (u3 &&& (63 : Int32))))])) _
                    refine XS.istore X38.here hx rfl (hb hby d1_239) rfl (l' := #[iv u0, iv u1, iv u2, iv u3, iv u4, iv (4 : Int32), iv (((((u0 &&& (7 : Int32)) <<< ((18 : Int32) &&& 31)) ||| ((u1 &&& (63 : Int32)) <<< ((12 : Int32) &&& 31))) ||| ((u2 &&& (63 : Int32)) <<< ((6 : Int32) &&& 31))) ||| (u3 &&& (63 : Int32)))]) rfl ?_
                    show Steps p.tables e below (T38.setTop (mkF m 241 #[iv u0, iv u1, iv u2, iv u3, iv u4, iv (4 : Int32), iv (((((u0 &&& (7 : Int32)) <<< ((18 : Int32) &&& 31)) ||| ((u1 &&& (63 : Int32)) <<< ((12 : Int32) &&& 31))) ||| ((u2 &&& (63 : Int32)) <<< ((6 : Int32) &&& 31))) ||| (u3 &&& (63 : Int32)))] [])) _
                    refine XS.iload X38.here hx rfl (hb hby d1_241) rfl ?_
                    show Steps p.tables e below (T38.setTop (mkF m 243 #[iv u0, iv u1, iv u2, iv u3, iv u4, iv (4 : Int32), iv (((((u0 &&& (7 : Int32)) <<< ((18 : Int32) &&& 31)) ||| ((u1 &&& (63 : Int32)) <<< ((12 : Int32) &&& 31))) ||| ((u2 &&& (63 : Int32)) <<< ((6 : Int32) &&& 31))) ||| (u3 &&& (63 : Int32)))] [(.int (((((u0 &&& (7 : Int32)) <<< ((18 : Int32) &&& 31)) ||| ((u1 &&& (63 : Int32)) <<< ((12 : Int32) &&& 31))) ||| ((u2 &&& (63 : Int32)) <<< ((6 : Int32) &&& 31))) ||| (u3 &&& (63 : Int32))))])) _
                    refine X38.ldcInt hx hown (mvT hZ (hw _ (List.mem_of_getElem? (i := 20) rfl))) (g := (mkF m 243 #[iv u0, iv u1, iv u2, iv u3, iv u4, iv (4 : Int32), iv (((((u0 &&& (7 : Int32)) <<< ((18 : Int32) &&& 31)) ||| ((u1 &&& (63 : Int32)) <<< ((12 : Int32) &&& 31))) ||| ((u2 &&& (63 : Int32)) <<< ((6 : Int32) &&& 31))) ||| (u3 &&& (63 : Int32)))] [(.int (((((u0 &&& (7 : Int32)) <<< ((18 : Int32) &&& 31)) ||| ((u1 &&& (63 : Int32)) <<< ((12 : Int32) &&& 31))) ||| ((u2 &&& (63 : Int32)) <<< ((6 : Int32) &&& 31))) ||| (u3 &&& (63 : Int32))))])) rfl (hb hby d1_243) _ ?_
                    exact k
                  by_cases hc42 : (((((u0 &&& (7 : Int32)) <<< ((18 : Int32) &&& 31)) ||| ((u1 &&& (63 : Int32)) <<< ((12 : Int32) &&& 31))) ||| ((u2 &&& (63 : Int32)) <<< ((6 : Int32) &&& 31))) ||| (u3 &&& (63 : Int32))) < (65536 : Int32)
                  · skip
                    obtain ⟨fs, hr, hrun, hended, hW, hsame⟩ := X38.leave (v := some (.int (0 : Int32))) (fun h => by rw [Bd.returns] at h; cases h)
                    refine ⟨_, _, S41 _ ?_, hrun, hended, _, _, rfl, ?_, ⟨_, rfl⟩, hW, hsame.mono (by decide) (by decide)⟩
                    · skip
                      show Steps p.tables e below (T38.setTop (mkF m 245 #[iv u0, iv u1, iv u2, iv u3, iv u4, iv (4 : Int32), iv (((((u0 &&& (7 : Int32)) <<< ((18 : Int32) &&& 31)) ||| ((u1 &&& (63 : Int32)) <<< ((12 : Int32) &&& 31))) ||| ((u2 &&& (63 : Int32)) <<< ((6 : Int32) &&& 31))) ||| (u3 &&& (63 : Int32)))] [(.int (65536 : Int32)), (.int (((((u0 &&& (7 : Int32)) <<< ((18 : Int32) &&& 31)) ||| ((u1 &&& (63 : Int32)) <<< ((12 : Int32) &&& 31))) ||| ((u2 &&& (63 : Int32)) <<< ((6 : Int32) &&& 31))) ||| (u3 &&& (63 : Int32))))])) _
                      refine XS.icmpYes X38.here hx rfl (pc0 := 245) (pc' := 255) rfl (hb hby d1_245) rfl (tlt hc42).1 (by decide) (by decide) ?_
                      show Steps p.tables e below (T38.setTop (mkF m 255 #[iv u0, iv u1, iv u2, iv u3, iv u4, iv (4 : Int32), iv (((((u0 &&& (7 : Int32)) <<< ((18 : Int32) &&& 31)) ||| ((u1 &&& (63 : Int32)) <<< ((12 : Int32) &&& 31))) ||| ((u2 &&& (63 : Int32)) <<< ((6 : Int32) &&& 31))) ||| (u3 &&& (63 : Int32)))] [])) _
                      refine XS.iconst X38.here hx rfl (hb hby d1_255) ?_
                      show Steps p.tables e below (T38.setTop (mkF m 256 #[iv u0, iv u1, iv u2, iv u3, iv u4, iv (4 : Int32), iv (((((u0 &&& (7 : Int32)) <<< ((18 : Int32) &&& 31)) ||| ((u1 &&& (63 : Int32)) <<< ((12 : Int32) &&& 31))) ||| ((u2 &&& (63 : Int32)) <<< ((6 : Int32) &&& 31))) ||| (u3 &&& (63 : Int32)))] [(.int (0 : Int32))])) _
                      exact retI X38 hx Bd.returns (hb hby d1_256) hr
                    · show QEx Z u0 u1 u2 u3 u4 h0 n0 _ T38.heap _
                      rw [eq38]
                      exact ⟨(by unfold own_ex; rw [if_neg hc2, if_neg hc4, if_neg hc13, if_pos hc29, if_neg hc31, if_neg hc34, if_neg hc37, if_neg hc40, if_pos hc42]), N38, rfl⟩
                  · skip
                    have S43 : ∀ t, Steps p.tables e below (T38.setTop (mkF m 252 #[iv u0, iv u1, iv u2, iv u3, iv u4, iv (4 : Int32), iv (((((u0 &&& (7 : Int32)) <<< ((18 : Int32) &&& 31)) ||| ((u1 &&& (63 : Int32)) <<< ((12 : Int32) &&& 31))) ||| ((u2 &&& (63 : Int32)) <<< ((6 : Int32) &&& 31))) ||| (u3 &&& (63 : Int32)))] [(.int (1114111 : Int32)), (.int (((((u0 &&& (7 : Int32)) <<< ((18 : Int32) &&& 31)) ||| ((u1 &&& (63 : Int32)) <<< ((12 : Int32) &&& 31))) ||| ((u2 &&& (63 : Int32)) <<< ((6 : Int32) &&& 31))) ||| (u3 &&& (63 : Int32))))])) t → Steps p.tables e below (s₁.setTop (entryFrame m #[(.int u0), (.int u1), (.int u2), (.int u3), (.int u4)] 7)) t := by
                      intro t k
                      refine S41 t ?_
                      show Steps p.tables e below (T38.setTop (mkF m 245 #[iv u0, iv u1, iv u2, iv u3, iv u4, iv (4 : Int32), iv (((((u0 &&& (7 : Int32)) <<< ((18 : Int32) &&& 31)) ||| ((u1 &&& (63 : Int32)) <<< ((12 : Int32) &&& 31))) ||| ((u2 &&& (63 : Int32)) <<< ((6 : Int32) &&& 31))) ||| (u3 &&& (63 : Int32)))] [(.int (65536 : Int32)), (.int (((((u0 &&& (7 : Int32)) <<< ((18 : Int32) &&& 31)) ||| ((u1 &&& (63 : Int32)) <<< ((12 : Int32) &&& 31))) ||| ((u2 &&& (63 : Int32)) <<< ((6 : Int32) &&& 31))) ||| (u3 &&& (63 : Int32))))])) _
                      refine XS.icmpNo X38.here hx rfl (hb hby d1_245) rfl (flt hc42).1 ?_
                      show Steps p.tables e below (T38.setTop (mkF m 248 #[iv u0, iv u1, iv u2, iv u3, iv u4, iv (4 : Int32), iv (((((u0 &&& (7 : Int32)) <<< ((18 : Int32) &&& 31)) ||| ((u1 &&& (63 : Int32)) <<< ((12 : Int32) &&& 31))) ||| ((u2 &&& (63 : Int32)) <<< ((6 : Int32) &&& 31))) ||| (u3 &&& (63 : Int32)))] [])) _
                      refine XS.iload X38.here hx rfl (hb hby d1_248) rfl ?_
                      show Steps p.tables e below (T38.setTop (mkF m 250 #[iv u0, iv u1, iv u2, iv u3, iv u4, iv (4 : Int32), iv (((((u0 &&& (7 : Int32)) <<< ((18 : Int32) &&& 31)) ||| ((u1 &&& (63 : Int32)) <<< ((12 : Int32) &&& 31))) ||| ((u2 &&& (63 : Int32)) <<< ((6 : Int32) &&& 31))) ||| (u3 &&& (63 : Int32)))] [(.int (((((u0 &&& (7 : Int32)) <<< ((18 : Int32) &&& 31)) ||| ((u1 &&& (63 : Int32)) <<< ((12 : Int32) &&& 31))) ||| ((u2 &&& (63 : Int32)) <<< ((6 : Int32) &&& 31))) ||| (u3 &&& (63 : Int32))))])) _
                      refine X38.ldcInt hx hown (mvT hZ (hw _ (List.mem_of_getElem? (i := 21) rfl))) (g := (mkF m 250 #[iv u0, iv u1, iv u2, iv u3, iv u4, iv (4 : Int32), iv (((((u0 &&& (7 : Int32)) <<< ((18 : Int32) &&& 31)) ||| ((u1 &&& (63 : Int32)) <<< ((12 : Int32) &&& 31))) ||| ((u2 &&& (63 : Int32)) <<< ((6 : Int32) &&& 31))) ||| (u3 &&& (63 : Int32)))] [(.int (((((u0 &&& (7 : Int32)) <<< ((18 : Int32) &&& 31)) ||| ((u1 &&& (63 : Int32)) <<< ((12 : Int32) &&& 31))) ||| ((u2 &&& (63 : Int32)) <<< ((6 : Int32) &&& 31))) ||| (u3 &&& (63 : Int32))))])) rfl (hb hby d1_250) _ ?_
                      exact k
                    by_cases hc44 : (1114111 : Int32) < (((((u0 &&& (7 : Int32)) <<< ((18 : Int32) &&& 31)) ||| ((u1 &&& (63 : Int32)) <<< ((12 : Int32) &&& 31))) ||| ((u2 &&& (63 : Int32)) <<< ((6 : Int32) &&& 31))) ||| (u3 &&& (63 : Int32)))
                    · skip
                      obtain ⟨fs, hr, hrun, hended, hW, hsame⟩ := X38.leave (v := some (.int (0 : Int32))) (fun h => by rw [Bd.returns] at h; cases h)
                      refine ⟨_, _, S43 _ ?_, hrun, hended, _, _, rfl, ?_, ⟨_, rfl⟩, hW, hsame.mono (by decide) (by decide)⟩
                      · skip
                        show Steps p.tables e below (T38.setTop (mkF m 252 #[iv u0, iv u1, iv u2, iv u3, iv u4, iv (4 : Int32), iv (((((u0 &&& (7 : Int32)) <<< ((18 : Int32) &&& 31)) ||| ((u1 &&& (63 : Int32)) <<< ((12 : Int32) &&& 31))) ||| ((u2 &&& (63 : Int32)) <<< ((6 : Int32) &&& 31))) ||| (u3 &&& (63 : Int32)))] [(.int (1114111 : Int32)), (.int (((((u0 &&& (7 : Int32)) <<< ((18 : Int32) &&& 31)) ||| ((u1 &&& (63 : Int32)) <<< ((12 : Int32) &&& 31))) ||| ((u2 &&& (63 : Int32)) <<< ((6 : Int32) &&& 31))) ||| (u3 &&& (63 : Int32))))])) _
                        refine XS.icmpNo X38.here hx rfl (hb hby d1_252) rfl (tlt hc44).2.2.2 ?_
                        show Steps p.tables e below (T38.setTop (mkF m 255 #[iv u0, iv u1, iv u2, iv u3, iv u4, iv (4 : Int32), iv (((((u0 &&& (7 : Int32)) <<< ((18 : Int32) &&& 31)) ||| ((u1 &&& (63 : Int32)) <<< ((12 : Int32) &&& 31))) ||| ((u2 &&& (63 : Int32)) <<< ((6 : Int32) &&& 31))) ||| (u3 &&& (63 : Int32)))] [])) _
                        refine XS.iconst X38.here hx rfl (hb hby d1_255) ?_
                        show Steps p.tables e below (T38.setTop (mkF m 256 #[iv u0, iv u1, iv u2, iv u3, iv u4, iv (4 : Int32), iv (((((u0 &&& (7 : Int32)) <<< ((18 : Int32) &&& 31)) ||| ((u1 &&& (63 : Int32)) <<< ((12 : Int32) &&& 31))) ||| ((u2 &&& (63 : Int32)) <<< ((6 : Int32) &&& 31))) ||| (u3 &&& (63 : Int32)))] [(.int (0 : Int32))])) _
                        exact retI X38 hx Bd.returns (hb hby d1_256) hr
                      · show QEx Z u0 u1 u2 u3 u4 h0 n0 _ T38.heap _
                        rw [eq38]
                        exact ⟨(by unfold own_ex; rw [if_neg hc2, if_neg hc4, if_neg hc13, if_pos hc29, if_neg hc31, if_neg hc34, if_neg hc37, if_neg hc40, if_neg hc42, if_pos hc44]), N38, rfl⟩
                    · skip
                      obtain ⟨fs, hr, hrun, hended, hW, hsame⟩ := X38.leave (v := some (.int (4 : Int32))) (fun h => by rw [Bd.returns] at h; cases h)
                      refine ⟨_, _, S43 _ ?_, hrun, hended, _, _, rfl, ?_, ⟨_, rfl⟩, hW, hsame.mono (by decide) (by decide)⟩
                      · skip
                        show Steps p.tables e below (T38.setTop (mkF m 252 #[iv u0, iv u1, iv u2, iv u3, iv u4, iv (4 : Int32), iv (((((u0 &&& (7 : Int32)) <<< ((18 : Int32) &&& 31)) ||| ((u1 &&& (63 : Int32)) <<< ((12 : Int32) &&& 31))) ||| ((u2 &&& (63 : Int32)) <<< ((6 : Int32) &&& 31))) ||| (u3 &&& (63 : Int32)))] [(.int (1114111 : Int32)), (.int (((((u0 &&& (7 : Int32)) <<< ((18 : Int32) &&& 31)) ||| ((u1 &&& (63 : Int32)) <<< ((12 : Int32) &&& 31))) ||| ((u2 &&& (63 : Int32)) <<< ((6 : Int32) &&& 31))) ||| (u3 &&& (63 : Int32))))])) _
                        refine XS.icmpYes X38.here hx rfl (pc0 := 252) (pc' := 257) rfl (hb hby d1_252) rfl (flt hc44).2.2.2 (by decide) (by decide) ?_
                        show Steps p.tables e below (T38.setTop (mkF m 257 #[iv u0, iv u1, iv u2, iv u3, iv u4, iv (4 : Int32), iv (((((u0 &&& (7 : Int32)) <<< ((18 : Int32) &&& 31)) ||| ((u1 &&& (63 : Int32)) <<< ((12 : Int32) &&& 31))) ||| ((u2 &&& (63 : Int32)) <<< ((6 : Int32) &&& 31))) ||| (u3 &&& (63 : Int32)))] [])) _
                        refine XS.iconst X38.here hx rfl (hb hby d1_257) ?_
                        show Steps p.tables e below (T38.setTop (mkF m 258 #[iv u0, iv u1, iv u2, iv u3, iv u4, iv (4 : Int32), iv (((((u0 &&& (7 : Int32)) <<< ((18 : Int32) &&& 31)) ||| ((u1 &&& (63 : Int32)) <<< ((12 : Int32) &&& 31))) ||| ((u2 &&& (63 : Int32)) <<< ((6 : Int32) &&& 31))) ||| (u3 &&& (63 : Int32)))] [(.int (4 : Int32))])) _
                        exact retI X38 hx Bd.returns (hb hby d1_258) hr
                      · show QEx Z u0 u1 u2 u3 u4 h0 n0 _ T38.heap _
                        rw [eq38]
                        exact ⟨(by unfold own_ex; rw [if_neg hc2, if_neg hc4, if_neg hc13, if_pos hc29, if_neg hc31, if_neg hc34, if_neg hc37, if_neg hc40, if_neg hc42, if_neg hc44]), N38, rfl⟩
        · skip
          obtain ⟨fs, hr, hrun, hended, hW, hsame⟩ := X0.leave (v := some (.int (0 : Int32))) (fun h => by rw [Bd.returns] at h; cases h)
          refine ⟨_, _, S28 _ ?_, hrun, hended, _, _, rfl, ?_, ⟨_, rfl⟩, hW, hsame.mono (by decide) (by decide)⟩
          · skip
            show Steps p.tables e below (s₁.setTop (mkF m 56 #[iv u0, iv u1, iv u2, iv u3, iv u4, .unset, .unset] [(.int (240 : Int32)), (.int (u0 &&& (248 : Int32)))])) _
            refine XS.icmpYes X0.here hx rfl (pc0 := 56) (pc' := 65) rfl (hb hby d1_56) rfl (feq hc29).2 (by decide) (by decide) ?_
            show Steps p.tables e below (s₁.setTop (mkF m 65 #[iv u0, iv u1, iv u2, iv u3, iv u4, .unset, .unset] [])) _
            refine XS.iconst X0.here hx rfl (hb hby d1_65) ?_
            show Steps p.tables e below (s₁.setTop (mkF m 66 #[iv u0, iv u1, iv u2, iv u3, iv u4, .unset, .unset] [(.int (0 : Int32))])) _
            refine XS.istore X0.here hx rfl (hb hby d1_66) rfl (l' := #[iv u0, iv u1, iv u2, iv u3, iv u4, iv (0 : Int32), .unset]) rfl ?_
            show Steps p.tables e below (s₁.setTop (mkF m 68 #[iv u0, iv u1, iv u2, iv u3, iv u4, iv (0 : Int32), .unset] [])) _
            refine XS.iload X0.here hx rfl (hb hby d1_68) rfl ?_
            show Steps p.tables e below (s₁.setTop (mkF m 70 #[iv u0, iv u1, iv u2, iv u3, iv u4, iv (0 : Int32), .unset] [(.int (0 : Int32))])) _
            refine XS.ifYes X0.here hx rfl (pc0 := 70) (pc' := 80) rfl (hb hby d1_70) rfl ((if0 _ _).trans (teq (by decide : (0 : Int32) = (0 : Int32))).1) (by decide) (by decide) ?_
            show Steps p.tables e below (s₁.setTop (mkF m 80 #[iv u0, iv u1, iv u2, iv u3, iv u4, iv (0 : Int32), .unset] [])) _
            refine XS.iconst X0.here hx rfl (hb hby d1_80) ?_
            show Steps p.tables e below (s₁.setTop (mkF m 81 #[iv u0, iv u1, iv u2, iv u3, iv u4, iv (0 : Int32), .unset] [(.int (0 : Int32))])) _
            exact retI X0 hx Bd.returns (hb hby d1_81) hr
          · show QEx Z u0 u1 u2 u3 u4 h0 n0 _ s₁.heap _
            rw [e0]
            exact ⟨(by unfold own_ex; rw [if_neg hc2, if_neg hc4, if_neg hc13, if_neg hc29]), N0, rfl⟩
def own_sl1 (y0 : Int32) : Int32 := if (own_L (y0 &&& (255 : Int32))) = (0 : Int32) then (0 : Int32) else (if (own_L (y0 &&& (255 : Int32))) = (2 : Int32) then (0 : Int32) else (if (own_L (y0 &&& (255 : Int32))) = (3 : Int32) then (0 : Int32) else (0 : Int32)))
theorem d2_0 : decode prog_28_method_3_code 0 = .ok (.aload_n 0, 1) := by decide +kernel
theorem d2_1 : decode prog_28_method_3_code 1 = .ok (.iload_n 1, 1) := by decide +kernel
theorem d2_2 : decode prog_28_method_3_code 2 = .ok (.baload, 1) := by decide +kernel
theorem d2_3 : decode prog_28_method_3_code 3 = .ok (.sipush 255, 3) := by decide +kernel
theorem d2_6 : decode prog_28_method_3_code 6 = .ok (.iand, 1) := by decide +kernel
theorem d2_7 : decode prog_28_method_3_code 7 = .ok (.istore_n 2, 1) := by decide +kernel
theorem d2_8 : decode prog_28_method_3_code 8 = .ok (.getstatic 23, 3) := by decide +kernel
theorem d2_11 : decode prog_28_method_3_code 11 = .ok (.iload_n 2, 1) := by decide +kernel
theorem d2_12 : decode prog_28_method_3_code 12 = .ok (.iaload, 1) := by decide +kernel
theorem d2_13 : decode prog_28_method_3_code 13 = .ok (.istore_n 3, 1) := by decide +kernel
theorem d2_14 : decode prog_28_method_3_code 14 = .ok (.iload_n 3, 1) := by decide +kernel
theorem d2_15 : decode prog_28_method_3_code 15 = .ok (.ifCond .eq 11, 3) := by decide +kernel
theorem d2_26 : decode prog_28_method_3_code 26 = .ok (.iconst 0, 1) := by decide +kernel
theorem d2_27 : decode prog_28_method_3_code 27 = .ok (.ireturn, 1) := by decide +kernel
theorem d2_18 : decode prog_28_method_3_code 18 = .ok (.iload_n 1, 1) := by decide +kernel
theorem d2_19 : decode prog_28_method_3_code 19 = .ok (.iload_n 3, 1) := by decide +kernel
theorem d2_20 : decode prog_28_method_3_code 20 = .ok (.iadd, 1) := by decide +kernel
theorem d2_21 : decode prog_28_method_3_code 21 = .ok (.aload_n 0, 1) := by decide +kernel
theorem d2_22 : decode prog_28_method_3_code 22 = .ok (.arraylength, 1) := by decide +kernel
theorem d2_23 : decode prog_28_method_3_code 23 = .ok (.if_icmp .le 5, 3) := by decide +kernel
theorem pn_1 : plainName "com/example/rivanna/rivanna/core/json/Utf8" = true := by first | (simp [plainName, overriddenIn]; done) | decide +kernel
def QSL01 (Z : State) (a0_ : Addr) (kk : ClassId) (y0 : Int32) (la : Addr) (lc : Cell) (sa : Addr) (sc : Cell) (ta : Addr) (tc : Cell) (h0 : Heap) (n0 : Nat) (v : Option Value) (h : Heap) (L : List Loc) : Prop := v = some (.int (own_sl1 y0)) ∧ Fr n0 L ∧ h = h0
theorem ef_rmSL01 (m : MethodId) (a0_ : Addr) : entryFrame m #[(.ref a0_), (.int (0 : Int32))] 6 = mkF m 0 #[rv a0_, iv (0 : Int32), .unset, .unset, .unset, .unset] [] := by first | (simp [entryFrame, mkF, argsToLocals, Value.category]; done) | rfl
set_option maxRecDepth 65536 in
set_option maxHeartbeats 40000000 in
theorem rmSL01 (l : Launch) (Z : State) (a0 : Array Value) (hw : ∀ d ∈ tables_1, d.before a0 Z = true) (ws : List Jvm.Cond) (a0_ : Addr) (kk : ClassId) (y0 : Int32) (la : Addr) (lc : Cell) (sa : Addr) (sc : Cell) (ta : Addr) (tc : Cell) (h0 : Heap) (n0 : Nat) (Z0 : n0 ≤ h0.size) (V0 : Arv Z h0 a0_ kk .byte (1 : Int32) [(.int y0)] (.int (0 : Int32))) (hO : Old Z n0 h0) (hS1 : Sta Z Z.heap "com/example/rivanna/rivanna/core/json/Utf8" "LENGTH" "[I" (.ref la)) (hT1 : own_Tab Z la lc own_L) (hS2 : Sta Z Z.heap "com/example/rivanna/rivanna/core/json/Utf8" "SECOND_LOW" "[I" (.ref sa)) (hT2 : own_Tab Z sa sc own_lo) (hS3 : Sta Z Z.heap "com/example/rivanna/rivanna/core/json/Utf8" "SECOND_HIGH" "[I" (.ref ta)) (hT3 : own_Tab Z ta tc own_hi) :
    MetFree l (⟨"com/example/rivanna/rivanna/core/json/Utf8", "sequenceLength", "([BI)I"⟩ : MethodName) (head1 (Jvm.Cond.code (⟨"com/example/rivanna/rivanna/core/json/Utf8", "sequenceLength", "([BI)I"⟩ : MethodName) prog_28_method_3_code 6 (some .int) :: ws) ({ frames := 0, cells := 0, slots := 0, locals := 0 } : Room)) (fun a U => a = #[(.ref a0_), (.int (0 : Int32))] ∧ Z.Warmed39 U.vm ∧ U.heap = h0) (fun _ _ _ _ _ => True) (fun _ U o U' => ∃ v L, o = .returned v ∧ QSL01 Z a0_ kk y0 la lc sa sc ta tc h0 n0 v U'.heap L ∧ FrameEnd U o U' L ({ frames := 0, cells := 0, slots := 0, locals := 0 } : Room).cells ({ frames := 0, cells := 0, slots := 0, locals := 0 } : Room).slots) := by
  refine MetFree.of_bodySF (plainFor_of_name pn_1) hisR ?_
  intro p e s m args below meth c s₁ Bd hml0 hP hK
  obtain ⟨rfl, hZ, hh⟩ := hP
  have hx := Bd.exec
  have hby := Bd.bytes
  have hml : c.maxLocals = 6 := hml0
  have hown : s.vm.findClass "com/example/rivanna/rivanna/core/json/Utf8" = some m.cls := findClass_of_methodNamed Bd.named
  have hnm := (name_of_methodNamed Bd.named Bd.method).1
  have X0 : Stand p l e ({ frames := 0, cells := 0, slots := 0, locals := 0 } : Room) s m #[(.ref a0_), (.int (0 : Int32))] below meth c s₁ [] 0 0 := Stand.of_body Bd
  have e0 : s₁.heap = h0 := by rw [← hh, Bd.state]; rfl
  have N0 := Fr.nil n0
  have S0 : ∀ t, Steps p.tables e below (s₁.setTop (mkF m 0 #[rv a0_, iv (0 : Int32), .unset, .unset, .unset, .unset] [])) t → Steps p.tables e below (s₁.setTop (entryFrame m #[(.ref a0_), (.int (0 : Int32))] 6)) t := fun t k => castTop (ef_rmSL01 m a0_) k
  obtain ⟨cl1, Ar1, qa1, Sa1, Na1, Ha1, Ga1⟩ := id V0
  have hin1 : ¬ ((0 : Int32) < 0 ∨ cl1.slots.size ≤ ((0 : Int32)).toNatClampNeg) := inb_of Sa1 ⟨by decide, by decide⟩
  obtain ⟨T2, X2, e2, st2⟩ := getS2 X0 hx hZ hown (host := "") (Or.inl (hw _ (List.mem_of_getElem? (i := 9) rfl))) Via.refl e0 (hS1.ext hO.2) (g := (mkF m 8 #[rv a0_, iv (0 : Int32), iv (y0 &&& (255 : Int32)), .unset, .unset, .unset] [])) rfl (hb hby d2_8)
  have hin3 : ¬ ((y0 &&& (255 : Int32)) < 0 ∨ lc.slots.size ≤ ((y0 &&& (255 : Int32))).toNatClampNeg) := inb_of hT1.2.1 (own_255 _)
  have S4 : ∀ t, Steps p.tables e below (T2.setTop (mkF m 14 #[rv a0_, iv (0 : Int32), iv (y0 &&& (255 : Int32)), iv (own_L (y0 &&& (255 : Int32))), .unset, .unset] [])) t → Steps p.tables e below (s₁.setTop (entryFrame m #[(.ref a0_), (.int (0 : Int32))] 6)) t := by
    intro t k
    refine S0 t ?_
    show Steps p.tables e below (s₁.setTop (mkF m 0 #[rv a0_, iv (0 : Int32), .unset, .unset, .unset, .unset] [])) _
    refine XS.aloadN X0.here hx rfl (hb hby d2_0) rfl rfl ?_
    show Steps p.tables e below (s₁.setTop (mkF m 1 #[rv a0_, iv (0 : Int32), .unset, .unset, .unset, .unset] [(.ref a0_)])) _
    refine XS.iloadN X0.here hx rfl (hb hby d2_1) rfl ?_
    show Steps p.tables e below (s₁.setTop (mkF m 2 #[rv a0_, iv (0 : Int32), .unset, .unset, .unset, .unset] [(.int (0 : Int32)), (.ref a0_)])) _
    refine X0.baloadBytes hx (j := (0 : Int32)) (v := (.int y0)) (by rw [e0]; exact Ar1.1) (State.isArrayOf_alike hZ.alike Ar1.2.1) Ar1.2.2 hin1 (Has.at Ha1 hin1 rfl) (g := (mkF m 2 #[rv a0_, iv (0 : Int32), .unset, .unset, .unset, .unset] [(.int (0 : Int32)), (.ref a0_)])) rfl rfl (hb hby d2_2) _ ?_
    show Steps p.tables e below (s₁.setTop (mkF m 3 #[rv a0_, iv (0 : Int32), .unset, .unset, .unset, .unset] [(.int y0)])) _
    refine XS.sipush X0.here hx rfl (hb hby d2_3) ?_
    show Steps p.tables e below (s₁.setTop (mkF m 6 #[rv a0_, iv (0 : Int32), .unset, .unset, .unset, .unset] [(.int (255 : Int32)), (.int y0)])) _
    refine XS.iand X0.here hx rfl (hb hby d2_6) rfl ?_
    show Steps p.tables e below (s₁.setTop (mkF m 7 #[rv a0_, iv (0 : Int32), .unset, .unset, .unset, .unset] [(.int (y0 &&& (255 : Int32)))])) _
    refine XS.istoreN X0.here hx rfl (hb hby d2_7) rfl (l' := #[rv a0_, iv (0 : Int32), iv (y0 &&& (255 : Int32)), .unset, .unset, .unset]) rfl ?_
    show Steps p.tables e below (s₁.setTop (mkF m 8 #[rv a0_, iv (0 : Int32), iv (y0 &&& (255 : Int32)), .unset, .unset, .unset] [])) _
    refine st2 _ ?_
    show Steps p.tables e below (T2.setTop (mkF m 11 #[rv a0_, iv (0 : Int32), iv (y0 &&& (255 : Int32)), .unset, .unset, .unset] [(.ref la)])) _
    refine XS.iloadN X2.here hx rfl (hb hby d2_11) rfl ?_
    show Steps p.tables e below (T2.setTop (mkF m 12 #[rv a0_, iv (0 : Int32), iv (y0 &&& (255 : Int32)), .unset, .unset, .unset] [(.int (y0 &&& (255 : Int32))), (.ref la)])) _
    refine X2.iaload hx (j := (y0 &&& (255 : Int32))) (v := (.int (own_L (y0 &&& (255 : Int32))))) (by rw [e2]; exact (hT1.1.ext hO.2).1) (State.isArrayOf_alike hZ.alike hT1.1.2.1) hT1.1.2.2 hin3 (hT1.2.2 _ hin3) (g := (mkF m 12 #[rv a0_, iv (0 : Int32), iv (y0 &&& (255 : Int32)), .unset, .unset, .unset] [(.int (y0 &&& (255 : Int32))), (.ref la)])) rfl rfl (hb hby d2_12) _ ?_
    show Steps p.tables e below (T2.setTop (mkF m 13 #[rv a0_, iv (0 : Int32), iv (y0 &&& (255 : Int32)), .unset, .unset, .unset] [(.int (own_L (y0 &&& (255 : Int32))))])) _
    refine XS.istoreN X2.here hx rfl (hb hby d2_13) rfl (l' := #[rv a0_, iv (0 : Int32), iv (y0 &&& (255 : Int32)), iv (own_L (y0 &&& (255 : Int32))), .unset, .unset]) rfl ?_
    exact k
  by_cases hL5 : (own_L (y0 &&& (255 : Int32))) = (0 : Int32)
  · skip
    rw [hL5] at S4
    obtain ⟨fs, hr, hrun, hended, hW, hsame⟩ := X2.leave (v := some (.int (0 : Int32))) (fun h => by rw [Bd.returns] at h; cases h)
    refine ⟨_, _, S4 _ ?_, hrun, hended, _, _, rfl, ?_, ⟨_, rfl⟩, hW, hsame.mono (by decide) (by decide)⟩
    · skip
      show Steps p.tables e below (T2.setTop (mkF m 14 #[rv a0_, iv (0 : Int32), iv (y0 &&& (255 : Int32)), iv (0 : Int32), .unset, .unset] [])) _
      refine XS.iloadN X2.here hx rfl (hb hby d2_14) rfl ?_
      show Steps p.tables e below (T2.setTop (mkF m 15 #[rv a0_, iv (0 : Int32), iv (y0 &&& (255 : Int32)), iv (0 : Int32), .unset, .unset] [(.int (0 : Int32))])) _
      refine XS.ifYes X2.here hx rfl (pc0 := 15) (pc' := 26) rfl (hb hby d2_15) rfl ((if0 _ _).trans (teq (by decide : (0 : Int32) = (0 : Int32))).1) (by decide) (by decide) ?_
      show Steps p.tables e below (T2.setTop (mkF m 26 #[rv a0_, iv (0 : Int32), iv (y0 &&& (255 : Int32)), iv (0 : Int32), .unset, .unset] [])) _
      refine XS.iconst X2.here hx rfl (hb hby d2_26) ?_
      show Steps p.tables e below (T2.setTop (mkF m 27 #[rv a0_, iv (0 : Int32), iv (y0 &&& (255 : Int32)), iv (0 : Int32), .unset, .unset] [(.int (0 : Int32))])) _
      exact retI X2 hx Bd.returns (hb hby d2_27) hr
    · show QSL01 Z a0_ kk y0 la lc sa sc ta tc h0 n0 _ T2.heap _
      rw [e2]
      exact ⟨(by unfold own_sl1; rw [if_pos hL5]), N0, rfl⟩
  by_cases hL6 : (own_L (y0 &&& (255 : Int32))) = (2 : Int32)
  · skip
    rw [hL6] at S4
    obtain ⟨cl7, Ar7, qa7, Sa7, Na7, Ha7, Ga7⟩ := id V0
    obtain ⟨fs, hr, hrun, hended, hW, hsame⟩ := X2.leave (v := some (.int (0 : Int32))) (fun h => by rw [Bd.returns] at h; cases h)
    refine ⟨_, _, S4 _ ?_, hrun, hended, _, _, rfl, ?_, ⟨_, rfl⟩, hW, hsame.mono (by decide) (by decide)⟩
    · skip
      show Steps p.tables e below (T2.setTop (mkF m 14 #[rv a0_, iv (0 : Int32), iv (y0 &&& (255 : Int32)), iv (2 : Int32), .unset, .unset] [])) _
      refine XS.iloadN X2.here hx rfl (hb hby d2_14) rfl ?_
      show Steps p.tables e below (T2.setTop (mkF m 15 #[rv a0_, iv (0 : Int32), iv (y0 &&& (255 : Int32)), iv (2 : Int32), .unset, .unset] [(.int (2 : Int32))])) _
      refine XS.ifNo X2.here hx rfl (hb hby d2_15) rfl ((if0 _ _).trans (feq (by decide : ¬ ((2 : Int32) = (0 : Int32)))).1) ?_
      show Steps p.tables e below (T2.setTop (mkF m 18 #[rv a0_, iv (0 : Int32), iv (y0 &&& (255 : Int32)), iv (2 : Int32), .unset, .unset] [])) _
      refine XS.iloadN X2.here hx rfl (hb hby d2_18) rfl ?_
      show Steps p.tables e below (T2.setTop (mkF m 19 #[rv a0_, iv (0 : Int32), iv (y0 &&& (255 : Int32)), iv (2 : Int32), .unset, .unset] [(.int (0 : Int32))])) _
      refine XS.iloadN X2.here hx rfl (hb hby d2_19) rfl ?_
      show Steps p.tables e below (T2.setTop (mkF m 20 #[rv a0_, iv (0 : Int32), iv (y0 &&& (255 : Int32)), iv (2 : Int32), .unset, .unset] [(.int (2 : Int32)), (.int (0 : Int32))])) _
      refine XS.iadd X2.here hx rfl (hb hby d2_20) rfl ?_
      show Steps p.tables e below (T2.setTop (mkF m 21 #[rv a0_, iv (0 : Int32), iv (y0 &&& (255 : Int32)), iv (2 : Int32), .unset, .unset] [(.int (2 : Int32))])) _
      refine XS.aloadN X2.here hx rfl (hb hby d2_21) rfl rfl ?_
      show Steps p.tables e below (T2.setTop (mkF m 22 #[rv a0_, iv (0 : Int32), iv (y0 &&& (255 : Int32)), iv (2 : Int32), .unset, .unset] [(.ref a0_), (.int (2 : Int32))])) _
      refine X2.arraylength hx (by rw [e2]; exact Ar7.1) (State.isArrayOf_alike hZ.alike Ar7.2.1) (g := (mkF m 22 #[rv a0_, iv (0 : Int32), iv (y0 &&& (255 : Int32)), iv (2 : Int32), .unset, .unset] [(.ref a0_), (.int (2 : Int32))])) rfl rfl (hb hby d2_22) _ ?_
      rw [len_of Sa7 Na7]
      show Steps p.tables e below (T2.setTop (mkF m 23 #[rv a0_, iv (0 : Int32), iv (y0 &&& (255 : Int32)), iv (2 : Int32), .unset, .unset] [(.int (1 : Int32)), (.int (2 : Int32))])) _
      refine XS.icmpNo X2.here hx rfl (hb hby d2_23) rfl (tlt (by decide : (1 : Int32) < (2 : Int32))).2.2.2 ?_
      show Steps p.tables e below (T2.setTop (mkF m 26 #[rv a0_, iv (0 : Int32), iv (y0 &&& (255 : Int32)), iv (2 : Int32), .unset, .unset] [])) _
      refine XS.iconst X2.here hx rfl (hb hby d2_26) ?_
      show Steps p.tables e below (T2.setTop (mkF m 27 #[rv a0_, iv (0 : Int32), iv (y0 &&& (255 : Int32)), iv (2 : Int32), .unset, .unset] [(.int (0 : Int32))])) _
      exact retI X2 hx Bd.returns (hb hby d2_27) hr
    · show QSL01 Z a0_ kk y0 la lc sa sc ta tc h0 n0 _ T2.heap _
      rw [e2]
      exact ⟨(by unfold own_sl1; rw [if_neg hL5, if_pos hL6]), N0, rfl⟩
  by_cases hL8 : (own_L (y0 &&& (255 : Int32))) = (3 : Int32)
  · skip
    rw [hL8] at S4
    obtain ⟨cl9, Ar9, qa9, Sa9, Na9, Ha9, Ga9⟩ := id V0
    obtain ⟨fs, hr, hrun, hended, hW, hsame⟩ := X2.leave (v := some (.int (0 : Int32))) (fun h => by rw [Bd.returns] at h; cases h)
    refine ⟨_, _, S4 _ ?_, hrun, hended, _, _, rfl, ?_, ⟨_, rfl⟩, hW, hsame.mono (by decide) (by decide)⟩
    · skip
      show Steps p.tables e below (T2.setTop (mkF m 14 #[rv a0_, iv (0 : Int32), iv (y0 &&& (255 : Int32)), iv (3 : Int32), .unset, .unset] [])) _
      refine XS.iloadN X2.here hx rfl (hb hby d2_14) rfl ?_
      show Steps p.tables e below (T2.setTop (mkF m 15 #[rv a0_, iv (0 : Int32), iv (y0 &&& (255 : Int32)), iv (3 : Int32), .unset, .unset] [(.int (3 : Int32))])) _
      refine XS.ifNo X2.here hx rfl (hb hby d2_15) rfl ((if0 _ _).trans (feq (by decide : ¬ ((3 : Int32) = (0 : Int32)))).1) ?_
      show Steps p.tables e below (T2.setTop (mkF m 18 #[rv a0_, iv (0 : Int32), iv (y0 &&& (255 : Int32)), iv (3 : Int32), .unset, .unset] [])) _
      refine XS.iloadN X2.here hx rfl (hb hby d2_18) rfl ?_
      show Steps p.tables e below (T2.setTop (mkF m 19 #[rv a0_, iv (0 : Int32), iv (y0 &&& (255 : Int32)), iv (3 : Int32), .unset, .unset] [(.int (0 : Int32))])) _
      refine XS.iloadN X2.here hx rfl (hb hby d2_19) rfl ?_
      show Steps p.tables e below (T2.setTop (mkF m 20 #[rv a0_, iv (0 : Int32), iv (y0 &&& (255 : Int32)), iv (3 : Int32), .unset, .unset] [(.int (3 : Int32)), (.int (0 : Int32))])) _
      refine XS.iadd X2.here hx rfl (hb hby d2_20) rfl ?_
      show Steps p.tables e below (T2.setTop (mkF m 21 #[rv a0_, iv (0 : Int32), iv (y0 &&& (255 : Int32)), iv (3 : Int32), .unset, .unset] [(.int (3 : Int32))])) _
      refine XS.aloadN X2.here hx rfl (hb hby d2_21) rfl rfl ?_
      show Steps p.tables e below (T2.setTop (mkF m 22 #[rv a0_, iv (0 : Int32), iv (y0 &&& (255 : Int32)), iv (3 : Int32), .unset, .unset] [(.ref a0_), (.int (3 : Int32))])) _
      refine X2.arraylength hx (by rw [e2]; exact Ar9.1) (State.isArrayOf_alike hZ.alike Ar9.2.1) (g := (mkF m 22 #[rv a0_, iv (0 : Int32), iv (y0 &&& (255 : Int32)), iv (3 : Int32), .unset, .unset] [(.ref a0_), (.int (3 : Int32))])) rfl rfl (hb hby d2_22) _ ?_
      rw [len_of Sa9 Na9]
      show Steps p.tables e below (T2.setTop (mkF m 23 #[rv a0_, iv (0 : Int32), iv (y0 &&& (255 : Int32)), iv (3 : Int32), .unset, .unset] [(.int (1 : Int32)), (.int (3 : Int32))])) _
      refine XS.icmpNo X2.here hx rfl (hb hby d2_23) rfl (tlt (by decide : (1 : Int32) < (3 : Int32))).2.2.2 ?_
      show Steps p.tables e below (T2.setTop (mkF m 26 #[rv a0_, iv (0 : Int32), iv (y0 &&& (255 : Int32)), iv (3 : Int32), .unset, .unset] [])) _
      refine XS.iconst X2.here hx rfl (hb hby d2_26) ?_
      show Steps p.tables e below (T2.setTop (mkF m 27 #[rv a0_, iv (0 : Int32), iv (y0 &&& (255 : Int32)), iv (3 : Int32), .unset, .unset] [(.int (0 : Int32))])) _
      exact retI X2 hx Bd.returns (hb hby d2_27) hr
    · show QSL01 Z a0_ kk y0 la lc sa sc ta tc h0 n0 _ T2.heap _
      rw [e2]
      exact ⟨(by unfold own_sl1; rw [if_neg hL5, if_neg hL6, if_pos hL8]), N0, rfl⟩
  have hL10 := own_L4 _ hL5 hL6 hL8
  rw [hL10] at S4
  obtain ⟨cl11, Ar11, qa11, Sa11, Na11, Ha11, Ga11⟩ := id V0
  obtain ⟨fs, hr, hrun, hended, hW, hsame⟩ := X2.leave (v := some (.int (0 : Int32))) (fun h => by rw [Bd.returns] at h; cases h)
  refine ⟨_, _, S4 _ ?_, hrun, hended, _, _, rfl, ?_, ⟨_, rfl⟩, hW, hsame.mono (by decide) (by decide)⟩
  · skip
    show Steps p.tables e below (T2.setTop (mkF m 14 #[rv a0_, iv (0 : Int32), iv (y0 &&& (255 : Int32)), iv (4 : Int32), .unset, .unset] [])) _
    refine XS.iloadN X2.here hx rfl (hb hby d2_14) rfl ?_
    show Steps p.tables e below (T2.setTop (mkF m 15 #[rv a0_, iv (0 : Int32), iv (y0 &&& (255 : Int32)), iv (4 : Int32), .unset, .unset] [(.int (4 : Int32))])) _
    refine XS.ifNo X2.here hx rfl (hb hby d2_15) rfl ((if0 _ _).trans (feq (by decide : ¬ ((4 : Int32) = (0 : Int32)))).1) ?_
    show Steps p.tables e below (T2.setTop (mkF m 18 #[rv a0_, iv (0 : Int32), iv (y0 &&& (255 : Int32)), iv (4 : Int32), .unset, .unset] [])) _
    refine XS.iloadN X2.here hx rfl (hb hby d2_18) rfl ?_
    show Steps p.tables e below (T2.setTop (mkF m 19 #[rv a0_, iv (0 : Int32), iv (y0 &&& (255 : Int32)), iv (4 : Int32), .unset, .unset] [(.int (0 : Int32))])) _
    refine XS.iloadN X2.here hx rfl (hb hby d2_19) rfl ?_
    show Steps p.tables e below (T2.setTop (mkF m 20 #[rv a0_, iv (0 : Int32), iv (y0 &&& (255 : Int32)), iv (4 : Int32), .unset, .unset] [(.int (4 : Int32)), (.int (0 : Int32))])) _
    refine XS.iadd X2.here hx rfl (hb hby d2_20) rfl ?_
    show Steps p.tables e below (T2.setTop (mkF m 21 #[rv a0_, iv (0 : Int32), iv (y0 &&& (255 : Int32)), iv (4 : Int32), .unset, .unset] [(.int (4 : Int32))])) _
    refine XS.aloadN X2.here hx rfl (hb hby d2_21) rfl rfl ?_
    show Steps p.tables e below (T2.setTop (mkF m 22 #[rv a0_, iv (0 : Int32), iv (y0 &&& (255 : Int32)), iv (4 : Int32), .unset, .unset] [(.ref a0_), (.int (4 : Int32))])) _
    refine X2.arraylength hx (by rw [e2]; exact Ar11.1) (State.isArrayOf_alike hZ.alike Ar11.2.1) (g := (mkF m 22 #[rv a0_, iv (0 : Int32), iv (y0 &&& (255 : Int32)), iv (4 : Int32), .unset, .unset] [(.ref a0_), (.int (4 : Int32))])) rfl rfl (hb hby d2_22) _ ?_
    rw [len_of Sa11 Na11]
    show Steps p.tables e below (T2.setTop (mkF m 23 #[rv a0_, iv (0 : Int32), iv (y0 &&& (255 : Int32)), iv (4 : Int32), .unset, .unset] [(.int (1 : Int32)), (.int (4 : Int32))])) _
    refine XS.icmpNo X2.here hx rfl (hb hby d2_23) rfl (tlt (by decide : (1 : Int32) < (4 : Int32))).2.2.2 ?_
    show Steps p.tables e below (T2.setTop (mkF m 26 #[rv a0_, iv (0 : Int32), iv (y0 &&& (255 : Int32)), iv (4 : Int32), .unset, .unset] [])) _
    refine XS.iconst X2.here hx rfl (hb hby d2_26) ?_
    show Steps p.tables e below (T2.setTop (mkF m 27 #[rv a0_, iv (0 : Int32), iv (y0 &&& (255 : Int32)), iv (4 : Int32), .unset, .unset] [(.int (0 : Int32))])) _
    exact retI X2 hx Bd.returns (hb hby d2_27) hr
  · show QSL01 Z a0_ kk y0 la lc sa sc ta tc h0 n0 _ T2.heap _
    rw [e2]
    exact ⟨(by unfold own_sl1; rw [if_neg hL5, if_neg hL6, if_neg hL8]), N0, rfl⟩
def own_sl2 (y0 : Int32) (y1 : Int32) : Int32 := if (own_L (y0 &&& (255 : Int32))) = (0 : Int32) then (0 : Int32) else (if (own_L (y0 &&& (255 : Int32))) = (2 : Int32) then (if (y1 &&& (255 : Int32)) < (own_lo (y0 &&& (255 : Int32))) then (0 : Int32) else (if (own_hi (y0 &&& (255 : Int32))) < (y1 &&& (255 : Int32)) then (0 : Int32) else (2 : Int32))) else (if (own_L (y0 &&& (255 : Int32))) = (3 : Int32) then (0 : Int32) else (0 : Int32)))
theorem d2_28 : decode prog_28_method_3_code 28 = .ok (.aload_n 0, 1) := by decide +kernel
theorem d2_29 : decode prog_28_method_3_code 29 = .ok (.iload_n 1, 1) := by decide +kernel
theorem d2_30 : decode prog_28_method_3_code 30 = .ok (.iconst 1, 1) := by decide +kernel
theorem d2_31 : decode prog_28_method_3_code 31 = .ok (.iadd, 1) := by decide +kernel
theorem d2_32 : decode prog_28_method_3_code 32 = .ok (.baload, 1) := by decide +kernel
theorem d2_33 : decode prog_28_method_3_code 33 = .ok (.sipush 255, 3) := by decide +kernel
theorem d2_36 : decode prog_28_method_3_code 36 = .ok (.iand, 1) := by decide +kernel
theorem d2_37 : decode prog_28_method_3_code 37 = .ok (.istore 4, 2) := by decide +kernel
theorem d2_39 : decode prog_28_method_3_code 39 = .ok (.iload 4, 2) := by decide +kernel
theorem d2_41 : decode prog_28_method_3_code 41 = .ok (.getstatic 27, 3) := by decide +kernel
theorem d2_44 : decode prog_28_method_3_code 44 = .ok (.iload_n 2, 1) := by decide +kernel
theorem d2_45 : decode prog_28_method_3_code 45 = .ok (.iaload, 1) := by decide +kernel
theorem d2_46 : decode prog_28_method_3_code 46 = .ok (.if_icmp .lt 13, 3) := by decide +kernel
theorem d2_59 : decode prog_28_method_3_code 59 = .ok (.iconst 0, 1) := by decide +kernel
theorem d2_60 : decode prog_28_method_3_code 60 = .ok (.ireturn, 1) := by decide +kernel
theorem d2_49 : decode prog_28_method_3_code 49 = .ok (.iload 4, 2) := by decide +kernel
theorem d2_51 : decode prog_28_method_3_code 51 = .ok (.getstatic 30, 3) := by decide +kernel
theorem d2_54 : decode prog_28_method_3_code 54 = .ok (.iload_n 2, 1) := by decide +kernel
theorem d2_55 : decode prog_28_method_3_code 55 = .ok (.iaload, 1) := by decide +kernel
theorem d2_56 : decode prog_28_method_3_code 56 = .ok (.if_icmp .le 5, 3) := by decide +kernel
theorem d2_61 : decode prog_28_method_3_code 61 = .ok (.iload_n 1, 1) := by decide +kernel
theorem d2_62 : decode prog_28_method_3_code 62 = .ok (.iconst 2, 1) := by decide +kernel
theorem d2_63 : decode prog_28_method_3_code 63 = .ok (.iadd, 1) := by decide +kernel
theorem d2_64 : decode prog_28_method_3_code 64 = .ok (.istore 5, 2) := by decide +kernel
theorem d2_66 : decode prog_28_method_3_code 66 = .ok (.iload 5, 2) := by decide +kernel
theorem d2_68 : decode prog_28_method_3_code 68 = .ok (.iload_n 1, 1) := by decide +kernel
theorem d2_69 : decode prog_28_method_3_code 69 = .ok (.iload_n 3, 1) := by decide +kernel
theorem d2_70 : decode prog_28_method_3_code 70 = .ok (.iadd, 1) := by decide +kernel
theorem d2_71 : decode prog_28_method_3_code 71 = .ok (.if_icmp .ge 25, 3) := by decide +kernel
theorem d2_96 : decode prog_28_method_3_code 96 = .ok (.iload_n 3, 1) := by decide +kernel
theorem d2_97 : decode prog_28_method_3_code 97 = .ok (.ireturn, 1) := by decide +kernel
def QSL02 (Z : State) (a0_ : Addr) (kk : ClassId) (y0 : Int32) (y1 : Int32) (la : Addr) (lc : Cell) (sa : Addr) (sc : Cell) (ta : Addr) (tc : Cell) (h0 : Heap) (n0 : Nat) (v : Option Value) (h : Heap) (L : List Loc) : Prop := v = some (.int (own_sl2 y0 y1)) ∧ Fr n0 L ∧ h = h0
theorem ef_rmSL02 (m : MethodId) (a0_ : Addr) : entryFrame m #[(.ref a0_), (.int (0 : Int32))] 6 = mkF m 0 #[rv a0_, iv (0 : Int32), .unset, .unset, .unset, .unset] [] := by first | (simp [entryFrame, mkF, argsToLocals, Value.category]; done) | rfl
set_option maxRecDepth 65536 in
set_option maxHeartbeats 40000000 in
theorem rmSL02 (l : Launch) (Z : State) (a0 : Array Value) (hw : ∀ d ∈ tables_1, d.before a0 Z = true) (ws : List Jvm.Cond) (a0_ : Addr) (kk : ClassId) (y0 : Int32) (y1 : Int32) (la : Addr) (lc : Cell) (sa : Addr) (sc : Cell) (ta : Addr) (tc : Cell) (h0 : Heap) (n0 : Nat) (Z0 : n0 ≤ h0.size) (V0 : Arv Z h0 a0_ kk .byte (2 : Int32) [(.int y0), (.int y1)] (.int (0 : Int32))) (hO : Old Z n0 h0) (hS1 : Sta Z Z.heap "com/example/rivanna/rivanna/core/json/Utf8" "LENGTH" "[I" (.ref la)) (hT1 : own_Tab Z la lc own_L) (hS2 : Sta Z Z.heap "com/example/rivanna/rivanna/core/json/Utf8" "SECOND_LOW" "[I" (.ref sa)) (hT2 : own_Tab Z sa sc own_lo) (hS3 : Sta Z Z.heap "com/example/rivanna/rivanna/core/json/Utf8" "SECOND_HIGH" "[I" (.ref ta)) (hT3 : own_Tab Z ta tc own_hi) :
    MetFree l (⟨"com/example/rivanna/rivanna/core/json/Utf8", "sequenceLength", "([BI)I"⟩ : MethodName) (head1 (Jvm.Cond.code (⟨"com/example/rivanna/rivanna/core/json/Utf8", "sequenceLength", "([BI)I"⟩ : MethodName) prog_28_method_3_code 6 (some .int) :: ws) ({ frames := 0, cells := 0, slots := 0, locals := 0 } : Room)) (fun a U => a = #[(.ref a0_), (.int (0 : Int32))] ∧ Z.Warmed39 U.vm ∧ U.heap = h0) (fun _ _ _ _ _ => True) (fun _ U o U' => ∃ v L, o = .returned v ∧ QSL02 Z a0_ kk y0 y1 la lc sa sc ta tc h0 n0 v U'.heap L ∧ FrameEnd U o U' L ({ frames := 0, cells := 0, slots := 0, locals := 0 } : Room).cells ({ frames := 0, cells := 0, slots := 0, locals := 0 } : Room).slots) := by
  refine MetFree.of_bodySF (plainFor_of_name pn_1) hisR ?_
  intro p e s m args below meth c s₁ Bd hml0 hP hK
  obtain ⟨rfl, hZ, hh⟩ := hP
  have hx := Bd.exec
  have hby := Bd.bytes
  have hml : c.maxLocals = 6 := hml0
  have hown : s.vm.findClass "com/example/rivanna/rivanna/core/json/Utf8" = some m.cls := findClass_of_methodNamed Bd.named
  have hnm := (name_of_methodNamed Bd.named Bd.method).1
  have X0 : Stand p l e ({ frames := 0, cells := 0, slots := 0, locals := 0 } : Room) s m #[(.ref a0_), (.int (0 : Int32))] below meth c s₁ [] 0 0 := Stand.of_body Bd
  have e0 : s₁.heap = h0 := by rw [← hh, Bd.state]; rfl
  have N0 := Fr.nil n0
  have S0 : ∀ t, Steps p.tables e below (s₁.setTop (mkF m 0 #[rv a0_, iv (0 : Int32), .unset, .unset, .unset, .unset] [])) t → Steps p.tables e below (s₁.setTop (entryFrame m #[(.ref a0_), (.int (0 : Int32))] 6)) t := fun t k => castTop (ef_rmSL02 m a0_) k
  obtain ⟨cl1, Ar1, qa1, Sa1, Na1, Ha1, Ga1⟩ := id V0
  have hin1 : ¬ ((0 : Int32) < 0 ∨ cl1.slots.size ≤ ((0 : Int32)).toNatClampNeg) := inb_of Sa1 ⟨by decide, by decide⟩
  obtain ⟨T2, X2, e2, st2⟩ := getS2 X0 hx hZ hown (host := "") (Or.inl (hw _ (List.mem_of_getElem? (i := 9) rfl))) Via.refl e0 (hS1.ext hO.2) (g := (mkF m 8 #[rv a0_, iv (0 : Int32), iv (y0 &&& (255 : Int32)), .unset, .unset, .unset] [])) rfl (hb hby d2_8)
  have hin3 : ¬ ((y0 &&& (255 : Int32)) < 0 ∨ lc.slots.size ≤ ((y0 &&& (255 : Int32))).toNatClampNeg) := inb_of hT1.2.1 (own_255 _)
  have S4 : ∀ t, Steps p.tables e below (T2.setTop (mkF m 14 #[rv a0_, iv (0 : Int32), iv (y0 &&& (255 : Int32)), iv (own_L (y0 &&& (255 : Int32))), .unset, .unset] [])) t → Steps p.tables e below (s₁.setTop (entryFrame m #[(.ref a0_), (.int (0 : Int32))] 6)) t := by
    intro t k
    refine S0 t ?_
    show Steps p.tables e below (s₁.setTop (mkF m 0 #[rv a0_, iv (0 : Int32), .unset, .unset, .unset, .unset] [])) _
    refine XS.aloadN X0.here hx rfl (hb hby d2_0) rfl rfl ?_
    show Steps p.tables e below (s₁.setTop (mkF m 1 #[rv a0_, iv (0 : Int32), .unset, .unset, .unset, .unset] [(.ref a0_)])) _
    refine XS.iloadN X0.here hx rfl (hb hby d2_1) rfl ?_
    show Steps p.tables e below (s₁.setTop (mkF m 2 #[rv a0_, iv (0 : Int32), .unset, .unset, .unset, .unset] [(.int (0 : Int32)), (.ref a0_)])) _
    refine X0.baloadBytes hx (j := (0 : Int32)) (v := (.int y0)) (by rw [e0]; exact Ar1.1) (State.isArrayOf_alike hZ.alike Ar1.2.1) Ar1.2.2 hin1 (Has.at Ha1 hin1 rfl) (g := (mkF m 2 #[rv a0_, iv (0 : Int32), .unset, .unset, .unset, .unset] [(.int (0 : Int32)), (.ref a0_)])) rfl rfl (hb hby d2_2) _ ?_
    show Steps p.tables e below (s₁.setTop (mkF m 3 #[rv a0_, iv (0 : Int32), .unset, .unset, .unset, .unset] [(.int y0)])) _
    refine XS.sipush X0.here hx rfl (hb hby d2_3) ?_
    show Steps p.tables e below (s₁.setTop (mkF m 6 #[rv a0_, iv (0 : Int32), .unset, .unset, .unset, .unset] [(.int (255 : Int32)), (.int y0)])) _
    refine XS.iand X0.here hx rfl (hb hby d2_6) rfl ?_
    show Steps p.tables e below (s₁.setTop (mkF m 7 #[rv a0_, iv (0 : Int32), .unset, .unset, .unset, .unset] [(.int (y0 &&& (255 : Int32)))])) _
    refine XS.istoreN X0.here hx rfl (hb hby d2_7) rfl (l' := #[rv a0_, iv (0 : Int32), iv (y0 &&& (255 : Int32)), .unset, .unset, .unset]) rfl ?_
    show Steps p.tables e below (s₁.setTop (mkF m 8 #[rv a0_, iv (0 : Int32), iv (y0 &&& (255 : Int32)), .unset, .unset, .unset] [])) _
    refine st2 _ ?_
    show Steps p.tables e below (T2.setTop (mkF m 11 #[rv a0_, iv (0 : Int32), iv (y0 &&& (255 : Int32)), .unset, .unset, .unset] [(.ref la)])) _
    refine XS.iloadN X2.here hx rfl (hb hby d2_11) rfl ?_
    show Steps p.tables e below (T2.setTop (mkF m 12 #[rv a0_, iv (0 : Int32), iv (y0 &&& (255 : Int32)), .unset, .unset, .unset] [(.int (y0 &&& (255 : Int32))), (.ref la)])) _
    refine X2.iaload hx (j := (y0 &&& (255 : Int32))) (v := (.int (own_L (y0 &&& (255 : Int32))))) (by rw [e2]; exact (hT1.1.ext hO.2).1) (State.isArrayOf_alike hZ.alike hT1.1.2.1) hT1.1.2.2 hin3 (hT1.2.2 _ hin3) (g := (mkF m 12 #[rv a0_, iv (0 : Int32), iv (y0 &&& (255 : Int32)), .unset, .unset, .unset] [(.int (y0 &&& (255 : Int32))), (.ref la)])) rfl rfl (hb hby d2_12) _ ?_
    show Steps p.tables e below (T2.setTop (mkF m 13 #[rv a0_, iv (0 : Int32), iv (y0 &&& (255 : Int32)), .unset, .unset, .unset] [(.int (own_L (y0 &&& (255 : Int32))))])) _
    refine XS.istoreN X2.here hx rfl (hb hby d2_13) rfl (l' := #[rv a0_, iv (0 : Int32), iv (y0 &&& (255 : Int32)), iv (own_L (y0 &&& (255 : Int32))), .unset, .unset]) rfl ?_
    exact k
  by_cases hL5 : (own_L (y0 &&& (255 : Int32))) = (0 : Int32)
  · skip
    rw [hL5] at S4
    obtain ⟨fs, hr, hrun, hended, hW, hsame⟩ := X2.leave (v := some (.int (0 : Int32))) (fun h => by rw [Bd.returns] at h; cases h)
    refine ⟨_, _, S4 _ ?_, hrun, hended, _, _, rfl, ?_, ⟨_, rfl⟩, hW, hsame.mono (by decide) (by decide)⟩
    · skip
      show Steps p.tables e below (T2.setTop (mkF m 14 #[rv a0_, iv (0 : Int32), iv (y0 &&& (255 : Int32)), iv (0 : Int32), .unset, .unset] [])) _
      refine XS.iloadN X2.here hx rfl (hb hby d2_14) rfl ?_
      show Steps p.tables e below (T2.setTop (mkF m 15 #[rv a0_, iv (0 : Int32), iv (y0 &&& (255 : Int32)), iv (0 : Int32), .unset, .unset] [(.int (0 : Int32))])) _
      refine XS.ifYes X2.here hx rfl (pc0 := 15) (pc' := 26) rfl (hb hby d2_15) rfl ((if0 _ _).trans (teq (by decide : (0 : Int32) = (0 : Int32))).1) (by decide) (by decide) ?_
      show Steps p.tables e below (T2.setTop (mkF m 26 #[rv a0_, iv (0 : Int32), iv (y0 &&& (255 : Int32)), iv (0 : Int32), .unset, .unset] [])) _
      refine XS.iconst X2.here hx rfl (hb hby d2_26) ?_
      show Steps p.tables e below (T2.setTop (mkF m 27 #[rv a0_, iv (0 : Int32), iv (y0 &&& (255 : Int32)), iv (0 : Int32), .unset, .unset] [(.int (0 : Int32))])) _
      exact retI X2 hx Bd.returns (hb hby d2_27) hr
    · show QSL02 Z a0_ kk y0 y1 la lc sa sc ta tc h0 n0 _ T2.heap _
      rw [e2]
      exact ⟨(by unfold own_sl2; rw [if_pos hL5]), N0, rfl⟩
  by_cases hL6 : (own_L (y0 &&& (255 : Int32))) = (2 : Int32)
  · skip
    rw [hL6] at S4
    obtain ⟨cl7, Ar7, qa7, Sa7, Na7, Ha7, Ga7⟩ := id V0
    obtain ⟨cl8, Ar8, qa8, Sa8, Na8, Ha8, Ga8⟩ := id V0
    have hin8 : ¬ ((1 : Int32) < 0 ∨ cl8.slots.size ≤ ((1 : Int32)).toNatClampNeg) := inb_of Sa8 ⟨by decide, by decide⟩
    obtain ⟨T9, X9, e9, st9⟩ := getS2 X2 hx hZ hown (host := "") (Or.inl (hw _ (List.mem_of_getElem? (i := 14) rfl))) Via.refl e2 (hS2.ext hO.2) (g := (mkF m 41 #[rv a0_, iv (0 : Int32), iv (y0 &&& (255 : Int32)), iv (2 : Int32), iv (y1 &&& (255 : Int32)), .unset] [(.int (y1 &&& (255 : Int32)))])) rfl (hb hby d2_41)
    have hin10 : ¬ ((y0 &&& (255 : Int32)) < 0 ∨ sc.slots.size ≤ ((y0 &&& (255 : Int32))).toNatClampNeg) := inb_of hT2.2.1 (own_255 _)
    have S11 : ∀ t, Steps p.tables e below (T9.setTop (mkF m 46 #[rv a0_, iv (0 : Int32), iv (y0 &&& (255 : Int32)), iv (2 : Int32), iv (y1 &&& (255 : Int32)), .unset] [(.int (own_lo (y0 &&& (255 : Int32)))), (.int (y1 &&& (255 : Int32)))])) t → Steps p.tables e below (s₁.setTop (entryFrame m #[(.ref a0_), (.int (0 : Int32))] 6)) t := by
      intro t k
      refine S4 t ?_
      show Steps p.tables e below (T2.setTop (mkF m 14 #[rv a0_, iv (0 : Int32), iv (y0 &&& (255 : Int32)), iv (2 : Int32), .unset, .unset] [])) _
      refine XS.iloadN X2.here hx rfl (hb hby d2_14) rfl ?_
      show Steps p.tables e below (T2.setTop (mkF m 15 #[rv a0_, iv (0 : Int32), iv (y0 &&& (255 : Int32)), iv (2 : Int32), .unset, .unset] [(.int (2 : Int32))])) _
      refine XS.ifNo X2.here hx rfl (hb hby d2_15) rfl ((if0 _ _).trans (feq (by decide : ¬ ((2 : Int32) = (0 : Int32)))).1) ?_
      show Steps p.tables e below (T2.setTop (mkF m 18 #[rv a0_, iv (0 : Int32), iv (y0 &&& (255 : Int32)), iv (2 : Int32), .unset, .unset] [])) _
      refine XS.iloadN X2.here hx rfl (hb hby d2_18) rfl ?_
      show Steps p.tables e below (T2.setTop (mkF m 19 #[rv a0_, iv (0 : Int32), iv (y0 &&& (255 : Int32)), iv (2 : Int32), .unset, .unset] [(.int (0 : Int32))])) _
      refine XS.iloadN X2.here hx rfl (hb hby d2_19) rfl ?_
      show Steps p.tables e below (T2.setTop (mkF m 20 #[rv a0_, iv (0 : Int32), iv (y0 &&& (255 : Int32)), iv (2 : Int32), .unset, .unset] [(.int (2 : Int32)), (.int (0 : Int32))])) _
      refine XS.iadd X2.here hx rfl (hb hby d2_20) rfl ?_
      show Steps p.tables e below (T2.setTop (mkF m 21 #[rv a0_, iv (0 : Int32), iv (y0 &&& (255 : Int32)), iv (2 : Int32), .unset, .unset] [(.int (2 : Int32))])) _
      refine XS.aloadN X2.here hx rfl (hb hby d2_21) rfl rfl ?_
      show Steps p.tables e below (T2.setTop (mkF m 22 #[rv a0_, iv (0 : Int32), iv (y0 &&& (255 : Int32)), iv (2 : Int32), .unset, .unset] [(.ref a0_), (.int (2 : Int32))])) _
      refine X2.arraylength hx (by rw [e2]; exact Ar7.1) (State.isArrayOf_alike hZ.alike Ar7.2.1) (g := (mkF m 22 #[rv a0_, iv (0 : Int32), iv (y0 &&& (255 : Int32)), iv (2 : Int32), .unset, .unset] [(.ref a0_), (.int (2 : Int32))])) rfl rfl (hb hby d2_22) _ ?_
      rw [len_of Sa7 Na7]
      show Steps p.tables e below (T2.setTop (mkF m 23 #[rv a0_, iv (0 : Int32), iv (y0 &&& (255 : Int32)), iv (2 : Int32), .unset, .unset] [(.int (2 : Int32)), (.int (2 : Int32))])) _
      refine XS.icmpYes X2.here hx rfl (pc0 := 23) (pc' := 28) rfl (hb hby d2_23) rfl (flt (by decide : ¬ ((2 : Int32) < (2 : Int32)))).2.2.2 (by decide) (by decide) ?_
      show Steps p.tables e below (T2.setTop (mkF m 28 #[rv a0_, iv (0 : Int32), iv (y0 &&& (255 : Int32)), iv (2 : Int32), .unset, .unset] [])) _
      refine XS.aloadN X2.here hx rfl (hb hby d2_28) rfl rfl ?_
      show Steps p.tables e below (T2.setTop (mkF m 29 #[rv a0_, iv (0 : Int32), iv (y0 &&& (255 : Int32)), iv (2 : Int32), .unset, .unset] [(.ref a0_)])) _
      refine XS.iloadN X2.here hx rfl (hb hby d2_29) rfl ?_
      show Steps p.tables e below (T2.setTop (mkF m 30 #[rv a0_, iv (0 : Int32), iv (y0 &&& (255 : Int32)), iv (2 : Int32), .unset, .unset] [(.int (0 : Int32)), (.ref a0_)])) _
      refine XS.iconst X2.here hx rfl (hb hby d2_30) ?_
      show Steps p.tables e below (T2.setTop (mkF m 31 #[rv a0_, iv (0 : Int32), iv (y0 &&& (255 : Int32)), iv (2 : Int32), .unset, .unset] [(.int (1 : Int32)), (.int (0 : Int32)), (.ref a0_)])) _
      refine XS.iadd X2.here hx rfl (hb hby d2_31) rfl ?_
      show Steps p.tables e below (T2.setTop (mkF m 32 #[rv a0_, iv (0 : Int32), iv (y0 &&& (255 : Int32)), iv (2 : Int32), .unset, .unset] [(.int (1 : Int32)), (.ref a0_)])) _
      refine X2.baloadBytes hx (j := (1 : Int32)) (v := (.int y1)) (by rw [e2]; exact Ar8.1) (State.isArrayOf_alike hZ.alike Ar8.2.1) Ar8.2.2 hin8 (Has.at Ha8 hin8 rfl) (g := (mkF m 32 #[rv a0_, iv (0 : Int32), iv (y0 &&& (255 : Int32)), iv (2 : Int32), .unset, .unset] [(.int (1 : Int32)), (.ref a0_)])) rfl rfl (hb hby d2_32) _ ?_
      show Steps p.tables e below (T2.setTop (mkF m 33 #[rv a0_, iv (0 : Int32), iv (y0 &&& (255 : Int32)), iv (2 : Int32), .unset, .unset] [(.int y1)])) _
      refine XS.sipush X2.here hx rfl (hb hby d2_33) ?_
      show Steps p.tables e below (T2.setTop (mkF m 36 #[rv a0_, iv (0 : Int32), iv (y0 &&& (255 : Int32)), iv (2 : Int32), .unset, .unset] [(.int (255 : Int32)), (.int y1)])) _
      refine XS.iand X2.here hx rfl (hb hby d2_36) rfl ?_
      show Steps p.tables e below (T2.setTop (mkF m 37 #[rv a0_, iv (0 : Int32), iv (y0 &&& (255 : Int32)), iv (2 : Int32), .unset, .unset] [(.int (y1 &&& (255 : Int32)))])) _
      refine XS.istore X2.here hx rfl (hb hby d2_37) rfl (l' := #[rv a0_, iv (0 : Int32), iv (y0 &&& (255 : Int32)), iv (2 : Int32), iv (y1 &&& (255 : Int32)), .unset]) rfl ?_
      show Steps p.tables e below (T2.setTop (mkF m 39 #[rv a0_, iv (0 : Int32), iv (y0 &&& (255 : Int32)), iv (2 : Int32), iv (y1 &&& (255 : Int32)), .unset] [])) _
      refine XS.iload X2.here hx rfl (hb hby d2_39) rfl ?_
      show Steps p.tables e below (T2.setTop (mkF m 41 #[rv a0_, iv (0 : Int32), iv (y0 &&& (255 : Int32)), iv (2 : Int32), iv (y1 &&& (255 : Int32)), .unset] [(.int (y1 &&& (255 : Int32)))])) _
      refine st9 _ ?_
      show Steps p.tables e below (T9.setTop (mkF m 44 #[rv a0_, iv (0 : Int32), iv (y0 &&& (255 : Int32)), iv (2 : Int32), iv (y1 &&& (255 : Int32)), .unset] [(.ref sa), (.int (y1 &&& (255 : Int32)))])) _
      refine XS.iloadN X9.here hx rfl (hb hby d2_44) rfl ?_
      show Steps p.tables e below (T9.setTop (mkF m 45 #[rv a0_, iv (0 : Int32), iv (y0 &&& (255 : Int32)), iv (2 : Int32), iv (y1 &&& (255 : Int32)), .unset] [(.int (y0 &&& (255 : Int32))), (.ref sa), (.int (y1 &&& (255 : Int32)))])) _
      refine X9.iaload hx (j := (y0 &&& (255 : Int32))) (v := (.int (own_lo (y0 &&& (255 : Int32))))) (by rw [e9]; exact (hT2.1.ext hO.2).1) (State.isArrayOf_alike hZ.alike hT2.1.2.1) hT2.1.2.2 hin10 (hT2.2.2 _ hin10) (g := (mkF m 45 #[rv a0_, iv (0 : Int32), iv (y0 &&& (255 : Int32)), iv (2 : Int32), iv (y1 &&& (255 : Int32)), .unset] [(.int (y0 &&& (255 : Int32))), (.ref sa), (.int (y1 &&& (255 : Int32)))])) rfl rfl (hb hby d2_45) _ ?_
      exact k
    by_cases hc12 : (y1 &&& (255 : Int32)) < (own_lo (y0 &&& (255 : Int32)))
    · skip
      obtain ⟨fs, hr, hrun, hended, hW, hsame⟩ := X9.leave (v := some (.int (0 : Int32))) (fun h => by rw [Bd.returns] at h; cases h)
      refine ⟨_, _, S11 _ ?_, hrun, hended, _, _, rfl, ?_, ⟨_, rfl⟩, hW, hsame.mono (by decide) (by decide)⟩
      · skip
        show Steps p.tables e below (T9.setTop (mkF m 46 #[rv a0_, iv (0 : Int32), iv (y0 &&& (255 : Int32)), iv (2 : Int32), iv (y1 &&& (255 : Int32)), .unset] [(.int (own_lo (y0 &&& (255 : Int32)))), (.int (y1 &&& (255 : Int32)))])) _
        refine XS.icmpYes X9.here hx rfl (pc0 := 46) (pc' := 59) rfl (hb hby d2_46) rfl (tlt hc12).1 (by decide) (by decide) ?_
        show Steps p.tables e below (T9.setTop (mkF m 59 #[rv a0_, iv (0 : Int32), iv (y0 &&& (255 : Int32)), iv (2 : Int32), iv (y1 &&& (255 : Int32)), .unset] [])) _
        refine XS.iconst X9.here hx rfl (hb hby d2_59) ?_
        show Steps p.tables e below (T9.setTop (mkF m 60 #[rv a0_, iv (0 : Int32), iv (y0 &&& (255 : Int32)), iv (2 : Int32), iv (y1 &&& (255 : Int32)), .unset] [(.int (0 : Int32))])) _
        exact retI X9 hx Bd.returns (hb hby d2_60) hr
      · show QSL02 Z a0_ kk y0 y1 la lc sa sc ta tc h0 n0 _ T9.heap _
        rw [e9]
        exact ⟨(by unfold own_sl2; rw [if_neg hL5, if_pos hL6, if_pos hc12]), N0, rfl⟩
    · skip
      obtain ⟨T13, X13, e13, st13⟩ := getS2 X9 hx hZ hown (host := "") (Or.inl (hw _ (List.mem_of_getElem? (i := 16) rfl))) Via.refl e9 (hS3.ext hO.2) (g := (mkF m 51 #[rv a0_, iv (0 : Int32), iv (y0 &&& (255 : Int32)), iv (2 : Int32), iv (y1 &&& (255 : Int32)), .unset] [(.int (y1 &&& (255 : Int32)))])) rfl (hb hby d2_51)
      have hin14 : ¬ ((y0 &&& (255 : Int32)) < 0 ∨ tc.slots.size ≤ ((y0 &&& (255 : Int32))).toNatClampNeg) := inb_of hT3.2.1 (own_255 _)
      have S15 : ∀ t, Steps p.tables e below (T13.setTop (mkF m 56 #[rv a0_, iv (0 : Int32), iv (y0 &&& (255 : Int32)), iv (2 : Int32), iv (y1 &&& (255 : Int32)), .unset] [(.int (own_hi (y0 &&& (255 : Int32)))), (.int (y1 &&& (255 : Int32)))])) t → Steps p.tables e below (s₁.setTop (entryFrame m #[(.ref a0_), (.int (0 : Int32))] 6)) t := by
        intro t k
        refine S11 t ?_
        show Steps p.tables e below (T9.setTop (mkF m 46 #[rv a0_, iv (0 : Int32), iv (y0 &&& (255 : Int32)), iv (2 : Int32), iv (y1 &&& (255 : Int32)), .unset] [(.int (own_lo (y0 &&& (255 : Int32)))), (.int (y1 &&& (255 : Int32)))])) _
        refine XS.icmpNo X9.here hx rfl (hb hby d2_46) rfl (flt hc12).1 ?_
        show Steps p.tables e below (T9.setTop (mkF m 49 #[rv a0_, iv (0 : Int32), iv (y0 &&& (255 : Int32)), iv (2 : Int32), iv (y1 &&& (255 : Int32)), .unset] [])) _
        refine XS.iload X9.here hx rfl (hb hby d2_49) rfl ?_
        show Steps p.tables e below (T9.setTop (mkF m 51 #[rv a0_, iv (0 : Int32), iv (y0 &&& (255 : Int32)), iv (2 : Int32), iv (y1 &&& (255 : Int32)), .unset] [(.int (y1 &&& (255 : Int32)))])) _
        refine st13 _ ?_
        show Steps p.tables e below (T13.setTop (mkF m 54 #[rv a0_, iv (0 : Int32), iv (y0 &&& (255 : Int32)), iv (2 : Int32), iv (y1 &&& (255 : Int32)), .unset] [(.ref ta), (.int (y1 &&& (255 : Int32)))])) _
        refine XS.iloadN X13.here hx rfl (hb hby d2_54) rfl ?_
        show Steps p.tables e below (T13.setTop (mkF m 55 #[rv a0_, iv (0 : Int32), iv (y0 &&& (255 : Int32)), iv (2 : Int32), iv (y1 &&& (255 : Int32)), .unset] [(.int (y0 &&& (255 : Int32))), (.ref ta), (.int (y1 &&& (255 : Int32)))])) _
        refine X13.iaload hx (j := (y0 &&& (255 : Int32))) (v := (.int (own_hi (y0 &&& (255 : Int32))))) (by rw [e13]; exact (hT3.1.ext hO.2).1) (State.isArrayOf_alike hZ.alike hT3.1.2.1) hT3.1.2.2 hin14 (hT3.2.2 _ hin14) (g := (mkF m 55 #[rv a0_, iv (0 : Int32), iv (y0 &&& (255 : Int32)), iv (2 : Int32), iv (y1 &&& (255 : Int32)), .unset] [(.int (y0 &&& (255 : Int32))), (.ref ta), (.int (y1 &&& (255 : Int32)))])) rfl rfl (hb hby d2_55) _ ?_
        exact k
      by_cases hc16 : (own_hi (y0 &&& (255 : Int32))) < (y1 &&& (255 : Int32))
      · skip
        obtain ⟨fs, hr, hrun, hended, hW, hsame⟩ := X13.leave (v := some (.int (0 : Int32))) (fun h => by rw [Bd.returns] at h; cases h)
        refine ⟨_, _, S15 _ ?_, hrun, hended, _, _, rfl, ?_, ⟨_, rfl⟩, hW, hsame.mono (by decide) (by decide)⟩
        · skip
          show Steps p.tables e below (T13.setTop (mkF m 56 #[rv a0_, iv (0 : Int32), iv (y0 &&& (255 : Int32)), iv (2 : Int32), iv (y1 &&& (255 : Int32)), .unset] [(.int (own_hi (y0 &&& (255 : Int32)))), (.int (y1 &&& (255 : Int32)))])) _
          refine XS.icmpNo X13.here hx rfl (hb hby d2_56) rfl (tlt hc16).2.2.2 ?_
          show Steps p.tables e below (T13.setTop (mkF m 59 #[rv a0_, iv (0 : Int32), iv (y0 &&& (255 : Int32)), iv (2 : Int32), iv (y1 &&& (255 : Int32)), .unset] [])) _
          refine XS.iconst X13.here hx rfl (hb hby d2_59) ?_
          show Steps p.tables e below (T13.setTop (mkF m 60 #[rv a0_, iv (0 : Int32), iv (y0 &&& (255 : Int32)), iv (2 : Int32), iv (y1 &&& (255 : Int32)), .unset] [(.int (0 : Int32))])) _
          exact retI X13 hx Bd.returns (hb hby d2_60) hr
        · show QSL02 Z a0_ kk y0 y1 la lc sa sc ta tc h0 n0 _ T13.heap _
          rw [e13]
          exact ⟨(by unfold own_sl2; rw [if_neg hL5, if_pos hL6, if_neg hc12, if_pos hc16]), N0, rfl⟩
      · skip
        obtain ⟨fs, hr, hrun, hended, hW, hsame⟩ := X13.leave (v := some (.int (2 : Int32))) (fun h => by rw [Bd.returns] at h; cases h)
        refine ⟨_, _, S15 _ ?_, hrun, hended, _, _, rfl, ?_, ⟨_, rfl⟩, hW, hsame.mono (by decide) (by decide)⟩
        · skip
          show Steps p.tables e below (T13.setTop (mkF m 56 #[rv a0_, iv (0 : Int32), iv (y0 &&& (255 : Int32)), iv (2 : Int32), iv (y1 &&& (255 : Int32)), .unset] [(.int (own_hi (y0 &&& (255 : Int32)))), (.int (y1 &&& (255 : Int32)))])) _
          refine XS.icmpYes X13.here hx rfl (pc0 := 56) (pc' := 61) rfl (hb hby d2_56) rfl (flt hc16).2.2.2 (by decide) (by decide) ?_
          show Steps p.tables e below (T13.setTop (mkF m 61 #[rv a0_, iv (0 : Int32), iv (y0 &&& (255 : Int32)), iv (2 : Int32), iv (y1 &&& (255 : Int32)), .unset] [])) _
          refine XS.iloadN X13.here hx rfl (hb hby d2_61) rfl ?_
          show Steps p.tables e below (T13.setTop (mkF m 62 #[rv a0_, iv (0 : Int32), iv (y0 &&& (255 : Int32)), iv (2 : Int32), iv (y1 &&& (255 : Int32)), .unset] [(.int (0 : Int32))])) _
          refine XS.iconst X13.here hx rfl (hb hby d2_62) ?_
          show Steps p.tables e below (T13.setTop (mkF m 63 #[rv a0_, iv (0 : Int32), iv (y0 &&& (255 : Int32)), iv (2 : Int32), iv (y1 &&& (255 : Int32)), .unset] [(.int (2 : Int32)), (.int (0 : Int32))])) _
          refine XS.iadd X13.here hx rfl (hb hby d2_63) rfl ?_
          show Steps p.tables e below (T13.setTop (mkF m 64 #[rv a0_, iv (0 : Int32), iv (y0 &&& (255 : Int32)), iv (2 : Int32), iv (y1 &&& (255 : Int32)), .unset] [(.int (2 : Int32))])) _
          refine XS.istore X13.here hx rfl (hb hby d2_64) rfl (l' := #[rv a0_, iv (0 : Int32), iv (y0 &&& (255 : Int32)), iv (2 : Int32), iv (y1 &&& (255 : Int32)), iv (2 : Int32)]) rfl ?_
          show Steps p.tables e below (T13.setTop (mkF m 66 #[rv a0_, iv (0 : Int32), iv (y0 &&& (255 : Int32)), iv (2 : Int32), iv (y1 &&& (255 : Int32)), iv (2 : Int32)] [])) _
          refine XS.iload X13.here hx rfl (hb hby d2_66) rfl ?_
          show Steps p.tables e below (T13.setTop (mkF m 68 #[rv a0_, iv (0 : Int32), iv (y0 &&& (255 : Int32)), iv (2 : Int32), iv (y1 &&& (255 : Int32)), iv (2 : Int32)] [(.int (2 : Int32))])) _
          refine XS.iloadN X13.here hx rfl (hb hby d2_68) rfl ?_
          show Steps p.tables e below (T13.setTop (mkF m 69 #[rv a0_, iv (0 : Int32), iv (y0 &&& (255 : Int32)), iv (2 : Int32), iv (y1 &&& (255 : Int32)), iv (2 : Int32)] [(.int (0 : Int32)), (.int (2 : Int32))])) _
          refine XS.iloadN X13.here hx rfl (hb hby d2_69) rfl ?_
          show Steps p.tables e below (T13.setTop (mkF m 70 #[rv a0_, iv (0 : Int32), iv (y0 &&& (255 : Int32)), iv (2 : Int32), iv (y1 &&& (255 : Int32)), iv (2 : Int32)] [(.int (2 : Int32)), (.int (0 : Int32)), (.int (2 : Int32))])) _
          refine XS.iadd X13.here hx rfl (hb hby d2_70) rfl ?_
          show Steps p.tables e below (T13.setTop (mkF m 71 #[rv a0_, iv (0 : Int32), iv (y0 &&& (255 : Int32)), iv (2 : Int32), iv (y1 &&& (255 : Int32)), iv (2 : Int32)] [(.int (2 : Int32)), (.int (2 : Int32))])) _
          refine XS.icmpYes X13.here hx rfl (pc0 := 71) (pc' := 96) rfl (hb hby d2_71) rfl (flt (by decide : ¬ ((2 : Int32) < (2 : Int32)))).2.1 (by decide) (by decide) ?_
          show Steps p.tables e below (T13.setTop (mkF m 96 #[rv a0_, iv (0 : Int32), iv (y0 &&& (255 : Int32)), iv (2 : Int32), iv (y1 &&& (255 : Int32)), iv (2 : Int32)] [])) _
          refine XS.iloadN X13.here hx rfl (hb hby d2_96) rfl ?_
          show Steps p.tables e below (T13.setTop (mkF m 97 #[rv a0_, iv (0 : Int32), iv (y0 &&& (255 : Int32)), iv (2 : Int32), iv (y1 &&& (255 : Int32)), iv (2 : Int32)] [(.int (2 : Int32))])) _
          exact retI X13 hx Bd.returns (hb hby d2_97) hr
        · show QSL02 Z a0_ kk y0 y1 la lc sa sc ta tc h0 n0 _ T13.heap _
          rw [e13]
          exact ⟨(by unfold own_sl2; rw [if_neg hL5, if_pos hL6, if_neg hc12, if_neg hc16]), N0, rfl⟩
  by_cases hL17 : (own_L (y0 &&& (255 : Int32))) = (3 : Int32)
  · skip
    rw [hL17] at S4
    obtain ⟨cl18, Ar18, qa18, Sa18, Na18, Ha18, Ga18⟩ := id V0
    obtain ⟨fs, hr, hrun, hended, hW, hsame⟩ := X2.leave (v := some (.int (0 : Int32))) (fun h => by rw [Bd.returns] at h; cases h)
    refine ⟨_, _, S4 _ ?_, hrun, hended, _, _, rfl, ?_, ⟨_, rfl⟩, hW, hsame.mono (by decide) (by decide)⟩
    · skip
      show Steps p.tables e below (T2.setTop (mkF m 14 #[rv a0_, iv (0 : Int32), iv (y0 &&& (255 : Int32)), iv (3 : Int32), .unset, .unset] [])) _
      refine XS.iloadN X2.here hx rfl (hb hby d2_14) rfl ?_
      show Steps p.tables e below (T2.setTop (mkF m 15 #[rv a0_, iv (0 : Int32), iv (y0 &&& (255 : Int32)), iv (3 : Int32), .unset, .unset] [(.int (3 : Int32))])) _
      refine XS.ifNo X2.here hx rfl (hb hby d2_15) rfl ((if0 _ _).trans (feq (by decide : ¬ ((3 : Int32) = (0 : Int32)))).1) ?_
      show Steps p.tables e below (T2.setTop (mkF m 18 #[rv a0_, iv (0 : Int32), iv (y0 &&& (255 : Int32)), iv (3 : Int32), .unset, .unset] [])) _
      refine XS.iloadN X2.here hx rfl (hb hby d2_18) rfl ?_
      show Steps p.tables e below (T2.setTop (mkF m 19 #[rv a0_, iv (0 : Int32), iv (y0 &&& (255 : Int32)), iv (3 : Int32), .unset, .unset] [(.int (0 : Int32))])) _
      refine XS.iloadN X2.here hx rfl (hb hby d2_19) rfl ?_
      show Steps p.tables e below (T2.setTop (mkF m 20 #[rv a0_, iv (0 : Int32), iv (y0 &&& (255 : Int32)), iv (3 : Int32), .unset, .unset] [(.int (3 : Int32)), (.int (0 : Int32))])) _
      refine XS.iadd X2.here hx rfl (hb hby d2_20) rfl ?_
      show Steps p.tables e below (T2.setTop (mkF m 21 #[rv a0_, iv (0 : Int32), iv (y0 &&& (255 : Int32)), iv (3 : Int32), .unset, .unset] [(.int (3 : Int32))])) _
      refine XS.aloadN X2.here hx rfl (hb hby d2_21) rfl rfl ?_
      show Steps p.tables e below (T2.setTop (mkF m 22 #[rv a0_, iv (0 : Int32), iv (y0 &&& (255 : Int32)), iv (3 : Int32), .unset, .unset] [(.ref a0_), (.int (3 : Int32))])) _
      refine X2.arraylength hx (by rw [e2]; exact Ar18.1) (State.isArrayOf_alike hZ.alike Ar18.2.1) (g := (mkF m 22 #[rv a0_, iv (0 : Int32), iv (y0 &&& (255 : Int32)), iv (3 : Int32), .unset, .unset] [(.ref a0_), (.int (3 : Int32))])) rfl rfl (hb hby d2_22) _ ?_
      rw [len_of Sa18 Na18]
      show Steps p.tables e below (T2.setTop (mkF m 23 #[rv a0_, iv (0 : Int32), iv (y0 &&& (255 : Int32)), iv (3 : Int32), .unset, .unset] [(.int (2 : Int32)), (.int (3 : Int32))])) _
      refine XS.icmpNo X2.here hx rfl (hb hby d2_23) rfl (tlt (by decide : (2 : Int32) < (3 : Int32))).2.2.2 ?_
      show Steps p.tables e below (T2.setTop (mkF m 26 #[rv a0_, iv (0 : Int32), iv (y0 &&& (255 : Int32)), iv (3 : Int32), .unset, .unset] [])) _
      refine XS.iconst X2.here hx rfl (hb hby d2_26) ?_
      show Steps p.tables e below (T2.setTop (mkF m 27 #[rv a0_, iv (0 : Int32), iv (y0 &&& (255 : Int32)), iv (3 : Int32), .unset, .unset] [(.int (0 : Int32))])) _
      exact retI X2 hx Bd.returns (hb hby d2_27) hr
    · show QSL02 Z a0_ kk y0 y1 la lc sa sc ta tc h0 n0 _ T2.heap _
      rw [e2]
      exact ⟨(by unfold own_sl2; rw [if_neg hL5, if_neg hL6, if_pos hL17]), N0, rfl⟩
  have hL19 := own_L4 _ hL5 hL6 hL17
  rw [hL19] at S4
  obtain ⟨cl20, Ar20, qa20, Sa20, Na20, Ha20, Ga20⟩ := id V0
  obtain ⟨fs, hr, hrun, hended, hW, hsame⟩ := X2.leave (v := some (.int (0 : Int32))) (fun h => by rw [Bd.returns] at h; cases h)
  refine ⟨_, _, S4 _ ?_, hrun, hended, _, _, rfl, ?_, ⟨_, rfl⟩, hW, hsame.mono (by decide) (by decide)⟩
  · skip
    show Steps p.tables e below (T2.setTop (mkF m 14 #[rv a0_, iv (0 : Int32), iv (y0 &&& (255 : Int32)), iv (4 : Int32), .unset, .unset] [])) _
    refine XS.iloadN X2.here hx rfl (hb hby d2_14) rfl ?_
    show Steps p.tables e below (T2.setTop (mkF m 15 #[rv a0_, iv (0 : Int32), iv (y0 &&& (255 : Int32)), iv (4 : Int32), .unset, .unset] [(.int (4 : Int32))])) _
    refine XS.ifNo X2.here hx rfl (hb hby d2_15) rfl ((if0 _ _).trans (feq (by decide : ¬ ((4 : Int32) = (0 : Int32)))).1) ?_
    show Steps p.tables e below (T2.setTop (mkF m 18 #[rv a0_, iv (0 : Int32), iv (y0 &&& (255 : Int32)), iv (4 : Int32), .unset, .unset] [])) _
    refine XS.iloadN X2.here hx rfl (hb hby d2_18) rfl ?_
    show Steps p.tables e below (T2.setTop (mkF m 19 #[rv a0_, iv (0 : Int32), iv (y0 &&& (255 : Int32)), iv (4 : Int32), .unset, .unset] [(.int (0 : Int32))])) _
    refine XS.iloadN X2.here hx rfl (hb hby d2_19) rfl ?_
    show Steps p.tables e below (T2.setTop (mkF m 20 #[rv a0_, iv (0 : Int32), iv (y0 &&& (255 : Int32)), iv (4 : Int32), .unset, .unset] [(.int (4 : Int32)), (.int (0 : Int32))])) _
    refine XS.iadd X2.here hx rfl (hb hby d2_20) rfl ?_
    show Steps p.tables e below (T2.setTop (mkF m 21 #[rv a0_, iv (0 : Int32), iv (y0 &&& (255 : Int32)), iv (4 : Int32), .unset, .unset] [(.int (4 : Int32))])) _
    refine XS.aloadN X2.here hx rfl (hb hby d2_21) rfl rfl ?_
    show Steps p.tables e below (T2.setTop (mkF m 22 #[rv a0_, iv (0 : Int32), iv (y0 &&& (255 : Int32)), iv (4 : Int32), .unset, .unset] [(.ref a0_), (.int (4 : Int32))])) _
    refine X2.arraylength hx (by rw [e2]; exact Ar20.1) (State.isArrayOf_alike hZ.alike Ar20.2.1) (g := (mkF m 22 #[rv a0_, iv (0 : Int32), iv (y0 &&& (255 : Int32)), iv (4 : Int32), .unset, .unset] [(.ref a0_), (.int (4 : Int32))])) rfl rfl (hb hby d2_22) _ ?_
    rw [len_of Sa20 Na20]
    show Steps p.tables e below (T2.setTop (mkF m 23 #[rv a0_, iv (0 : Int32), iv (y0 &&& (255 : Int32)), iv (4 : Int32), .unset, .unset] [(.int (2 : Int32)), (.int (4 : Int32))])) _
    refine XS.icmpNo X2.here hx rfl (hb hby d2_23) rfl (tlt (by decide : (2 : Int32) < (4 : Int32))).2.2.2 ?_
    show Steps p.tables e below (T2.setTop (mkF m 26 #[rv a0_, iv (0 : Int32), iv (y0 &&& (255 : Int32)), iv (4 : Int32), .unset, .unset] [])) _
    refine XS.iconst X2.here hx rfl (hb hby d2_26) ?_
    show Steps p.tables e below (T2.setTop (mkF m 27 #[rv a0_, iv (0 : Int32), iv (y0 &&& (255 : Int32)), iv (4 : Int32), .unset, .unset] [(.int (0 : Int32))])) _
    exact retI X2 hx Bd.returns (hb hby d2_27) hr
  · show QSL02 Z a0_ kk y0 y1 la lc sa sc ta tc h0 n0 _ T2.heap _
    rw [e2]
    exact ⟨(by unfold own_sl2; rw [if_neg hL5, if_neg hL6, if_neg hL17]), N0, rfl⟩
def own_sl3 (y0 : Int32) (y1 : Int32) (y2 : Int32) : Int32 := if (own_L (y0 &&& (255 : Int32))) = (0 : Int32) then (0 : Int32) else (if (own_L (y0 &&& (255 : Int32))) = (2 : Int32) then (if (y1 &&& (255 : Int32)) < (own_lo (y0 &&& (255 : Int32))) then (0 : Int32) else (if (own_hi (y0 &&& (255 : Int32))) < (y1 &&& (255 : Int32)) then (0 : Int32) else (2 : Int32))) else (if (own_L (y0 &&& (255 : Int32))) = (3 : Int32) then (if (y1 &&& (255 : Int32)) < (own_lo (y0 &&& (255 : Int32))) then (0 : Int32) else (if (own_hi (y0 &&& (255 : Int32))) < (y1 &&& (255 : Int32)) then (0 : Int32) else (if (y2 &&& (192 : Int32)) = (128 : Int32) then (3 : Int32) else (0 : Int32)))) else (0 : Int32)))
theorem d2_74 : decode prog_28_method_3_code 74 = .ok (.aload_n 0, 1) := by decide +kernel
theorem d2_75 : decode prog_28_method_3_code 75 = .ok (.iload 5, 2) := by decide +kernel
theorem d2_77 : decode prog_28_method_3_code 77 = .ok (.baload, 1) := by decide +kernel
theorem d2_78 : decode prog_28_method_3_code 78 = .ok (.sipush 192, 3) := by decide +kernel
theorem d2_81 : decode prog_28_method_3_code 81 = .ok (.iand, 1) := by decide +kernel
theorem d2_82 : decode prog_28_method_3_code 82 = .ok (.sipush 128, 3) := by decide +kernel
theorem d2_85 : decode prog_28_method_3_code 85 = .ok (.if_icmp .eq 5, 3) := by decide +kernel
theorem d2_90 : decode prog_28_method_3_code 90 = .ok (.iinc 5 1, 3) := by decide +kernel
theorem d2_93 : decode prog_28_method_3_code 93 = .ok (.goto (-27), 3) := by decide +kernel
theorem d2_88 : decode prog_28_method_3_code 88 = .ok (.iconst 0, 1) := by decide +kernel
theorem d2_89 : decode prog_28_method_3_code 89 = .ok (.ireturn, 1) := by decide +kernel
def QSL03 (Z : State) (a0_ : Addr) (kk : ClassId) (y0 : Int32) (y1 : Int32) (y2 : Int32) (la : Addr) (lc : Cell) (sa : Addr) (sc : Cell) (ta : Addr) (tc : Cell) (h0 : Heap) (n0 : Nat) (v : Option Value) (h : Heap) (L : List Loc) : Prop := v = some (.int (own_sl3 y0 y1 y2)) ∧ Fr n0 L ∧ h = h0
theorem ef_rmSL03 (m : MethodId) (a0_ : Addr) : entryFrame m #[(.ref a0_), (.int (0 : Int32))] 6 = mkF m 0 #[rv a0_, iv (0 : Int32), .unset, .unset, .unset, .unset] [] := by first | (simp [entryFrame, mkF, argsToLocals, Value.category]; done) | rfl
set_option maxRecDepth 65536 in
set_option maxHeartbeats 40000000 in
theorem rmSL03 (l : Launch) (Z : State) (a0 : Array Value) (hw : ∀ d ∈ tables_1, d.before a0 Z = true) (ws : List Jvm.Cond) (a0_ : Addr) (kk : ClassId) (y0 : Int32) (y1 : Int32) (y2 : Int32) (la : Addr) (lc : Cell) (sa : Addr) (sc : Cell) (ta : Addr) (tc : Cell) (h0 : Heap) (n0 : Nat) (Z0 : n0 ≤ h0.size) (V0 : Arv Z h0 a0_ kk .byte (3 : Int32) [(.int y0), (.int y1), (.int y2)] (.int (0 : Int32))) (hO : Old Z n0 h0) (hS1 : Sta Z Z.heap "com/example/rivanna/rivanna/core/json/Utf8" "LENGTH" "[I" (.ref la)) (hT1 : own_Tab Z la lc own_L) (hS2 : Sta Z Z.heap "com/example/rivanna/rivanna/core/json/Utf8" "SECOND_LOW" "[I" (.ref sa)) (hT2 : own_Tab Z sa sc own_lo) (hS3 : Sta Z Z.heap "com/example/rivanna/rivanna/core/json/Utf8" "SECOND_HIGH" "[I" (.ref ta)) (hT3 : own_Tab Z ta tc own_hi) :
    MetFree l (⟨"com/example/rivanna/rivanna/core/json/Utf8", "sequenceLength", "([BI)I"⟩ : MethodName) (head1 (Jvm.Cond.code (⟨"com/example/rivanna/rivanna/core/json/Utf8", "sequenceLength", "([BI)I"⟩ : MethodName) prog_28_method_3_code 6 (some .int) :: ws) ({ frames := 0, cells := 0, slots := 0, locals := 0 } : Room)) (fun a U => a = #[(.ref a0_), (.int (0 : Int32))] ∧ Z.Warmed39 U.vm ∧ U.heap = h0) (fun _ _ _ _ _ => True) (fun _ U o U' => ∃ v L, o = .returned v ∧ QSL03 Z a0_ kk y0 y1 y2 la lc sa sc ta tc h0 n0 v U'.heap L ∧ FrameEnd U o U' L ({ frames := 0, cells := 0, slots := 0, locals := 0 } : Room).cells ({ frames := 0, cells := 0, slots := 0, locals := 0 } : Room).slots) := by
  refine MetFree.of_bodySF (plainFor_of_name pn_1) hisR ?_
  intro p e s m args below meth c s₁ Bd hml0 hP hK
  obtain ⟨rfl, hZ, hh⟩ := hP
  have hx := Bd.exec
  have hby := Bd.bytes
  have hml : c.maxLocals = 6 := hml0
  have hown : s.vm.findClass "com/example/rivanna/rivanna/core/json/Utf8" = some m.cls := findClass_of_methodNamed Bd.named
  have hnm := (name_of_methodNamed Bd.named Bd.method).1
  have X0 : Stand p l e ({ frames := 0, cells := 0, slots := 0, locals := 0 } : Room) s m #[(.ref a0_), (.int (0 : Int32))] below meth c s₁ [] 0 0 := Stand.of_body Bd
  have e0 : s₁.heap = h0 := by rw [← hh, Bd.state]; rfl
  have N0 := Fr.nil n0
  have S0 : ∀ t, Steps p.tables e below (s₁.setTop (mkF m 0 #[rv a0_, iv (0 : Int32), .unset, .unset, .unset, .unset] [])) t → Steps p.tables e below (s₁.setTop (entryFrame m #[(.ref a0_), (.int (0 : Int32))] 6)) t := fun t k => castTop (ef_rmSL03 m a0_) k
  obtain ⟨cl1, Ar1, qa1, Sa1, Na1, Ha1, Ga1⟩ := id V0
  have hin1 : ¬ ((0 : Int32) < 0 ∨ cl1.slots.size ≤ ((0 : Int32)).toNatClampNeg) := inb_of Sa1 ⟨by decide, by decide⟩
  obtain ⟨T2, X2, e2, st2⟩ := getS2 X0 hx hZ hown (host := "") (Or.inl (hw _ (List.mem_of_getElem? (i := 9) rfl))) Via.refl e0 (hS1.ext hO.2) (g := (mkF m 8 #[rv a0_, iv (0 : Int32), iv (y0 &&& (255 : Int32)), .unset, .unset, .unset] [])) rfl (hb hby d2_8)
  have hin3 : ¬ ((y0 &&& (255 : Int32)) < 0 ∨ lc.slots.size ≤ ((y0 &&& (255 : Int32))).toNatClampNeg) := inb_of hT1.2.1 (own_255 _)
  have S4 : ∀ t, Steps p.tables e below (T2.setTop (mkF m 14 #[rv a0_, iv (0 : Int32), iv (y0 &&& (255 : Int32)), iv (own_L (y0 &&& (255 : Int32))), .unset, .unset] [])) t → Steps p.tables e below (s₁.setTop (entryFrame m #[(.ref a0_), (.int (0 : Int32))] 6)) t := by
    intro t k
    refine S0 t ?_
    show Steps p.tables e below (s₁.setTop (mkF m 0 #[rv a0_, iv (0 : Int32), .unset, .unset, .unset, .unset] [])) _
    refine XS.aloadN X0.here hx rfl (hb hby d2_0) rfl rfl ?_
    show Steps p.tables e below (s₁.setTop (mkF m 1 #[rv a0_, iv (0 : Int32), .unset, .unset, .unset, .unset] [(.ref a0_)])) _
    refine XS.iloadN X0.here hx rfl (hb hby d2_1) rfl ?_
    show Steps p.tables e below (s₁.setTop (mkF m 2 #[rv a0_, iv (0 : Int32), .unset, .unset, .unset, .unset] [(.int (0 : Int32)), (.ref a0_)])) _
    refine X0.baloadBytes hx (j := (0 : Int32)) (v := (.int y0)) (by rw [e0]; exact Ar1.1) (State.isArrayOf_alike hZ.alike Ar1.2.1) Ar1.2.2 hin1 (Has.at Ha1 hin1 rfl) (g := (mkF m 2 #[rv a0_, iv (0 : Int32), .unset, .unset, .unset, .unset] [(.int (0 : Int32)), (.ref a0_)])) rfl rfl (hb hby d2_2) _ ?_
    show Steps p.tables e below (s₁.setTop (mkF m 3 #[rv a0_, iv (0 : Int32), .unset, .unset, .unset, .unset] [(.int y0)])) _
    refine XS.sipush X0.here hx rfl (hb hby d2_3) ?_
    show Steps p.tables e below (s₁.setTop (mkF m 6 #[rv a0_, iv (0 : Int32), .unset, .unset, .unset, .unset] [(.int (255 : Int32)), (.int y0)])) _
    refine XS.iand X0.here hx rfl (hb hby d2_6) rfl ?_
    show Steps p.tables e below (s₁.setTop (mkF m 7 #[rv a0_, iv (0 : Int32), .unset, .unset, .unset, .unset] [(.int (y0 &&& (255 : Int32)))])) _
    refine XS.istoreN X0.here hx rfl (hb hby d2_7) rfl (l' := #[rv a0_, iv (0 : Int32), iv (y0 &&& (255 : Int32)), .unset, .unset, .unset]) rfl ?_
    show Steps p.tables e below (s₁.setTop (mkF m 8 #[rv a0_, iv (0 : Int32), iv (y0 &&& (255 : Int32)), .unset, .unset, .unset] [])) _
    refine st2 _ ?_
    show Steps p.tables e below (T2.setTop (mkF m 11 #[rv a0_, iv (0 : Int32), iv (y0 &&& (255 : Int32)), .unset, .unset, .unset] [(.ref la)])) _
    refine XS.iloadN X2.here hx rfl (hb hby d2_11) rfl ?_
    show Steps p.tables e below (T2.setTop (mkF m 12 #[rv a0_, iv (0 : Int32), iv (y0 &&& (255 : Int32)), .unset, .unset, .unset] [(.int (y0 &&& (255 : Int32))), (.ref la)])) _
    refine X2.iaload hx (j := (y0 &&& (255 : Int32))) (v := (.int (own_L (y0 &&& (255 : Int32))))) (by rw [e2]; exact (hT1.1.ext hO.2).1) (State.isArrayOf_alike hZ.alike hT1.1.2.1) hT1.1.2.2 hin3 (hT1.2.2 _ hin3) (g := (mkF m 12 #[rv a0_, iv (0 : Int32), iv (y0 &&& (255 : Int32)), .unset, .unset, .unset] [(.int (y0 &&& (255 : Int32))), (.ref la)])) rfl rfl (hb hby d2_12) _ ?_
    show Steps p.tables e below (T2.setTop (mkF m 13 #[rv a0_, iv (0 : Int32), iv (y0 &&& (255 : Int32)), .unset, .unset, .unset] [(.int (own_L (y0 &&& (255 : Int32))))])) _
    refine XS.istoreN X2.here hx rfl (hb hby d2_13) rfl (l' := #[rv a0_, iv (0 : Int32), iv (y0 &&& (255 : Int32)), iv (own_L (y0 &&& (255 : Int32))), .unset, .unset]) rfl ?_
    exact k
  by_cases hL5 : (own_L (y0 &&& (255 : Int32))) = (0 : Int32)
  · skip
    rw [hL5] at S4
    obtain ⟨fs, hr, hrun, hended, hW, hsame⟩ := X2.leave (v := some (.int (0 : Int32))) (fun h => by rw [Bd.returns] at h; cases h)
    refine ⟨_, _, S4 _ ?_, hrun, hended, _, _, rfl, ?_, ⟨_, rfl⟩, hW, hsame.mono (by decide) (by decide)⟩
    · skip
      show Steps p.tables e below (T2.setTop (mkF m 14 #[rv a0_, iv (0 : Int32), iv (y0 &&& (255 : Int32)), iv (0 : Int32), .unset, .unset] [])) _
      refine XS.iloadN X2.here hx rfl (hb hby d2_14) rfl ?_
      show Steps p.tables e below (T2.setTop (mkF m 15 #[rv a0_, iv (0 : Int32), iv (y0 &&& (255 : Int32)), iv (0 : Int32), .unset, .unset] [(.int (0 : Int32))])) _
      refine XS.ifYes X2.here hx rfl (pc0 := 15) (pc' := 26) rfl (hb hby d2_15) rfl ((if0 _ _).trans (teq (by decide : (0 : Int32) = (0 : Int32))).1) (by decide) (by decide) ?_
      show Steps p.tables e below (T2.setTop (mkF m 26 #[rv a0_, iv (0 : Int32), iv (y0 &&& (255 : Int32)), iv (0 : Int32), .unset, .unset] [])) _
      refine XS.iconst X2.here hx rfl (hb hby d2_26) ?_
      show Steps p.tables e below (T2.setTop (mkF m 27 #[rv a0_, iv (0 : Int32), iv (y0 &&& (255 : Int32)), iv (0 : Int32), .unset, .unset] [(.int (0 : Int32))])) _
      exact retI X2 hx Bd.returns (hb hby d2_27) hr
    · show QSL03 Z a0_ kk y0 y1 y2 la lc sa sc ta tc h0 n0 _ T2.heap _
      rw [e2]
      exact ⟨(by unfold own_sl3; rw [if_pos hL5]), N0, rfl⟩
  by_cases hL6 : (own_L (y0 &&& (255 : Int32))) = (2 : Int32)
  · skip
    rw [hL6] at S4
    obtain ⟨cl7, Ar7, qa7, Sa7, Na7, Ha7, Ga7⟩ := id V0
    obtain ⟨cl8, Ar8, qa8, Sa8, Na8, Ha8, Ga8⟩ := id V0
    have hin8 : ¬ ((1 : Int32) < 0 ∨ cl8.slots.size ≤ ((1 : Int32)).toNatClampNeg) := inb_of Sa8 ⟨by decide, by decide⟩
    obtain ⟨T9, X9, e9, st9⟩ := getS2 X2 hx hZ hown (host := "") (Or.inl (hw _ (List.mem_of_getElem? (i := 14) rfl))) Via.refl e2 (hS2.ext hO.2) (g := (mkF m 41 #[rv a0_, iv (0 : Int32), iv (y0 &&& (255 : Int32)), iv (2 : Int32), iv (y1 &&& (255 : Int32)), .unset] [(.int (y1 &&& (255 : Int32)))])) rfl (hb hby d2_41)
    have hin10 : ¬ ((y0 &&& (255 : Int32)) < 0 ∨ sc.slots.size ≤ ((y0 &&& (255 : Int32))).toNatClampNeg) := inb_of hT2.2.1 (own_255 _)
    have S11 : ∀ t, Steps p.tables e below (T9.setTop (mkF m 46 #[rv a0_, iv (0 : Int32), iv (y0 &&& (255 : Int32)), iv (2 : Int32), iv (y1 &&& (255 : Int32)), .unset] [(.int (own_lo (y0 &&& (255 : Int32)))), (.int (y1 &&& (255 : Int32)))])) t → Steps p.tables e below (s₁.setTop (entryFrame m #[(.ref a0_), (.int (0 : Int32))] 6)) t := by
      intro t k
      refine S4 t ?_
      show Steps p.tables e below (T2.setTop (mkF m 14 #[rv a0_, iv (0 : Int32), iv (y0 &&& (255 : Int32)), iv (2 : Int32), .unset, .unset] [])) _
      refine XS.iloadN X2.here hx rfl (hb hby d2_14) rfl ?_
      show Steps p.tables e below (T2.setTop (mkF m 15 #[rv a0_, iv (0 : Int32), iv (y0 &&& (255 : Int32)), iv (2 : Int32), .unset, .unset] [(.int (2 : Int32))])) _
      refine XS.ifNo X2.here hx rfl (hb hby d2_15) rfl ((if0 _ _).trans (feq (by decide : ¬ ((2 : Int32) = (0 : Int32)))).1) ?_
      show Steps p.tables e below (T2.setTop (mkF m 18 #[rv a0_, iv (0 : Int32), iv (y0 &&& (255 : Int32)), iv (2 : Int32), .unset, .unset] [])) _
      refine XS.iloadN X2.here hx rfl (hb hby d2_18) rfl ?_
      show Steps p.tables e below (T2.setTop (mkF m 19 #[rv a0_, iv (0 : Int32), iv (y0 &&& (255 : Int32)), iv (2 : Int32), .unset, .unset] [(.int (0 : Int32))])) _
      refine XS.iloadN X2.here hx rfl (hb hby d2_19) rfl ?_
      show Steps p.tables e below (T2.setTop (mkF m 20 #[rv a0_, iv (0 : Int32), iv (y0 &&& (255 : Int32)), iv (2 : Int32), .unset, .unset] [(.int (2 : Int32)), (.int (0 : Int32))])) _
      refine XS.iadd X2.here hx rfl (hb hby d2_20) rfl ?_
      show Steps p.tables e below (T2.setTop (mkF m 21 #[rv a0_, iv (0 : Int32), iv (y0 &&& (255 : Int32)), iv (2 : Int32), .unset, .unset] [(.int (2 : Int32))])) _
      refine XS.aloadN X2.here hx rfl (hb hby d2_21) rfl rfl ?_
      show Steps p.tables e below (T2.setTop (mkF m 22 #[rv a0_, iv (0 : Int32), iv (y0 &&& (255 : Int32)), iv (2 : Int32), .unset, .unset] [(.ref a0_), (.int (2 : Int32))])) _
      refine X2.arraylength hx (by rw [e2]; exact Ar7.1) (State.isArrayOf_alike hZ.alike Ar7.2.1) (g := (mkF m 22 #[rv a0_, iv (0 : Int32), iv (y0 &&& (255 : Int32)), iv (2 : Int32), .unset, .unset] [(.ref a0_), (.int (2 : Int32))])) rfl rfl (hb hby d2_22) _ ?_
      rw [len_of Sa7 Na7]
      show Steps p.tables e below (T2.setTop (mkF m 23 #[rv a0_, iv (0 : Int32), iv (y0 &&& (255 : Int32)), iv (2 : Int32), .unset, .unset] [(.int (3 : Int32)), (.int (2 : Int32))])) _
      refine XS.icmpYes X2.here hx rfl (pc0 := 23) (pc' := 28) rfl (hb hby d2_23) rfl (flt (by decide : ¬ ((3 : Int32) < (2 : Int32)))).2.2.2 (by decide) (by decide) ?_
      show Steps p.tables e below (T2.setTop (mkF m 28 #[rv a0_, iv (0 : Int32), iv (y0 &&& (255 : Int32)), iv (2 : Int32), .unset, .unset] [])) _
      refine XS.aloadN X2.here hx rfl (hb hby d2_28) rfl rfl ?_
      show Steps p.tables e below (T2.setTop (mkF m 29 #[rv a0_, iv (0 : Int32), iv (y0 &&& (255 : Int32)), iv (2 : Int32), .unset, .unset] [(.ref a0_)])) _
      refine XS.iloadN X2.here hx rfl (hb hby d2_29) rfl ?_
      show Steps p.tables e below (T2.setTop (mkF m 30 #[rv a0_, iv (0 : Int32), iv (y0 &&& (255 : Int32)), iv (2 : Int32), .unset, .unset] [(.int (0 : Int32)), (.ref a0_)])) _
      refine XS.iconst X2.here hx rfl (hb hby d2_30) ?_
      show Steps p.tables e below (T2.setTop (mkF m 31 #[rv a0_, iv (0 : Int32), iv (y0 &&& (255 : Int32)), iv (2 : Int32), .unset, .unset] [(.int (1 : Int32)), (.int (0 : Int32)), (.ref a0_)])) _
      refine XS.iadd X2.here hx rfl (hb hby d2_31) rfl ?_
      show Steps p.tables e below (T2.setTop (mkF m 32 #[rv a0_, iv (0 : Int32), iv (y0 &&& (255 : Int32)), iv (2 : Int32), .unset, .unset] [(.int (1 : Int32)), (.ref a0_)])) _
      refine X2.baloadBytes hx (j := (1 : Int32)) (v := (.int y1)) (by rw [e2]; exact Ar8.1) (State.isArrayOf_alike hZ.alike Ar8.2.1) Ar8.2.2 hin8 (Has.at Ha8 hin8 rfl) (g := (mkF m 32 #[rv a0_, iv (0 : Int32), iv (y0 &&& (255 : Int32)), iv (2 : Int32), .unset, .unset] [(.int (1 : Int32)), (.ref a0_)])) rfl rfl (hb hby d2_32) _ ?_
      show Steps p.tables e below (T2.setTop (mkF m 33 #[rv a0_, iv (0 : Int32), iv (y0 &&& (255 : Int32)), iv (2 : Int32), .unset, .unset] [(.int y1)])) _
      refine XS.sipush X2.here hx rfl (hb hby d2_33) ?_
      show Steps p.tables e below (T2.setTop (mkF m 36 #[rv a0_, iv (0 : Int32), iv (y0 &&& (255 : Int32)), iv (2 : Int32), .unset, .unset] [(.int (255 : Int32)), (.int y1)])) _
      refine XS.iand X2.here hx rfl (hb hby d2_36) rfl ?_
      show Steps p.tables e below (T2.setTop (mkF m 37 #[rv a0_, iv (0 : Int32), iv (y0 &&& (255 : Int32)), iv (2 : Int32), .unset, .unset] [(.int (y1 &&& (255 : Int32)))])) _
      refine XS.istore X2.here hx rfl (hb hby d2_37) rfl (l' := #[rv a0_, iv (0 : Int32), iv (y0 &&& (255 : Int32)), iv (2 : Int32), iv (y1 &&& (255 : Int32)), .unset]) rfl ?_
      show Steps p.tables e below (T2.setTop (mkF m 39 #[rv a0_, iv (0 : Int32), iv (y0 &&& (255 : Int32)), iv (2 : Int32), iv (y1 &&& (255 : Int32)), .unset] [])) _
      refine XS.iload X2.here hx rfl (hb hby d2_39) rfl ?_
      show Steps p.tables e below (T2.setTop (mkF m 41 #[rv a0_, iv (0 : Int32), iv (y0 &&& (255 : Int32)), iv (2 : Int32), iv (y1 &&& (255 : Int32)), .unset] [(.int (y1 &&& (255 : Int32)))])) _
      refine st9 _ ?_
      show Steps p.tables e below (T9.setTop (mkF m 44 #[rv a0_, iv (0 : Int32), iv (y0 &&& (255 : Int32)), iv (2 : Int32), iv (y1 &&& (255 : Int32)), .unset] [(.ref sa), (.int (y1 &&& (255 : Int32)))])) _
      refine XS.iloadN X9.here hx rfl (hb hby d2_44) rfl ?_
      show Steps p.tables e below (T9.setTop (mkF m 45 #[rv a0_, iv (0 : Int32), iv (y0 &&& (255 : Int32)), iv (2 : Int32), iv (y1 &&& (255 : Int32)), .unset] [(.int (y0 &&& (255 : Int32))), (.ref sa), (.int (y1 &&& (255 : Int32)))])) _
      refine X9.iaload hx (j := (y0 &&& (255 : Int32))) (v := (.int (own_lo (y0 &&& (255 : Int32))))) (by rw [e9]; exact (hT2.1.ext hO.2).1) (State.isArrayOf_alike hZ.alike hT2.1.2.1) hT2.1.2.2 hin10 (hT2.2.2 _ hin10) (g := (mkF m 45 #[rv a0_, iv (0 : Int32), iv (y0 &&& (255 : Int32)), iv (2 : Int32), iv (y1 &&& (255 : Int32)), .unset] [(.int (y0 &&& (255 : Int32))), (.ref sa), (.int (y1 &&& (255 : Int32)))])) rfl rfl (hb hby d2_45) _ ?_
      exact k
    by_cases hc12 : (y1 &&& (255 : Int32)) < (own_lo (y0 &&& (255 : Int32)))
    · skip
      obtain ⟨fs, hr, hrun, hended, hW, hsame⟩ := X9.leave (v := some (.int (0 : Int32))) (fun h => by rw [Bd.returns] at h; cases h)
      refine ⟨_, _, S11 _ ?_, hrun, hended, _, _, rfl, ?_, ⟨_, rfl⟩, hW, hsame.mono (by decide) (by decide)⟩
      · skip
        show Steps p.tables e below (T9.setTop (mkF m 46 #[rv a0_, iv (0 : Int32), iv (y0 &&& (255 : Int32)), iv (2 : Int32), iv (y1 &&& (255 : Int32)), .unset] [(.int (own_lo (y0 &&& (255 : Int32)))), (.int (y1 &&& (255 : Int32)))])) _
        refine XS.icmpYes X9.here hx rfl (pc0 := 46) (pc' := 59) rfl (hb hby d2_46) rfl (tlt hc12).1 (by decide) (by decide) ?_
        show Steps p.tables e below (T9.setTop (mkF m 59 #[rv a0_, iv (0 : Int32), iv (y0 &&& (255 : Int32)), iv (2 : Int32), iv (y1 &&& (255 : Int32)), .unset] [])) _
        refine XS.iconst X9.here hx rfl (hb hby d2_59) ?_
        show Steps p.tables e below (T9.setTop (mkF m 60 #[rv a0_, iv (0 : Int32), iv (y0 &&& (255 : Int32)), iv (2 : Int32), iv (y1 &&& (255 : Int32)), .unset] [(.int (0 : Int32))])) _
        exact retI X9 hx Bd.returns (hb hby d2_60) hr
      · show QSL03 Z a0_ kk y0 y1 y2 la lc sa sc ta tc h0 n0 _ T9.heap _
        rw [e9]
        exact ⟨(by unfold own_sl3; rw [if_neg hL5, if_pos hL6, if_pos hc12]), N0, rfl⟩
    · skip
      obtain ⟨T13, X13, e13, st13⟩ := getS2 X9 hx hZ hown (host := "") (Or.inl (hw _ (List.mem_of_getElem? (i := 16) rfl))) Via.refl e9 (hS3.ext hO.2) (g := (mkF m 51 #[rv a0_, iv (0 : Int32), iv (y0 &&& (255 : Int32)), iv (2 : Int32), iv (y1 &&& (255 : Int32)), .unset] [(.int (y1 &&& (255 : Int32)))])) rfl (hb hby d2_51)
      have hin14 : ¬ ((y0 &&& (255 : Int32)) < 0 ∨ tc.slots.size ≤ ((y0 &&& (255 : Int32))).toNatClampNeg) := inb_of hT3.2.1 (own_255 _)
      have S15 : ∀ t, Steps p.tables e below (T13.setTop (mkF m 56 #[rv a0_, iv (0 : Int32), iv (y0 &&& (255 : Int32)), iv (2 : Int32), iv (y1 &&& (255 : Int32)), .unset] [(.int (own_hi (y0 &&& (255 : Int32)))), (.int (y1 &&& (255 : Int32)))])) t → Steps p.tables e below (s₁.setTop (entryFrame m #[(.ref a0_), (.int (0 : Int32))] 6)) t := by
        intro t k
        refine S11 t ?_
        show Steps p.tables e below (T9.setTop (mkF m 46 #[rv a0_, iv (0 : Int32), iv (y0 &&& (255 : Int32)), iv (2 : Int32), iv (y1 &&& (255 : Int32)), .unset] [(.int (own_lo (y0 &&& (255 : Int32)))), (.int (y1 &&& (255 : Int32)))])) _
        refine XS.icmpNo X9.here hx rfl (hb hby d2_46) rfl (flt hc12).1 ?_
        show Steps p.tables e below (T9.setTop (mkF m 49 #[rv a0_, iv (0 : Int32), iv (y0 &&& (255 : Int32)), iv (2 : Int32), iv (y1 &&& (255 : Int32)), .unset] [])) _
        refine XS.iload X9.here hx rfl (hb hby d2_49) rfl ?_
        show Steps p.tables e below (T9.setTop (mkF m 51 #[rv a0_, iv (0 : Int32), iv (y0 &&& (255 : Int32)), iv (2 : Int32), iv (y1 &&& (255 : Int32)), .unset] [(.int (y1 &&& (255 : Int32)))])) _
        refine st13 _ ?_
        show Steps p.tables e below (T13.setTop (mkF m 54 #[rv a0_, iv (0 : Int32), iv (y0 &&& (255 : Int32)), iv (2 : Int32), iv (y1 &&& (255 : Int32)), .unset] [(.ref ta), (.int (y1 &&& (255 : Int32)))])) _
        refine XS.iloadN X13.here hx rfl (hb hby d2_54) rfl ?_
        show Steps p.tables e below (T13.setTop (mkF m 55 #[rv a0_, iv (0 : Int32), iv (y0 &&& (255 : Int32)), iv (2 : Int32), iv (y1 &&& (255 : Int32)), .unset] [(.int (y0 &&& (255 : Int32))), (.ref ta), (.int (y1 &&& (255 : Int32)))])) _
        refine X13.iaload hx (j := (y0 &&& (255 : Int32))) (v := (.int (own_hi (y0 &&& (255 : Int32))))) (by rw [e13]; exact (hT3.1.ext hO.2).1) (State.isArrayOf_alike hZ.alike hT3.1.2.1) hT3.1.2.2 hin14 (hT3.2.2 _ hin14) (g := (mkF m 55 #[rv a0_, iv (0 : Int32), iv (y0 &&& (255 : Int32)), iv (2 : Int32), iv (y1 &&& (255 : Int32)), .unset] [(.int (y0 &&& (255 : Int32))), (.ref ta), (.int (y1 &&& (255 : Int32)))])) rfl rfl (hb hby d2_55) _ ?_
        exact k
      by_cases hc16 : (own_hi (y0 &&& (255 : Int32))) < (y1 &&& (255 : Int32))
      · skip
        obtain ⟨fs, hr, hrun, hended, hW, hsame⟩ := X13.leave (v := some (.int (0 : Int32))) (fun h => by rw [Bd.returns] at h; cases h)
        refine ⟨_, _, S15 _ ?_, hrun, hended, _, _, rfl, ?_, ⟨_, rfl⟩, hW, hsame.mono (by decide) (by decide)⟩
        · skip
          show Steps p.tables e below (T13.setTop (mkF m 56 #[rv a0_, iv (0 : Int32), iv (y0 &&& (255 : Int32)), iv (2 : Int32), iv (y1 &&& (255 : Int32)), .unset] [(.int (own_hi (y0 &&& (255 : Int32)))), (.int (y1 &&& (255 : Int32)))])) _
          refine XS.icmpNo X13.here hx rfl (hb hby d2_56) rfl (tlt hc16).2.2.2 ?_
          show Steps p.tables e below (T13.setTop (mkF m 59 #[rv a0_, iv (0 : Int32), iv (y0 &&& (255 : Int32)), iv (2 : Int32), iv (y1 &&& (255 : Int32)), .unset] [])) _
          refine XS.iconst X13.here hx rfl (hb hby d2_59) ?_
          show Steps p.tables e below (T13.setTop (mkF m 60 #[rv a0_, iv (0 : Int32), iv (y0 &&& (255 : Int32)), iv (2 : Int32), iv (y1 &&& (255 : Int32)), .unset] [(.int (0 : Int32))])) _
          exact retI X13 hx Bd.returns (hb hby d2_60) hr
        · show QSL03 Z a0_ kk y0 y1 y2 la lc sa sc ta tc h0 n0 _ T13.heap _
          rw [e13]
          exact ⟨(by unfold own_sl3; rw [if_neg hL5, if_pos hL6, if_neg hc12, if_pos hc16]), N0, rfl⟩
      · skip
        obtain ⟨fs, hr, hrun, hended, hW, hsame⟩ := X13.leave (v := some (.int (2 : Int32))) (fun h => by rw [Bd.returns] at h; cases h)
        refine ⟨_, _, S15 _ ?_, hrun, hended, _, _, rfl, ?_, ⟨_, rfl⟩, hW, hsame.mono (by decide) (by decide)⟩
        · skip
          show Steps p.tables e below (T13.setTop (mkF m 56 #[rv a0_, iv (0 : Int32), iv (y0 &&& (255 : Int32)), iv (2 : Int32), iv (y1 &&& (255 : Int32)), .unset] [(.int (own_hi (y0 &&& (255 : Int32)))), (.int (y1 &&& (255 : Int32)))])) _
          refine XS.icmpYes X13.here hx rfl (pc0 := 56) (pc' := 61) rfl (hb hby d2_56) rfl (flt hc16).2.2.2 (by decide) (by decide) ?_
          show Steps p.tables e below (T13.setTop (mkF m 61 #[rv a0_, iv (0 : Int32), iv (y0 &&& (255 : Int32)), iv (2 : Int32), iv (y1 &&& (255 : Int32)), .unset] [])) _
          refine XS.iloadN X13.here hx rfl (hb hby d2_61) rfl ?_
          show Steps p.tables e below (T13.setTop (mkF m 62 #[rv a0_, iv (0 : Int32), iv (y0 &&& (255 : Int32)), iv (2 : Int32), iv (y1 &&& (255 : Int32)), .unset] [(.int (0 : Int32))])) _
          refine XS.iconst X13.here hx rfl (hb hby d2_62) ?_
          show Steps p.tables e below (T13.setTop (mkF m 63 #[rv a0_, iv (0 : Int32), iv (y0 &&& (255 : Int32)), iv (2 : Int32), iv (y1 &&& (255 : Int32)), .unset] [(.int (2 : Int32)), (.int (0 : Int32))])) _
          refine XS.iadd X13.here hx rfl (hb hby d2_63) rfl ?_
          show Steps p.tables e below (T13.setTop (mkF m 64 #[rv a0_, iv (0 : Int32), iv (y0 &&& (255 : Int32)), iv (2 : Int32), iv (y1 &&& (255 : Int32)), .unset] [(.int (2 : Int32))])) _
          refine XS.istore X13.here hx rfl (hb hby d2_64) rfl (l' := #[rv a0_, iv (0 : Int32), iv (y0 &&& (255 : Int32)), iv (2 : Int32), iv (y1 &&& (255 : Int32)), iv (2 : Int32)]) rfl ?_
          show Steps p.tables e below (T13.setTop (mkF m 66 #[rv a0_, iv (0 : Int32), iv (y0 &&& (255 : Int32)), iv (2 : Int32), iv (y1 &&& (255 : Int32)), iv (2 : Int32)] [])) _
          refine XS.iload X13.here hx rfl (hb hby d2_66) rfl ?_
          show Steps p.tables e below (T13.setTop (mkF m 68 #[rv a0_, iv (0 : Int32), iv (y0 &&& (255 : Int32)), iv (2 : Int32), iv (y1 &&& (255 : Int32)), iv (2 : Int32)] [(.int (2 : Int32))])) _
          refine XS.iloadN X13.here hx rfl (hb hby d2_68) rfl ?_
          show Steps p.tables e below (T13.setTop (mkF m 69 #[rv a0_, iv (0 : Int32), iv (y0 &&& (255 : Int32)), iv (2 : Int32), iv (y1 &&& (255 : Int32)), iv (2 : Int32)] [(.int (0 : Int32)), (.int (2 : Int32))])) _
          refine XS.iloadN X13.here hx rfl (hb hby d2_69) rfl ?_
          show Steps p.tables e below (T13.setTop (mkF m 70 #[rv a0_, iv (0 : Int32), iv (y0 &&& (255 : Int32)), iv (2 : Int32), iv (y1 &&& (255 : Int32)), iv (2 : Int32)] [(.int (2 : Int32)), (.int (0 : Int32)), (.int (2 : Int32))])) _
          refine XS.iadd X13.here hx rfl (hb hby d2_70) rfl ?_
          show Steps p.tables e below (T13.setTop (mkF m 71 #[rv a0_, iv (0 : Int32), iv (y0 &&& (255 : Int32)), iv (2 : Int32), iv (y1 &&& (255 : Int32)), iv (2 : Int32)] [(.int (2 : Int32)), (.int (2 : Int32))])) _
          refine XS.icmpYes X13.here hx rfl (pc0 := 71) (pc' := 96) rfl (hb hby d2_71) rfl (flt (by decide : ¬ ((2 : Int32) < (2 : Int32)))).2.1 (by decide) (by decide) ?_
          show Steps p.tables e below (T13.setTop (mkF m 96 #[rv a0_, iv (0 : Int32), iv (y0 &&& (255 : Int32)), iv (2 : Int32), iv (y1 &&& (255 : Int32)), iv (2 : Int32)] [])) _
          refine XS.iloadN X13.here hx rfl (hb hby d2_96) rfl ?_
          show Steps p.tables e below (T13.setTop (mkF m 97 #[rv a0_, iv (0 : Int32), iv (y0 &&& (255 : Int32)), iv (2 : Int32), iv (y1 &&& (255 : Int32)), iv (2 : Int32)] [(.int (2 : Int32))])) _
          exact retI X13 hx Bd.returns (hb hby d2_97) hr
        · show QSL03 Z a0_ kk y0 y1 y2 la lc sa sc ta tc h0 n0 _ T13.heap _
          rw [e13]
          exact ⟨(by unfold own_sl3; rw [if_neg hL5, if_pos hL6, if_neg hc12, if_neg hc16]), N0, rfl⟩
  by_cases hL17 : (own_L (y0 &&& (255 : Int32))) = (3 : Int32)
  · skip
    rw [hL17] at S4
    obtain ⟨cl18, Ar18, qa18, Sa18, Na18, Ha18, Ga18⟩ := id V0
    obtain ⟨cl19, Ar19, qa19, Sa19, Na19, Ha19, Ga19⟩ := id V0
    have hin19 : ¬ ((1 : Int32) < 0 ∨ cl19.slots.size ≤ ((1 : Int32)).toNatClampNeg) := inb_of Sa19 ⟨by decide, by decide⟩
    obtain ⟨T20, X20, e20, st20⟩ := getS2 X2 hx hZ hown (host := "") (Or.inl (hw _ (List.mem_of_getElem? (i := 14) rfl))) Via.refl e2 (hS2.ext hO.2) (g := (mkF m 41 #[rv a0_, iv (0 : Int32), iv (y0 &&& (255 : Int32)), iv (3 : Int32), iv (y1 &&& (255 : Int32)), .unset] [(.int (y1 &&& (255 : Int32)))])) rfl (hb hby d2_41)
    have hin21 : ¬ ((y0 &&& (255 : Int32)) < 0 ∨ sc.slots.size ≤ ((y0 &&& (255 : Int32))).toNatClampNeg) := inb_of hT2.2.1 (own_255 _)
    have S22 : ∀ t, Steps p.tables e below (T20.setTop (mkF m 46 #[rv a0_, iv (0 : Int32), iv (y0 &&& (255 : Int32)), iv (3 : Int32), iv (y1 &&& (255 : Int32)), .unset] [(.int (own_lo (y0 &&& (255 : Int32)))), (.int (y1 &&& (255 : Int32)))])) t → Steps p.tables e below (s₁.setTop (entryFrame m #[(.ref a0_), (.int (0 : Int32))] 6)) t := by
      intro t k
      refine S4 t ?_
      show Steps p.tables e below (T2.setTop (mkF m 14 #[rv a0_, iv (0 : Int32), iv (y0 &&& (255 : Int32)), iv (3 : Int32), .unset, .unset] [])) _
      refine XS.iloadN X2.here hx rfl (hb hby d2_14) rfl ?_
      show Steps p.tables e below (T2.setTop (mkF m 15 #[rv a0_, iv (0 : Int32), iv (y0 &&& (255 : Int32)), iv (3 : Int32), .unset, .unset] [(.int (3 : Int32))])) _
      refine XS.ifNo X2.here hx rfl (hb hby d2_15) rfl ((if0 _ _).trans (feq (by decide : ¬ ((3 : Int32) = (0 : Int32)))).1) ?_
      show Steps p.tables e below (T2.setTop (mkF m 18 #[rv a0_, iv (0 : Int32), iv (y0 &&& (255 : Int32)), iv (3 : Int32), .unset, .unset] [])) _
      refine XS.iloadN X2.here hx rfl (hb hby d2_18) rfl ?_
      show Steps p.tables e below (T2.setTop (mkF m 19 #[rv a0_, iv (0 : Int32), iv (y0 &&& (255 : Int32)), iv (3 : Int32), .unset, .unset] [(.int (0 : Int32))])) _
      refine XS.iloadN X2.here hx rfl (hb hby d2_19) rfl ?_
      show Steps p.tables e below (T2.setTop (mkF m 20 #[rv a0_, iv (0 : Int32), iv (y0 &&& (255 : Int32)), iv (3 : Int32), .unset, .unset] [(.int (3 : Int32)), (.int (0 : Int32))])) _
      refine XS.iadd X2.here hx rfl (hb hby d2_20) rfl ?_
      show Steps p.tables e below (T2.setTop (mkF m 21 #[rv a0_, iv (0 : Int32), iv (y0 &&& (255 : Int32)), iv (3 : Int32), .unset, .unset] [(.int (3 : Int32))])) _
      refine XS.aloadN X2.here hx rfl (hb hby d2_21) rfl rfl ?_
      show Steps p.tables e below (T2.setTop (mkF m 22 #[rv a0_, iv (0 : Int32), iv (y0 &&& (255 : Int32)), iv (3 : Int32), .unset, .unset] [(.ref a0_), (.int (3 : Int32))])) _
      refine X2.arraylength hx (by rw [e2]; exact Ar18.1) (State.isArrayOf_alike hZ.alike Ar18.2.1) (g := (mkF m 22 #[rv a0_, iv (0 : Int32), iv (y0 &&& (255 : Int32)), iv (3 : Int32), .unset, .unset] [(.ref a0_), (.int (3 : Int32))])) rfl rfl (hb hby d2_22) _ ?_
      rw [len_of Sa18 Na18]
      show Steps p.tables e below (T2.setTop (mkF m 23 #[rv a0_, iv (0 : Int32), iv (y0 &&& (255 : Int32)), iv (3 : Int32), .unset, .unset] [(.int (3 : Int32)), (.int (3 : Int32))])) _
      refine XS.icmpYes X2.here hx rfl (pc0 := 23) (pc' := 28) rfl (hb hby d2_23) rfl (flt (by decide : ¬ ((3 : Int32) < (3 : Int32)))).2.2.2 (by decide) (by decide) ?_
      show Steps p.tables e below (T2.setTop (mkF m 28 #[rv a0_, iv (0 : Int32), iv (y0 &&& (255 : Int32)), iv (3 : Int32), .unset, .unset] [])) _
      refine XS.aloadN X2.here hx rfl (hb hby d2_28) rfl rfl ?_
      show Steps p.tables e below (T2.setTop (mkF m 29 #[rv a0_, iv (0 : Int32), iv (y0 &&& (255 : Int32)), iv (3 : Int32), .unset, .unset] [(.ref a0_)])) _
      refine XS.iloadN X2.here hx rfl (hb hby d2_29) rfl ?_
      show Steps p.tables e below (T2.setTop (mkF m 30 #[rv a0_, iv (0 : Int32), iv (y0 &&& (255 : Int32)), iv (3 : Int32), .unset, .unset] [(.int (0 : Int32)), (.ref a0_)])) _
      refine XS.iconst X2.here hx rfl (hb hby d2_30) ?_
      show Steps p.tables e below (T2.setTop (mkF m 31 #[rv a0_, iv (0 : Int32), iv (y0 &&& (255 : Int32)), iv (3 : Int32), .unset, .unset] [(.int (1 : Int32)), (.int (0 : Int32)), (.ref a0_)])) _
      refine XS.iadd X2.here hx rfl (hb hby d2_31) rfl ?_
      show Steps p.tables e below (T2.setTop (mkF m 32 #[rv a0_, iv (0 : Int32), iv (y0 &&& (255 : Int32)), iv (3 : Int32), .unset, .unset] [(.int (1 : Int32)), (.ref a0_)])) _
      refine X2.baloadBytes hx (j := (1 : Int32)) (v := (.int y1)) (by rw [e2]; exact Ar19.1) (State.isArrayOf_alike hZ.alike Ar19.2.1) Ar19.2.2 hin19 (Has.at Ha19 hin19 rfl) (g := (mkF m 32 #[rv a0_, iv (0 : Int32), iv (y0 &&& (255 : Int32)), iv (3 : Int32), .unset, .unset] [(.int (1 : Int32)), (.ref a0_)])) rfl rfl (hb hby d2_32) _ ?_
      show Steps p.tables e below (T2.setTop (mkF m 33 #[rv a0_, iv (0 : Int32), iv (y0 &&& (255 : Int32)), iv (3 : Int32), .unset, .unset] [(.int y1)])) _
      refine XS.sipush X2.here hx rfl (hb hby d2_33) ?_
      show Steps p.tables e below (T2.setTop (mkF m 36 #[rv a0_, iv (0 : Int32), iv (y0 &&& (255 : Int32)), iv (3 : Int32), .unset, .unset] [(.int (255 : Int32)), (.int y1)])) _
      refine XS.iand X2.here hx rfl (hb hby d2_36) rfl ?_
      show Steps p.tables e below (T2.setTop (mkF m 37 #[rv a0_, iv (0 : Int32), iv (y0 &&& (255 : Int32)), iv (3 : Int32), .unset, .unset] [(.int (y1 &&& (255 : Int32)))])) _
      refine XS.istore X2.here hx rfl (hb hby d2_37) rfl (l' := #[rv a0_, iv (0 : Int32), iv (y0 &&& (255 : Int32)), iv (3 : Int32), iv (y1 &&& (255 : Int32)), .unset]) rfl ?_
      show Steps p.tables e below (T2.setTop (mkF m 39 #[rv a0_, iv (0 : Int32), iv (y0 &&& (255 : Int32)), iv (3 : Int32), iv (y1 &&& (255 : Int32)), .unset] [])) _
      refine XS.iload X2.here hx rfl (hb hby d2_39) rfl ?_
      show Steps p.tables e below (T2.setTop (mkF m 41 #[rv a0_, iv (0 : Int32), iv (y0 &&& (255 : Int32)), iv (3 : Int32), iv (y1 &&& (255 : Int32)), .unset] [(.int (y1 &&& (255 : Int32)))])) _
      refine st20 _ ?_
      show Steps p.tables e below (T20.setTop (mkF m 44 #[rv a0_, iv (0 : Int32), iv (y0 &&& (255 : Int32)), iv (3 : Int32), iv (y1 &&& (255 : Int32)), .unset] [(.ref sa), (.int (y1 &&& (255 : Int32)))])) _
      refine XS.iloadN X20.here hx rfl (hb hby d2_44) rfl ?_
      show Steps p.tables e below (T20.setTop (mkF m 45 #[rv a0_, iv (0 : Int32), iv (y0 &&& (255 : Int32)), iv (3 : Int32), iv (y1 &&& (255 : Int32)), .unset] [(.int (y0 &&& (255 : Int32))), (.ref sa), (.int (y1 &&& (255 : Int32)))])) _
      refine X20.iaload hx (j := (y0 &&& (255 : Int32))) (v := (.int (own_lo (y0 &&& (255 : Int32))))) (by rw [e20]; exact (hT2.1.ext hO.2).1) (State.isArrayOf_alike hZ.alike hT2.1.2.1) hT2.1.2.2 hin21 (hT2.2.2 _ hin21) (g := (mkF m 45 #[rv a0_, iv (0 : Int32), iv (y0 &&& (255 : Int32)), iv (3 : Int32), iv (y1 &&& (255 : Int32)), .unset] [(.int (y0 &&& (255 : Int32))), (.ref sa), (.int (y1 &&& (255 : Int32)))])) rfl rfl (hb hby d2_45) _ ?_
      exact k
    by_cases hc23 : (y1 &&& (255 : Int32)) < (own_lo (y0 &&& (255 : Int32)))
    · skip
      obtain ⟨fs, hr, hrun, hended, hW, hsame⟩ := X20.leave (v := some (.int (0 : Int32))) (fun h => by rw [Bd.returns] at h; cases h)
      refine ⟨_, _, S22 _ ?_, hrun, hended, _, _, rfl, ?_, ⟨_, rfl⟩, hW, hsame.mono (by decide) (by decide)⟩
      · skip
        show Steps p.tables e below (T20.setTop (mkF m 46 #[rv a0_, iv (0 : Int32), iv (y0 &&& (255 : Int32)), iv (3 : Int32), iv (y1 &&& (255 : Int32)), .unset] [(.int (own_lo (y0 &&& (255 : Int32)))), (.int (y1 &&& (255 : Int32)))])) _
        refine XS.icmpYes X20.here hx rfl (pc0 := 46) (pc' := 59) rfl (hb hby d2_46) rfl (tlt hc23).1 (by decide) (by decide) ?_
        show Steps p.tables e below (T20.setTop (mkF m 59 #[rv a0_, iv (0 : Int32), iv (y0 &&& (255 : Int32)), iv (3 : Int32), iv (y1 &&& (255 : Int32)), .unset] [])) _
        refine XS.iconst X20.here hx rfl (hb hby d2_59) ?_
        show Steps p.tables e below (T20.setTop (mkF m 60 #[rv a0_, iv (0 : Int32), iv (y0 &&& (255 : Int32)), iv (3 : Int32), iv (y1 &&& (255 : Int32)), .unset] [(.int (0 : Int32))])) _
        exact retI X20 hx Bd.returns (hb hby d2_60) hr
      · show QSL03 Z a0_ kk y0 y1 y2 la lc sa sc ta tc h0 n0 _ T20.heap _
        rw [e20]
        exact ⟨(by unfold own_sl3; rw [if_neg hL5, if_neg hL6, if_pos hL17, if_pos hc23]), N0, rfl⟩
    · skip
      obtain ⟨T24, X24, e24, st24⟩ := getS2 X20 hx hZ hown (host := "") (Or.inl (hw _ (List.mem_of_getElem? (i := 16) rfl))) Via.refl e20 (hS3.ext hO.2) (g := (mkF m 51 #[rv a0_, iv (0 : Int32), iv (y0 &&& (255 : Int32)), iv (3 : Int32), iv (y1 &&& (255 : Int32)), .unset] [(.int (y1 &&& (255 : Int32)))])) rfl (hb hby d2_51)
      have hin25 : ¬ ((y0 &&& (255 : Int32)) < 0 ∨ tc.slots.size ≤ ((y0 &&& (255 : Int32))).toNatClampNeg) := inb_of hT3.2.1 (own_255 _)
      have S26 : ∀ t, Steps p.tables e below (T24.setTop (mkF m 56 #[rv a0_, iv (0 : Int32), iv (y0 &&& (255 : Int32)), iv (3 : Int32), iv (y1 &&& (255 : Int32)), .unset] [(.int (own_hi (y0 &&& (255 : Int32)))), (.int (y1 &&& (255 : Int32)))])) t → Steps p.tables e below (s₁.setTop (entryFrame m #[(.ref a0_), (.int (0 : Int32))] 6)) t := by
        intro t k
        refine S22 t ?_
        show Steps p.tables e below (T20.setTop (mkF m 46 #[rv a0_, iv (0 : Int32), iv (y0 &&& (255 : Int32)), iv (3 : Int32), iv (y1 &&& (255 : Int32)), .unset] [(.int (own_lo (y0 &&& (255 : Int32)))), (.int (y1 &&& (255 : Int32)))])) _
        refine XS.icmpNo X20.here hx rfl (hb hby d2_46) rfl (flt hc23).1 ?_
        show Steps p.tables e below (T20.setTop (mkF m 49 #[rv a0_, iv (0 : Int32), iv (y0 &&& (255 : Int32)), iv (3 : Int32), iv (y1 &&& (255 : Int32)), .unset] [])) _
        refine XS.iload X20.here hx rfl (hb hby d2_49) rfl ?_
        show Steps p.tables e below (T20.setTop (mkF m 51 #[rv a0_, iv (0 : Int32), iv (y0 &&& (255 : Int32)), iv (3 : Int32), iv (y1 &&& (255 : Int32)), .unset] [(.int (y1 &&& (255 : Int32)))])) _
        refine st24 _ ?_
        show Steps p.tables e below (T24.setTop (mkF m 54 #[rv a0_, iv (0 : Int32), iv (y0 &&& (255 : Int32)), iv (3 : Int32), iv (y1 &&& (255 : Int32)), .unset] [(.ref ta), (.int (y1 &&& (255 : Int32)))])) _
        refine XS.iloadN X24.here hx rfl (hb hby d2_54) rfl ?_
        show Steps p.tables e below (T24.setTop (mkF m 55 #[rv a0_, iv (0 : Int32), iv (y0 &&& (255 : Int32)), iv (3 : Int32), iv (y1 &&& (255 : Int32)), .unset] [(.int (y0 &&& (255 : Int32))), (.ref ta), (.int (y1 &&& (255 : Int32)))])) _
        refine X24.iaload hx (j := (y0 &&& (255 : Int32))) (v := (.int (own_hi (y0 &&& (255 : Int32))))) (by rw [e24]; exact (hT3.1.ext hO.2).1) (State.isArrayOf_alike hZ.alike hT3.1.2.1) hT3.1.2.2 hin25 (hT3.2.2 _ hin25) (g := (mkF m 55 #[rv a0_, iv (0 : Int32), iv (y0 &&& (255 : Int32)), iv (3 : Int32), iv (y1 &&& (255 : Int32)), .unset] [(.int (y0 &&& (255 : Int32))), (.ref ta), (.int (y1 &&& (255 : Int32)))])) rfl rfl (hb hby d2_55) _ ?_
        exact k
      by_cases hc27 : (own_hi (y0 &&& (255 : Int32))) < (y1 &&& (255 : Int32))
      · skip
        obtain ⟨fs, hr, hrun, hended, hW, hsame⟩ := X24.leave (v := some (.int (0 : Int32))) (fun h => by rw [Bd.returns] at h; cases h)
        refine ⟨_, _, S26 _ ?_, hrun, hended, _, _, rfl, ?_, ⟨_, rfl⟩, hW, hsame.mono (by decide) (by decide)⟩
        · skip
          show Steps p.tables e below (T24.setTop (mkF m 56 #[rv a0_, iv (0 : Int32), iv (y0 &&& (255 : Int32)), iv (3 : Int32), iv (y1 &&& (255 : Int32)), .unset] [(.int (own_hi (y0 &&& (255 : Int32)))), (.int (y1 &&& (255 : Int32)))])) _
          refine XS.icmpNo X24.here hx rfl (hb hby d2_56) rfl (tlt hc27).2.2.2 ?_
          show Steps p.tables e below (T24.setTop (mkF m 59 #[rv a0_, iv (0 : Int32), iv (y0 &&& (255 : Int32)), iv (3 : Int32), iv (y1 &&& (255 : Int32)), .unset] [])) _
          refine XS.iconst X24.here hx rfl (hb hby d2_59) ?_
          show Steps p.tables e below (T24.setTop (mkF m 60 #[rv a0_, iv (0 : Int32), iv (y0 &&& (255 : Int32)), iv (3 : Int32), iv (y1 &&& (255 : Int32)), .unset] [(.int (0 : Int32))])) _
          exact retI X24 hx Bd.returns (hb hby d2_60) hr
        · show QSL03 Z a0_ kk y0 y1 y2 la lc sa sc ta tc h0 n0 _ T24.heap _
          rw [e24]
          exact ⟨(by unfold own_sl3; rw [if_neg hL5, if_neg hL6, if_pos hL17, if_neg hc23, if_pos hc27]), N0, rfl⟩
      · skip
        obtain ⟨cl28, Ar28, qa28, Sa28, Na28, Ha28, Ga28⟩ := id V0
        have hin28 : ¬ ((2 : Int32) < 0 ∨ cl28.slots.size ≤ ((2 : Int32)).toNatClampNeg) := inb_of Sa28 ⟨by decide, by decide⟩
        have S29 : ∀ t, Steps p.tables e below (T24.setTop (mkF m 85 #[rv a0_, iv (0 : Int32), iv (y0 &&& (255 : Int32)), iv (3 : Int32), iv (y1 &&& (255 : Int32)), iv (2 : Int32)] [(.int (128 : Int32)), (.int (y2 &&& (192 : Int32)))])) t → Steps p.tables e below (s₁.setTop (entryFrame m #[(.ref a0_), (.int (0 : Int32))] 6)) t := by
          intro t k
          refine S26 t ?_
          show Steps p.tables e below (T24.setTop (mkF m 56 #[rv a0_, iv (0 : Int32), iv (y0 &&& (255 : Int32)), iv (3 : Int32), iv (y1 &&& (255 : Int32)), .unset] [(.int (own_hi (y0 &&& (255 : Int32)))), (.int (y1 &&& (255 : Int32)))])) _
          refine XS.icmpYes X24.here hx rfl (pc0 := 56) (pc' := 61) rfl (hb hby d2_56) rfl (flt hc27).2.2.2 (by decide) (by decide) ?_
          show Steps p.tables e below (T24.setTop (mkF m 61 #[rv a0_, iv (0 : Int32), iv (y0 &&& (255 : Int32)), iv (3 : Int32), iv (y1 &&& (255 : Int32)), .unset] [])) _
          refine XS.iloadN X24.here hx rfl (hb hby d2_61) rfl ?_
          show Steps p.tables e below (T24.setTop (mkF m 62 #[rv a0_, iv (0 : Int32), iv (y0 &&& (255 : Int32)), iv (3 : Int32), iv (y1 &&& (255 : Int32)), .unset] [(.int (0 : Int32))])) _
          refine XS.iconst X24.here hx rfl (hb hby d2_62) ?_
          show Steps p.tables e below (T24.setTop (mkF m 63 #[rv a0_, iv (0 : Int32), iv (y0 &&& (255 : Int32)), iv (3 : Int32), iv (y1 &&& (255 : Int32)), .unset] [(.int (2 : Int32)), (.int (0 : Int32))])) _
          refine XS.iadd X24.here hx rfl (hb hby d2_63) rfl ?_
          show Steps p.tables e below (T24.setTop (mkF m 64 #[rv a0_, iv (0 : Int32), iv (y0 &&& (255 : Int32)), iv (3 : Int32), iv (y1 &&& (255 : Int32)), .unset] [(.int (2 : Int32))])) _
          refine XS.istore X24.here hx rfl (hb hby d2_64) rfl (l' := #[rv a0_, iv (0 : Int32), iv (y0 &&& (255 : Int32)), iv (3 : Int32), iv (y1 &&& (255 : Int32)), iv (2 : Int32)]) rfl ?_
          show Steps p.tables e below (T24.setTop (mkF m 66 #[rv a0_, iv (0 : Int32), iv (y0 &&& (255 : Int32)), iv (3 : Int32), iv (y1 &&& (255 : Int32)), iv (2 : Int32)] [])) _
          refine XS.iload X24.here hx rfl (hb hby d2_66) rfl ?_
          show Steps p.tables e below (T24.setTop (mkF m 68 #[rv a0_, iv (0 : Int32), iv (y0 &&& (255 : Int32)), iv (3 : Int32), iv (y1 &&& (255 : Int32)), iv (2 : Int32)] [(.int (2 : Int32))])) _
          refine XS.iloadN X24.here hx rfl (hb hby d2_68) rfl ?_
          show Steps p.tables e below (T24.setTop (mkF m 69 #[rv a0_, iv (0 : Int32), iv (y0 &&& (255 : Int32)), iv (3 : Int32), iv (y1 &&& (255 : Int32)), iv (2 : Int32)] [(.int (0 : Int32)), (.int (2 : Int32))])) _
          refine XS.iloadN X24.here hx rfl (hb hby d2_69) rfl ?_
          show Steps p.tables e below (T24.setTop (mkF m 70 #[rv a0_, iv (0 : Int32), iv (y0 &&& (255 : Int32)), iv (3 : Int32), iv (y1 &&& (255 : Int32)), iv (2 : Int32)] [(.int (3 : Int32)), (.int (0 : Int32)), (.int (2 : Int32))])) _
          refine XS.iadd X24.here hx rfl (hb hby d2_70) rfl ?_
          show Steps p.tables e below (T24.setTop (mkF m 71 #[rv a0_, iv (0 : Int32), iv (y0 &&& (255 : Int32)), iv (3 : Int32), iv (y1 &&& (255 : Int32)), iv (2 : Int32)] [(.int (3 : Int32)), (.int (2 : Int32))])) _
          refine XS.icmpNo X24.here hx rfl (hb hby d2_71) rfl (tlt (by decide : (2 : Int32) < (3 : Int32))).2.1 ?_
          show Steps p.tables e below (T24.setTop (mkF m 74 #[rv a0_, iv (0 : Int32), iv (y0 &&& (255 : Int32)), iv (3 : Int32), iv (y1 &&& (255 : Int32)), iv (2 : Int32)] [])) _
          refine XS.aloadN X24.here hx rfl (hb hby d2_74) rfl rfl ?_
          show Steps p.tables e below (T24.setTop (mkF m 75 #[rv a0_, iv (0 : Int32), iv (y0 &&& (255 : Int32)), iv (3 : Int32), iv (y1 &&& (255 : Int32)), iv (2 : Int32)] [(.ref a0_)])) _
          refine XS.iload X24.here hx rfl (hb hby d2_75) rfl ?_
          show Steps p.tables e below (T24.setTop (mkF m 77 #[rv a0_, iv (0 : Int32), iv (y0 &&& (255 : Int32)), iv (3 : Int32), iv (y1 &&& (255 : Int32)), iv (2 : Int32)] [(.int (2 : Int32)), (.ref a0_)])) _
          refine X24.baloadBytes hx (j := (2 : Int32)) (v := (.int y2)) (by rw [e24]; exact Ar28.1) (State.isArrayOf_alike hZ.alike Ar28.2.1) Ar28.2.2 hin28 (Has.at Ha28 hin28 rfl) (g := (mkF m 77 #[rv a0_, iv (0 : Int32), iv (y0 &&& (255 : Int32)), iv (3 : Int32), iv (y1 &&& (255 : Int32)), iv (2 : Int32)] [(.int (2 : Int32)), (.ref a0_)])) rfl rfl (hb hby d2_77) _ ?_
          show Steps p.tables e below (T24.setTop (mkF m 78 #[rv a0_, iv (0 : Int32), iv (y0 &&& (255 : Int32)), iv (3 : Int32), iv (y1 &&& (255 : Int32)), iv (2 : Int32)] [(.int y2)])) _
          refine XS.sipush X24.here hx rfl (hb hby d2_78) ?_
          show Steps p.tables e below (T24.setTop (mkF m 81 #[rv a0_, iv (0 : Int32), iv (y0 &&& (255 : Int32)), iv (3 : Int32), iv (y1 &&& (255 : Int32)), iv (2 : Int32)] [(.int (192 : Int32)), (.int y2)])) _
          refine XS.iand X24.here hx rfl (hb hby d2_81) rfl ?_
          show Steps p.tables e below (T24.setTop (mkF m 82 #[rv a0_, iv (0 : Int32), iv (y0 &&& (255 : Int32)), iv (3 : Int32), iv (y1 &&& (255 : Int32)), iv (2 : Int32)] [(.int (y2 &&& (192 : Int32)))])) _
          refine XS.sipush X24.here hx rfl (hb hby d2_82) ?_
          exact k
        by_cases hc30 : (y2 &&& (192 : Int32)) = (128 : Int32)
        · skip
          obtain ⟨fs, hr, hrun, hended, hW, hsame⟩ := X24.leave (v := some (.int (3 : Int32))) (fun h => by rw [Bd.returns] at h; cases h)
          refine ⟨_, _, S29 _ ?_, hrun, hended, _, _, rfl, ?_, ⟨_, rfl⟩, hW, hsame.mono (by decide) (by decide)⟩
          · skip
            show Steps p.tables e below (T24.setTop (mkF m 85 #[rv a0_, iv (0 : Int32), iv (y0 &&& (255 : Int32)), iv (3 : Int32), iv (y1 &&& (255 : Int32)), iv (2 : Int32)] [(.int (128 : Int32)), (.int (y2 &&& (192 : Int32)))])) _
            refine XS.icmpYes X24.here hx rfl (pc0 := 85) (pc' := 90) rfl (hb hby d2_85) rfl (teq hc30).1 (by decide) (by decide) ?_
            show Steps p.tables e below (T24.setTop (mkF m 90 #[rv a0_, iv (0 : Int32), iv (y0 &&& (255 : Int32)), iv (3 : Int32), iv (y1 &&& (255 : Int32)), iv (2 : Int32)] [])) _
            refine XS.iinc X24.here hx rfl (hb hby d2_90) rfl (l' := #[rv a0_, iv (0 : Int32), iv (y0 &&& (255 : Int32)), iv (3 : Int32), iv (y1 &&& (255 : Int32)), iv (3 : Int32)]) rfl ?_
            show Steps p.tables e below (T24.setTop (mkF m 93 #[rv a0_, iv (0 : Int32), iv (y0 &&& (255 : Int32)), iv (3 : Int32), iv (y1 &&& (255 : Int32)), iv (3 : Int32)] [])) _
            refine XS.goto X24.here hx rfl (pc0 := 93) (pc' := 66) rfl (hb hby d2_93) (by decide) (by decide) ?_
            show Steps p.tables e below (T24.setTop (mkF m 66 #[rv a0_, iv (0 : Int32), iv (y0 &&& (255 : Int32)), iv (3 : Int32), iv (y1 &&& (255 : Int32)), iv (3 : Int32)] [])) _
            refine XS.iload X24.here hx rfl (hb hby d2_66) rfl ?_
            show Steps p.tables e below (T24.setTop (mkF m 68 #[rv a0_, iv (0 : Int32), iv (y0 &&& (255 : Int32)), iv (3 : Int32), iv (y1 &&& (255 : Int32)), iv (3 : Int32)] [(.int (3 : Int32))])) _
            refine XS.iloadN X24.here hx rfl (hb hby d2_68) rfl ?_
            show Steps p.tables e below (T24.setTop (mkF m 69 #[rv a0_, iv (0 : Int32), iv (y0 &&& (255 : Int32)), iv (3 : Int32), iv (y1 &&& (255 : Int32)), iv (3 : Int32)] [(.int (0 : Int32)), (.int (3 : Int32))])) _
            refine XS.iloadN X24.here hx rfl (hb hby d2_69) rfl ?_
            show Steps p.tables e below (T24.setTop (mkF m 70 #[rv a0_, iv (0 : Int32), iv (y0 &&& (255 : Int32)), iv (3 : Int32), iv (y1 &&& (255 : Int32)), iv (3 : Int32)] [(.int (3 : Int32)), (.int (0 : Int32)), (.int (3 : Int32))])) _
            refine XS.iadd X24.here hx rfl (hb hby d2_70) rfl ?_
            show Steps p.tables e below (T24.setTop (mkF m 71 #[rv a0_, iv (0 : Int32), iv (y0 &&& (255 : Int32)), iv (3 : Int32), iv (y1 &&& (255 : Int32)), iv (3 : Int32)] [(.int (3 : Int32)), (.int (3 : Int32))])) _
            refine XS.icmpYes X24.here hx rfl (pc0 := 71) (pc' := 96) rfl (hb hby d2_71) rfl (flt (by decide : ¬ ((3 : Int32) < (3 : Int32)))).2.1 (by decide) (by decide) ?_
            show Steps p.tables e below (T24.setTop (mkF m 96 #[rv a0_, iv (0 : Int32), iv (y0 &&& (255 : Int32)), iv (3 : Int32), iv (y1 &&& (255 : Int32)), iv (3 : Int32)] [])) _
            refine XS.iloadN X24.here hx rfl (hb hby d2_96) rfl ?_
            show Steps p.tables e below (T24.setTop (mkF m 97 #[rv a0_, iv (0 : Int32), iv (y0 &&& (255 : Int32)), iv (3 : Int32), iv (y1 &&& (255 : Int32)), iv (3 : Int32)] [(.int (3 : Int32))])) _
            exact retI X24 hx Bd.returns (hb hby d2_97) hr
          · show QSL03 Z a0_ kk y0 y1 y2 la lc sa sc ta tc h0 n0 _ T24.heap _
            rw [e24]
            exact ⟨(by unfold own_sl3; rw [if_neg hL5, if_neg hL6, if_pos hL17, if_neg hc23, if_neg hc27, if_pos hc30]), N0, rfl⟩
        · skip
          obtain ⟨fs, hr, hrun, hended, hW, hsame⟩ := X24.leave (v := some (.int (0 : Int32))) (fun h => by rw [Bd.returns] at h; cases h)
          refine ⟨_, _, S29 _ ?_, hrun, hended, _, _, rfl, ?_, ⟨_, rfl⟩, hW, hsame.mono (by decide) (by decide)⟩
          · skip
            show Steps p.tables e below (T24.setTop (mkF m 85 #[rv a0_, iv (0 : Int32), iv (y0 &&& (255 : Int32)), iv (3 : Int32), iv (y1 &&& (255 : Int32)), iv (2 : Int32)] [(.int (128 : Int32)), (.int (y2 &&& (192 : Int32)))])) _
            refine XS.icmpNo X24.here hx rfl (hb hby d2_85) rfl (feq hc30).1 ?_
            show Steps p.tables e below (T24.setTop (mkF m 88 #[rv a0_, iv (0 : Int32), iv (y0 &&& (255 : Int32)), iv (3 : Int32), iv (y1 &&& (255 : Int32)), iv (2 : Int32)] [])) _
            refine XS.iconst X24.here hx rfl (hb hby d2_88) ?_
            show Steps p.tables e below (T24.setTop (mkF m 89 #[rv a0_, iv (0 : Int32), iv (y0 &&& (255 : Int32)), iv (3 : Int32), iv (y1 &&& (255 : Int32)), iv (2 : Int32)] [(.int (0 : Int32))])) _
            exact retI X24 hx Bd.returns (hb hby d2_89) hr
          · show QSL03 Z a0_ kk y0 y1 y2 la lc sa sc ta tc h0 n0 _ T24.heap _
            rw [e24]
            exact ⟨(by unfold own_sl3; rw [if_neg hL5, if_neg hL6, if_pos hL17, if_neg hc23, if_neg hc27, if_neg hc30]), N0, rfl⟩
  have hL31 := own_L4 _ hL5 hL6 hL17
  rw [hL31] at S4
  obtain ⟨cl32, Ar32, qa32, Sa32, Na32, Ha32, Ga32⟩ := id V0
  obtain ⟨fs, hr, hrun, hended, hW, hsame⟩ := X2.leave (v := some (.int (0 : Int32))) (fun h => by rw [Bd.returns] at h; cases h)
  refine ⟨_, _, S4 _ ?_, hrun, hended, _, _, rfl, ?_, ⟨_, rfl⟩, hW, hsame.mono (by decide) (by decide)⟩
  · skip
    show Steps p.tables e below (T2.setTop (mkF m 14 #[rv a0_, iv (0 : Int32), iv (y0 &&& (255 : Int32)), iv (4 : Int32), .unset, .unset] [])) _
    refine XS.iloadN X2.here hx rfl (hb hby d2_14) rfl ?_
    show Steps p.tables e below (T2.setTop (mkF m 15 #[rv a0_, iv (0 : Int32), iv (y0 &&& (255 : Int32)), iv (4 : Int32), .unset, .unset] [(.int (4 : Int32))])) _
    refine XS.ifNo X2.here hx rfl (hb hby d2_15) rfl ((if0 _ _).trans (feq (by decide : ¬ ((4 : Int32) = (0 : Int32)))).1) ?_
    show Steps p.tables e below (T2.setTop (mkF m 18 #[rv a0_, iv (0 : Int32), iv (y0 &&& (255 : Int32)), iv (4 : Int32), .unset, .unset] [])) _
    refine XS.iloadN X2.here hx rfl (hb hby d2_18) rfl ?_
    show Steps p.tables e below (T2.setTop (mkF m 19 #[rv a0_, iv (0 : Int32), iv (y0 &&& (255 : Int32)), iv (4 : Int32), .unset, .unset] [(.int (0 : Int32))])) _
    refine XS.iloadN X2.here hx rfl (hb hby d2_19) rfl ?_
    show Steps p.tables e below (T2.setTop (mkF m 20 #[rv a0_, iv (0 : Int32), iv (y0 &&& (255 : Int32)), iv (4 : Int32), .unset, .unset] [(.int (4 : Int32)), (.int (0 : Int32))])) _
    refine XS.iadd X2.here hx rfl (hb hby d2_20) rfl ?_
    show Steps p.tables e below (T2.setTop (mkF m 21 #[rv a0_, iv (0 : Int32), iv (y0 &&& (255 : Int32)), iv (4 : Int32), .unset, .unset] [(.int (4 : Int32))])) _
    refine XS.aloadN X2.here hx rfl (hb hby d2_21) rfl rfl ?_
    show Steps p.tables e below (T2.setTop (mkF m 22 #[rv a0_, iv (0 : Int32), iv (y0 &&& (255 : Int32)), iv (4 : Int32), .unset, .unset] [(.ref a0_), (.int (4 : Int32))])) _
    refine X2.arraylength hx (by rw [e2]; exact Ar32.1) (State.isArrayOf_alike hZ.alike Ar32.2.1) (g := (mkF m 22 #[rv a0_, iv (0 : Int32), iv (y0 &&& (255 : Int32)), iv (4 : Int32), .unset, .unset] [(.ref a0_), (.int (4 : Int32))])) rfl rfl (hb hby d2_22) _ ?_
    rw [len_of Sa32 Na32]
    show Steps p.tables e below (T2.setTop (mkF m 23 #[rv a0_, iv (0 : Int32), iv (y0 &&& (255 : Int32)), iv (4 : Int32), .unset, .unset] [(.int (3 : Int32)), (.int (4 : Int32))])) _
    refine XS.icmpNo X2.here hx rfl (hb hby d2_23) rfl (tlt (by decide : (3 : Int32) < (4 : Int32))).2.2.2 ?_
    show Steps p.tables e below (T2.setTop (mkF m 26 #[rv a0_, iv (0 : Int32), iv (y0 &&& (255 : Int32)), iv (4 : Int32), .unset, .unset] [])) _
    refine XS.iconst X2.here hx rfl (hb hby d2_26) ?_
    show Steps p.tables e below (T2.setTop (mkF m 27 #[rv a0_, iv (0 : Int32), iv (y0 &&& (255 : Int32)), iv (4 : Int32), .unset, .unset] [(.int (0 : Int32))])) _
    exact retI X2 hx Bd.returns (hb hby d2_27) hr
  · show QSL03 Z a0_ kk y0 y1 y2 la lc sa sc ta tc h0 n0 _ T2.heap _
    rw [e2]
    exact ⟨(by unfold own_sl3; rw [if_neg hL5, if_neg hL6, if_neg hL17]), N0, rfl⟩
def own_sl4 (y0 : Int32) (y1 : Int32) (y2 : Int32) (y3 : Int32) : Int32 := if (own_L (y0 &&& (255 : Int32))) = (0 : Int32) then (0 : Int32) else (if (own_L (y0 &&& (255 : Int32))) = (2 : Int32) then (if (y1 &&& (255 : Int32)) < (own_lo (y0 &&& (255 : Int32))) then (0 : Int32) else (if (own_hi (y0 &&& (255 : Int32))) < (y1 &&& (255 : Int32)) then (0 : Int32) else (2 : Int32))) else (if (own_L (y0 &&& (255 : Int32))) = (3 : Int32) then (if (y1 &&& (255 : Int32)) < (own_lo (y0 &&& (255 : Int32))) then (0 : Int32) else (if (own_hi (y0 &&& (255 : Int32))) < (y1 &&& (255 : Int32)) then (0 : Int32) else (if (y2 &&& (192 : Int32)) = (128 : Int32) then (3 : Int32) else (0 : Int32)))) else (if (y1 &&& (255 : Int32)) < (own_lo (y0 &&& (255 : Int32))) then (0 : Int32) else (if (own_hi (y0 &&& (255 : Int32))) < (y1 &&& (255 : Int32)) then (0 : Int32) else (if (y2 &&& (192 : Int32)) = (128 : Int32) then (if (y3 &&& (192 : Int32)) = (128 : Int32) then (4 : Int32) else (0 : Int32)) else (0 : Int32))))))
def QSL04 (Z : State) (a0_ : Addr) (kk : ClassId) (y0 : Int32) (y1 : Int32) (y2 : Int32) (y3 : Int32) (la : Addr) (lc : Cell) (sa : Addr) (sc : Cell) (ta : Addr) (tc : Cell) (h0 : Heap) (n0 : Nat) (v : Option Value) (h : Heap) (L : List Loc) : Prop := v = some (.int (own_sl4 y0 y1 y2 y3)) ∧ Fr n0 L ∧ h = h0
theorem ef_rmSL04 (m : MethodId) (a0_ : Addr) : entryFrame m #[(.ref a0_), (.int (0 : Int32))] 6 = mkF m 0 #[rv a0_, iv (0 : Int32), .unset, .unset, .unset, .unset] [] := by first | (simp [entryFrame, mkF, argsToLocals, Value.category]; done) | rfl
set_option maxRecDepth 65536 in
set_option maxHeartbeats 40000000 in
theorem rmSL04 (l : Launch) (Z : State) (a0 : Array Value) (hw : ∀ d ∈ tables_1, d.before a0 Z = true) (ws : List Jvm.Cond) (a0_ : Addr) (kk : ClassId) (y0 : Int32) (y1 : Int32) (y2 : Int32) (y3 : Int32) (la : Addr) (lc : Cell) (sa : Addr) (sc : Cell) (ta : Addr) (tc : Cell) (h0 : Heap) (n0 : Nat) (Z0 : n0 ≤ h0.size) (V0 : Arv Z h0 a0_ kk .byte (4 : Int32) [(.int y0), (.int y1), (.int y2), (.int y3)] (.int (0 : Int32))) (hO : Old Z n0 h0) (hS1 : Sta Z Z.heap "com/example/rivanna/rivanna/core/json/Utf8" "LENGTH" "[I" (.ref la)) (hT1 : own_Tab Z la lc own_L) (hS2 : Sta Z Z.heap "com/example/rivanna/rivanna/core/json/Utf8" "SECOND_LOW" "[I" (.ref sa)) (hT2 : own_Tab Z sa sc own_lo) (hS3 : Sta Z Z.heap "com/example/rivanna/rivanna/core/json/Utf8" "SECOND_HIGH" "[I" (.ref ta)) (hT3 : own_Tab Z ta tc own_hi) :
    MetFree l (⟨"com/example/rivanna/rivanna/core/json/Utf8", "sequenceLength", "([BI)I"⟩ : MethodName) (head1 (Jvm.Cond.code (⟨"com/example/rivanna/rivanna/core/json/Utf8", "sequenceLength", "([BI)I"⟩ : MethodName) prog_28_method_3_code 6 (some .int) :: ws) ({ frames := 0, cells := 0, slots := 0, locals := 0 } : Room)) (fun a U => a = #[(.ref a0_), (.int (0 : Int32))] ∧ Z.Warmed39 U.vm ∧ U.heap = h0) (fun _ _ _ _ _ => True) (fun _ U o U' => ∃ v L, o = .returned v ∧ QSL04 Z a0_ kk y0 y1 y2 y3 la lc sa sc ta tc h0 n0 v U'.heap L ∧ FrameEnd U o U' L ({ frames := 0, cells := 0, slots := 0, locals := 0 } : Room).cells ({ frames := 0, cells := 0, slots := 0, locals := 0 } : Room).slots) := by
  refine MetFree.of_bodySF (plainFor_of_name pn_1) hisR ?_
  intro p e s m args below meth c s₁ Bd hml0 hP hK
  obtain ⟨rfl, hZ, hh⟩ := hP
  have hx := Bd.exec
  have hby := Bd.bytes
  have hml : c.maxLocals = 6 := hml0
  have hown : s.vm.findClass "com/example/rivanna/rivanna/core/json/Utf8" = some m.cls := findClass_of_methodNamed Bd.named
  have hnm := (name_of_methodNamed Bd.named Bd.method).1
  have X0 : Stand p l e ({ frames := 0, cells := 0, slots := 0, locals := 0 } : Room) s m #[(.ref a0_), (.int (0 : Int32))] below meth c s₁ [] 0 0 := Stand.of_body Bd
  have e0 : s₁.heap = h0 := by rw [← hh, Bd.state]; rfl
  have N0 := Fr.nil n0
  have S0 : ∀ t, Steps p.tables e below (s₁.setTop (mkF m 0 #[rv a0_, iv (0 : Int32), .unset, .unset, .unset, .unset] [])) t → Steps p.tables e below (s₁.setTop (entryFrame m #[(.ref a0_), (.int (0 : Int32))] 6)) t := fun t k => castTop (ef_rmSL04 m a0_) k
  obtain ⟨cl1, Ar1, qa1, Sa1, Na1, Ha1, Ga1⟩ := id V0
  have hin1 : ¬ ((0 : Int32) < 0 ∨ cl1.slots.size ≤ ((0 : Int32)).toNatClampNeg) := inb_of Sa1 ⟨by decide, by decide⟩
  obtain ⟨T2, X2, e2, st2⟩ := getS2 X0 hx hZ hown (host := "") (Or.inl (hw _ (List.mem_of_getElem? (i := 9) rfl))) Via.refl e0 (hS1.ext hO.2) (g := (mkF m 8 #[rv a0_, iv (0 : Int32), iv (y0 &&& (255 : Int32)), .unset, .unset, .unset] [])) rfl (hb hby d2_8)
  have hin3 : ¬ ((y0 &&& (255 : Int32)) < 0 ∨ lc.slots.size ≤ ((y0 &&& (255 : Int32))).toNatClampNeg) := inb_of hT1.2.1 (own_255 _)
  have S4 : ∀ t, Steps p.tables e below (T2.setTop (mkF m 14 #[rv a0_, iv (0 : Int32), iv (y0 &&& (255 : Int32)), iv (own_L (y0 &&& (255 : Int32))), .unset, .unset] [])) t → Steps p.tables e below (s₁.setTop (entryFrame m #[(.ref a0_), (.int (0 : Int32))] 6)) t := by
    intro t k
    refine S0 t ?_
    show Steps p.tables e below (s₁.setTop (mkF m 0 #[rv a0_, iv (0 : Int32), .unset, .unset, .unset, .unset] [])) _
    refine XS.aloadN X0.here hx rfl (hb hby d2_0) rfl rfl ?_
    show Steps p.tables e below (s₁.setTop (mkF m 1 #[rv a0_, iv (0 : Int32), .unset, .unset, .unset, .unset] [(.ref a0_)])) _
    refine XS.iloadN X0.here hx rfl (hb hby d2_1) rfl ?_
    show Steps p.tables e below (s₁.setTop (mkF m 2 #[rv a0_, iv (0 : Int32), .unset, .unset, .unset, .unset] [(.int (0 : Int32)), (.ref a0_)])) _
    refine X0.baloadBytes hx (j := (0 : Int32)) (v := (.int y0)) (by rw [e0]; exact Ar1.1) (State.isArrayOf_alike hZ.alike Ar1.2.1) Ar1.2.2 hin1 (Has.at Ha1 hin1 rfl) (g := (mkF m 2 #[rv a0_, iv (0 : Int32), .unset, .unset, .unset, .unset] [(.int (0 : Int32)), (.ref a0_)])) rfl rfl (hb hby d2_2) _ ?_
    show Steps p.tables e below (s₁.setTop (mkF m 3 #[rv a0_, iv (0 : Int32), .unset, .unset, .unset, .unset] [(.int y0)])) _
    refine XS.sipush X0.here hx rfl (hb hby d2_3) ?_
    show Steps p.tables e below (s₁.setTop (mkF m 6 #[rv a0_, iv (0 : Int32), .unset, .unset, .unset, .unset] [(.int (255 : Int32)), (.int y0)])) _
    refine XS.iand X0.here hx rfl (hb hby d2_6) rfl ?_
    show Steps p.tables e below (s₁.setTop (mkF m 7 #[rv a0_, iv (0 : Int32), .unset, .unset, .unset, .unset] [(.int (y0 &&& (255 : Int32)))])) _
    refine XS.istoreN X0.here hx rfl (hb hby d2_7) rfl (l' := #[rv a0_, iv (0 : Int32), iv (y0 &&& (255 : Int32)), .unset, .unset, .unset]) rfl ?_
    show Steps p.tables e below (s₁.setTop (mkF m 8 #[rv a0_, iv (0 : Int32), iv (y0 &&& (255 : Int32)), .unset, .unset, .unset] [])) _
    refine st2 _ ?_
    show Steps p.tables e below (T2.setTop (mkF m 11 #[rv a0_, iv (0 : Int32), iv (y0 &&& (255 : Int32)), .unset, .unset, .unset] [(.ref la)])) _
    refine XS.iloadN X2.here hx rfl (hb hby d2_11) rfl ?_
    show Steps p.tables e below (T2.setTop (mkF m 12 #[rv a0_, iv (0 : Int32), iv (y0 &&& (255 : Int32)), .unset, .unset, .unset] [(.int (y0 &&& (255 : Int32))), (.ref la)])) _
    refine X2.iaload hx (j := (y0 &&& (255 : Int32))) (v := (.int (own_L (y0 &&& (255 : Int32))))) (by rw [e2]; exact (hT1.1.ext hO.2).1) (State.isArrayOf_alike hZ.alike hT1.1.2.1) hT1.1.2.2 hin3 (hT1.2.2 _ hin3) (g := (mkF m 12 #[rv a0_, iv (0 : Int32), iv (y0 &&& (255 : Int32)), .unset, .unset, .unset] [(.int (y0 &&& (255 : Int32))), (.ref la)])) rfl rfl (hb hby d2_12) _ ?_
    show Steps p.tables e below (T2.setTop (mkF m 13 #[rv a0_, iv (0 : Int32), iv (y0 &&& (255 : Int32)), .unset, .unset, .unset] [(.int (own_L (y0 &&& (255 : Int32))))])) _
    refine XS.istoreN X2.here hx rfl (hb hby d2_13) rfl (l' := #[rv a0_, iv (0 : Int32), iv (y0 &&& (255 : Int32)), iv (own_L (y0 &&& (255 : Int32))), .unset, .unset]) rfl ?_
    exact k
  by_cases hL5 : (own_L (y0 &&& (255 : Int32))) = (0 : Int32)
  · skip
    rw [hL5] at S4
    obtain ⟨fs, hr, hrun, hended, hW, hsame⟩ := X2.leave (v := some (.int (0 : Int32))) (fun h => by rw [Bd.returns] at h; cases h)
    refine ⟨_, _, S4 _ ?_, hrun, hended, _, _, rfl, ?_, ⟨_, rfl⟩, hW, hsame.mono (by decide) (by decide)⟩
    · skip
      show Steps p.tables e below (T2.setTop (mkF m 14 #[rv a0_, iv (0 : Int32), iv (y0 &&& (255 : Int32)), iv (0 : Int32), .unset, .unset] [])) _
      refine XS.iloadN X2.here hx rfl (hb hby d2_14) rfl ?_
      show Steps p.tables e below (T2.setTop (mkF m 15 #[rv a0_, iv (0 : Int32), iv (y0 &&& (255 : Int32)), iv (0 : Int32), .unset, .unset] [(.int (0 : Int32))])) _
      refine XS.ifYes X2.here hx rfl (pc0 := 15) (pc' := 26) rfl (hb hby d2_15) rfl ((if0 _ _).trans (teq (by decide : (0 : Int32) = (0 : Int32))).1) (by decide) (by decide) ?_
      show Steps p.tables e below (T2.setTop (mkF m 26 #[rv a0_, iv (0 : Int32), iv (y0 &&& (255 : Int32)), iv (0 : Int32), .unset, .unset] [])) _
      refine XS.iconst X2.here hx rfl (hb hby d2_26) ?_
      show Steps p.tables e below (T2.setTop (mkF m 27 #[rv a0_, iv (0 : Int32), iv (y0 &&& (255 : Int32)), iv (0 : Int32), .unset, .unset] [(.int (0 : Int32))])) _
      exact retI X2 hx Bd.returns (hb hby d2_27) hr
    · show QSL04 Z a0_ kk y0 y1 y2 y3 la lc sa sc ta tc h0 n0 _ T2.heap _
      rw [e2]
      exact ⟨(by unfold own_sl4; rw [if_pos hL5]), N0, rfl⟩
  by_cases hL6 : (own_L (y0 &&& (255 : Int32))) = (2 : Int32)
  · skip
    rw [hL6] at S4
    obtain ⟨cl7, Ar7, qa7, Sa7, Na7, Ha7, Ga7⟩ := id V0
    obtain ⟨cl8, Ar8, qa8, Sa8, Na8, Ha8, Ga8⟩ := id V0
    have hin8 : ¬ ((1 : Int32) < 0 ∨ cl8.slots.size ≤ ((1 : Int32)).toNatClampNeg) := inb_of Sa8 ⟨by decide, by decide⟩
    obtain ⟨T9, X9, e9, st9⟩ := getS2 X2 hx hZ hown (host := "") (Or.inl (hw _ (List.mem_of_getElem? (i := 14) rfl))) Via.refl e2 (hS2.ext hO.2) (g := (mkF m 41 #[rv a0_, iv (0 : Int32), iv (y0 &&& (255 : Int32)), iv (2 : Int32), iv (y1 &&& (255 : Int32)), .unset] [(.int (y1 &&& (255 : Int32)))])) rfl (hb hby d2_41)
    have hin10 : ¬ ((y0 &&& (255 : Int32)) < 0 ∨ sc.slots.size ≤ ((y0 &&& (255 : Int32))).toNatClampNeg) := inb_of hT2.2.1 (own_255 _)
    have S11 : ∀ t, Steps p.tables e below (T9.setTop (mkF m 46 #[rv a0_, iv (0 : Int32), iv (y0 &&& (255 : Int32)), iv (2 : Int32), iv (y1 &&& (255 : Int32)), .unset] [(.int (own_lo (y0 &&& (255 : Int32)))), (.int (y1 &&& (255 : Int32)))])) t → Steps p.tables e below (s₁.setTop (entryFrame m #[(.ref a0_), (.int (0 : Int32))] 6)) t := by
      intro t k
      refine S4 t ?_
      show Steps p.tables e below (T2.setTop (mkF m 14 #[rv a0_, iv (0 : Int32), iv (y0 &&& (255 : Int32)), iv (2 : Int32), .unset, .unset] [])) _
      refine XS.iloadN X2.here hx rfl (hb hby d2_14) rfl ?_
      show Steps p.tables e below (T2.setTop (mkF m 15 #[rv a0_, iv (0 : Int32), iv (y0 &&& (255 : Int32)), iv (2 : Int32), .unset, .unset] [(.int (2 : Int32))])) _
      refine XS.ifNo X2.here hx rfl (hb hby d2_15) rfl ((if0 _ _).trans (feq (by decide : ¬ ((2 : Int32) = (0 : Int32)))).1) ?_
      show Steps p.tables e below (T2.setTop (mkF m 18 #[rv a0_, iv (0 : Int32), iv (y0 &&& (255 : Int32)), iv (2 : Int32), .unset, .unset] [])) _
      refine XS.iloadN X2.here hx rfl (hb hby d2_18) rfl ?_
      show Steps p.tables e below (T2.setTop (mkF m 19 #[rv a0_, iv (0 : Int32), iv (y0 &&& (255 : Int32)), iv (2 : Int32), .unset, .unset] [(.int (0 : Int32))])) _
      refine XS.iloadN X2.here hx rfl (hb hby d2_19) rfl ?_
      show Steps p.tables e below (T2.setTop (mkF m 20 #[rv a0_, iv (0 : Int32), iv (y0 &&& (255 : Int32)), iv (2 : Int32), .unset, .unset] [(.int (2 : Int32)), (.int (0 : Int32))])) _
      refine XS.iadd X2.here hx rfl (hb hby d2_20) rfl ?_
      show Steps p.tables e below (T2.setTop (mkF m 21 #[rv a0_, iv (0 : Int32), iv (y0 &&& (255 : Int32)), iv (2 : Int32), .unset, .unset] [(.int (2 : Int32))])) _
      refine XS.aloadN X2.here hx rfl (hb hby d2_21) rfl rfl ?_
      show Steps p.tables e below (T2.setTop (mkF m 22 #[rv a0_, iv (0 : Int32), iv (y0 &&& (255 : Int32)), iv (2 : Int32), .unset, .unset] [(.ref a0_), (.int (2 : Int32))])) _
      refine X2.arraylength hx (by rw [e2]; exact Ar7.1) (State.isArrayOf_alike hZ.alike Ar7.2.1) (g := (mkF m 22 #[rv a0_, iv (0 : Int32), iv (y0 &&& (255 : Int32)), iv (2 : Int32), .unset, .unset] [(.ref a0_), (.int (2 : Int32))])) rfl rfl (hb hby d2_22) _ ?_
      rw [len_of Sa7 Na7]
      show Steps p.tables e below (T2.setTop (mkF m 23 #[rv a0_, iv (0 : Int32), iv (y0 &&& (255 : Int32)), iv (2 : Int32), .unset, .unset] [(.int (4 : Int32)), (.int (2 : Int32))])) _
      refine XS.icmpYes X2.here hx rfl (pc0 := 23) (pc' := 28) rfl (hb hby d2_23) rfl (flt (by decide : ¬ ((4 : Int32) < (2 : Int32)))).2.2.2 (by decide) (by decide) ?_
      show Steps p.tables e below (T2.setTop (mkF m 28 #[rv a0_, iv (0 : Int32), iv (y0 &&& (255 : Int32)), iv (2 : Int32), .unset, .unset] [])) _
      refine XS.aloadN X2.here hx rfl (hb hby d2_28) rfl rfl ?_
      show Steps p.tables e below (T2.setTop (mkF m 29 #[rv a0_, iv (0 : Int32), iv (y0 &&& (255 : Int32)), iv (2 : Int32), .unset, .unset] [(.ref a0_)])) _
      refine XS.iloadN X2.here hx rfl (hb hby d2_29) rfl ?_
      show Steps p.tables e below (T2.setTop (mkF m 30 #[rv a0_, iv (0 : Int32), iv (y0 &&& (255 : Int32)), iv (2 : Int32), .unset, .unset] [(.int (0 : Int32)), (.ref a0_)])) _
      refine XS.iconst X2.here hx rfl (hb hby d2_30) ?_
      show Steps p.tables e below (T2.setTop (mkF m 31 #[rv a0_, iv (0 : Int32), iv (y0 &&& (255 : Int32)), iv (2 : Int32), .unset, .unset] [(.int (1 : Int32)), (.int (0 : Int32)), (.ref a0_)])) _
      refine XS.iadd X2.here hx rfl (hb hby d2_31) rfl ?_
      show Steps p.tables e below (T2.setTop (mkF m 32 #[rv a0_, iv (0 : Int32), iv (y0 &&& (255 : Int32)), iv (2 : Int32), .unset, .unset] [(.int (1 : Int32)), (.ref a0_)])) _
      refine X2.baloadBytes hx (j := (1 : Int32)) (v := (.int y1)) (by rw [e2]; exact Ar8.1) (State.isArrayOf_alike hZ.alike Ar8.2.1) Ar8.2.2 hin8 (Has.at Ha8 hin8 rfl) (g := (mkF m 32 #[rv a0_, iv (0 : Int32), iv (y0 &&& (255 : Int32)), iv (2 : Int32), .unset, .unset] [(.int (1 : Int32)), (.ref a0_)])) rfl rfl (hb hby d2_32) _ ?_
      show Steps p.tables e below (T2.setTop (mkF m 33 #[rv a0_, iv (0 : Int32), iv (y0 &&& (255 : Int32)), iv (2 : Int32), .unset, .unset] [(.int y1)])) _
      refine XS.sipush X2.here hx rfl (hb hby d2_33) ?_
      show Steps p.tables e below (T2.setTop (mkF m 36 #[rv a0_, iv (0 : Int32), iv (y0 &&& (255 : Int32)), iv (2 : Int32), .unset, .unset] [(.int (255 : Int32)), (.int y1)])) _
      refine XS.iand X2.here hx rfl (hb hby d2_36) rfl ?_
      show Steps p.tables e below (T2.setTop (mkF m 37 #[rv a0_, iv (0 : Int32), iv (y0 &&& (255 : Int32)), iv (2 : Int32), .unset, .unset] [(.int (y1 &&& (255 : Int32)))])) _
      refine XS.istore X2.here hx rfl (hb hby d2_37) rfl (l' := #[rv a0_, iv (0 : Int32), iv (y0 &&& (255 : Int32)), iv (2 : Int32), iv (y1 &&& (255 : Int32)), .unset]) rfl ?_
      show Steps p.tables e below (T2.setTop (mkF m 39 #[rv a0_, iv (0 : Int32), iv (y0 &&& (255 : Int32)), iv (2 : Int32), iv (y1 &&& (255 : Int32)), .unset] [])) _
      refine XS.iload X2.here hx rfl (hb hby d2_39) rfl ?_
      show Steps p.tables e below (T2.setTop (mkF m 41 #[rv a0_, iv (0 : Int32), iv (y0 &&& (255 : Int32)), iv (2 : Int32), iv (y1 &&& (255 : Int32)), .unset] [(.int (y1 &&& (255 : Int32)))])) _
      refine st9 _ ?_
      show Steps p.tables e below (T9.setTop (mkF m 44 #[rv a0_, iv (0 : Int32), iv (y0 &&& (255 : Int32)), iv (2 : Int32), iv (y1 &&& (255 : Int32)), .unset] [(.ref sa), (.int (y1 &&& (255 : Int32)))])) _
      refine XS.iloadN X9.here hx rfl (hb hby d2_44) rfl ?_
      show Steps p.tables e below (T9.setTop (mkF m 45 #[rv a0_, iv (0 : Int32), iv (y0 &&& (255 : Int32)), iv (2 : Int32), iv (y1 &&& (255 : Int32)), .unset] [(.int (y0 &&& (255 : Int32))), (.ref sa), (.int (y1 &&& (255 : Int32)))])) _
      refine X9.iaload hx (j := (y0 &&& (255 : Int32))) (v := (.int (own_lo (y0 &&& (255 : Int32))))) (by rw [e9]; exact (hT2.1.ext hO.2).1) (State.isArrayOf_alike hZ.alike hT2.1.2.1) hT2.1.2.2 hin10 (hT2.2.2 _ hin10) (g := (mkF m 45 #[rv a0_, iv (0 : Int32), iv (y0 &&& (255 : Int32)), iv (2 : Int32), iv (y1 &&& (255 : Int32)), .unset] [(.int (y0 &&& (255 : Int32))), (.ref sa), (.int (y1 &&& (255 : Int32)))])) rfl rfl (hb hby d2_45) _ ?_
      exact k
    by_cases hc12 : (y1 &&& (255 : Int32)) < (own_lo (y0 &&& (255 : Int32)))
    · skip
      obtain ⟨fs, hr, hrun, hended, hW, hsame⟩ := X9.leave (v := some (.int (0 : Int32))) (fun h => by rw [Bd.returns] at h; cases h)
      refine ⟨_, _, S11 _ ?_, hrun, hended, _, _, rfl, ?_, ⟨_, rfl⟩, hW, hsame.mono (by decide) (by decide)⟩
      · skip
        show Steps p.tables e below (T9.setTop (mkF m 46 #[rv a0_, iv (0 : Int32), iv (y0 &&& (255 : Int32)), iv (2 : Int32), iv (y1 &&& (255 : Int32)), .unset] [(.int (own_lo (y0 &&& (255 : Int32)))), (.int (y1 &&& (255 : Int32)))])) _
        refine XS.icmpYes X9.here hx rfl (pc0 := 46) (pc' := 59) rfl (hb hby d2_46) rfl (tlt hc12).1 (by decide) (by decide) ?_
        show Steps p.tables e below (T9.setTop (mkF m 59 #[rv a0_, iv (0 : Int32), iv (y0 &&& (255 : Int32)), iv (2 : Int32), iv (y1 &&& (255 : Int32)), .unset] [])) _
        refine XS.iconst X9.here hx rfl (hb hby d2_59) ?_
        show Steps p.tables e below (T9.setTop (mkF m 60 #[rv a0_, iv (0 : Int32), iv (y0 &&& (255 : Int32)), iv (2 : Int32), iv (y1 &&& (255 : Int32)), .unset] [(.int (0 : Int32))])) _
        exact retI X9 hx Bd.returns (hb hby d2_60) hr
      · show QSL04 Z a0_ kk y0 y1 y2 y3 la lc sa sc ta tc h0 n0 _ T9.heap _
        rw [e9]
        exact ⟨(by unfold own_sl4; rw [if_neg hL5, if_pos hL6, if_pos hc12]), N0, rfl⟩
    · skip
      obtain ⟨T13, X13, e13, st13⟩ := getS2 X9 hx hZ hown (host := "") (Or.inl (hw _ (List.mem_of_getElem? (i := 16) rfl))) Via.refl e9 (hS3.ext hO.2) (g := (mkF m 51 #[rv a0_, iv (0 : Int32), iv (y0 &&& (255 : Int32)), iv (2 : Int32), iv (y1 &&& (255 : Int32)), .unset] [(.int (y1 &&& (255 : Int32)))])) rfl (hb hby d2_51)
      have hin14 : ¬ ((y0 &&& (255 : Int32)) < 0 ∨ tc.slots.size ≤ ((y0 &&& (255 : Int32))).toNatClampNeg) := inb_of hT3.2.1 (own_255 _)
      have S15 : ∀ t, Steps p.tables e below (T13.setTop (mkF m 56 #[rv a0_, iv (0 : Int32), iv (y0 &&& (255 : Int32)), iv (2 : Int32), iv (y1 &&& (255 : Int32)), .unset] [(.int (own_hi (y0 &&& (255 : Int32)))), (.int (y1 &&& (255 : Int32)))])) t → Steps p.tables e below (s₁.setTop (entryFrame m #[(.ref a0_), (.int (0 : Int32))] 6)) t := by
        intro t k
        refine S11 t ?_
        show Steps p.tables e below (T9.setTop (mkF m 46 #[rv a0_, iv (0 : Int32), iv (y0 &&& (255 : Int32)), iv (2 : Int32), iv (y1 &&& (255 : Int32)), .unset] [(.int (own_lo (y0 &&& (255 : Int32)))), (.int (y1 &&& (255 : Int32)))])) _
        refine XS.icmpNo X9.here hx rfl (hb hby d2_46) rfl (flt hc12).1 ?_
        show Steps p.tables e below (T9.setTop (mkF m 49 #[rv a0_, iv (0 : Int32), iv (y0 &&& (255 : Int32)), iv (2 : Int32), iv (y1 &&& (255 : Int32)), .unset] [])) _
        refine XS.iload X9.here hx rfl (hb hby d2_49) rfl ?_
        show Steps p.tables e below (T9.setTop (mkF m 51 #[rv a0_, iv (0 : Int32), iv (y0 &&& (255 : Int32)), iv (2 : Int32), iv (y1 &&& (255 : Int32)), .unset] [(.int (y1 &&& (255 : Int32)))])) _
        refine st13 _ ?_
        show Steps p.tables e below (T13.setTop (mkF m 54 #[rv a0_, iv (0 : Int32), iv (y0 &&& (255 : Int32)), iv (2 : Int32), iv (y1 &&& (255 : Int32)), .unset] [(.ref ta), (.int (y1 &&& (255 : Int32)))])) _
        refine XS.iloadN X13.here hx rfl (hb hby d2_54) rfl ?_
        show Steps p.tables e below (T13.setTop (mkF m 55 #[rv a0_, iv (0 : Int32), iv (y0 &&& (255 : Int32)), iv (2 : Int32), iv (y1 &&& (255 : Int32)), .unset] [(.int (y0 &&& (255 : Int32))), (.ref ta), (.int (y1 &&& (255 : Int32)))])) _
        refine X13.iaload hx (j := (y0 &&& (255 : Int32))) (v := (.int (own_hi (y0 &&& (255 : Int32))))) (by rw [e13]; exact (hT3.1.ext hO.2).1) (State.isArrayOf_alike hZ.alike hT3.1.2.1) hT3.1.2.2 hin14 (hT3.2.2 _ hin14) (g := (mkF m 55 #[rv a0_, iv (0 : Int32), iv (y0 &&& (255 : Int32)), iv (2 : Int32), iv (y1 &&& (255 : Int32)), .unset] [(.int (y0 &&& (255 : Int32))), (.ref ta), (.int (y1 &&& (255 : Int32)))])) rfl rfl (hb hby d2_55) _ ?_
        exact k
      by_cases hc16 : (own_hi (y0 &&& (255 : Int32))) < (y1 &&& (255 : Int32))
      · skip
        obtain ⟨fs, hr, hrun, hended, hW, hsame⟩ := X13.leave (v := some (.int (0 : Int32))) (fun h => by rw [Bd.returns] at h; cases h)
        refine ⟨_, _, S15 _ ?_, hrun, hended, _, _, rfl, ?_, ⟨_, rfl⟩, hW, hsame.mono (by decide) (by decide)⟩
        · skip
          show Steps p.tables e below (T13.setTop (mkF m 56 #[rv a0_, iv (0 : Int32), iv (y0 &&& (255 : Int32)), iv (2 : Int32), iv (y1 &&& (255 : Int32)), .unset] [(.int (own_hi (y0 &&& (255 : Int32)))), (.int (y1 &&& (255 : Int32)))])) _
          refine XS.icmpNo X13.here hx rfl (hb hby d2_56) rfl (tlt hc16).2.2.2 ?_
          show Steps p.tables e below (T13.setTop (mkF m 59 #[rv a0_, iv (0 : Int32), iv (y0 &&& (255 : Int32)), iv (2 : Int32), iv (y1 &&& (255 : Int32)), .unset] [])) _
          refine XS.iconst X13.here hx rfl (hb hby d2_59) ?_
          show Steps p.tables e below (T13.setTop (mkF m 60 #[rv a0_, iv (0 : Int32), iv (y0 &&& (255 : Int32)), iv (2 : Int32), iv (y1 &&& (255 : Int32)), .unset] [(.int (0 : Int32))])) _
          exact retI X13 hx Bd.returns (hb hby d2_60) hr
        · show QSL04 Z a0_ kk y0 y1 y2 y3 la lc sa sc ta tc h0 n0 _ T13.heap _
          rw [e13]
          exact ⟨(by unfold own_sl4; rw [if_neg hL5, if_pos hL6, if_neg hc12, if_pos hc16]), N0, rfl⟩
      · skip
        obtain ⟨fs, hr, hrun, hended, hW, hsame⟩ := X13.leave (v := some (.int (2 : Int32))) (fun h => by rw [Bd.returns] at h; cases h)
        refine ⟨_, _, S15 _ ?_, hrun, hended, _, _, rfl, ?_, ⟨_, rfl⟩, hW, hsame.mono (by decide) (by decide)⟩
        · skip
          show Steps p.tables e below (T13.setTop (mkF m 56 #[rv a0_, iv (0 : Int32), iv (y0 &&& (255 : Int32)), iv (2 : Int32), iv (y1 &&& (255 : Int32)), .unset] [(.int (own_hi (y0 &&& (255 : Int32)))), (.int (y1 &&& (255 : Int32)))])) _
          refine XS.icmpYes X13.here hx rfl (pc0 := 56) (pc' := 61) rfl (hb hby d2_56) rfl (flt hc16).2.2.2 (by decide) (by decide) ?_
          show Steps p.tables e below (T13.setTop (mkF m 61 #[rv a0_, iv (0 : Int32), iv (y0 &&& (255 : Int32)), iv (2 : Int32), iv (y1 &&& (255 : Int32)), .unset] [])) _
          refine XS.iloadN X13.here hx rfl (hb hby d2_61) rfl ?_
          show Steps p.tables e below (T13.setTop (mkF m 62 #[rv a0_, iv (0 : Int32), iv (y0 &&& (255 : Int32)), iv (2 : Int32), iv (y1 &&& (255 : Int32)), .unset] [(.int (0 : Int32))])) _
          refine XS.iconst X13.here hx rfl (hb hby d2_62) ?_
          show Steps p.tables e below (T13.setTop (mkF m 63 #[rv a0_, iv (0 : Int32), iv (y0 &&& (255 : Int32)), iv (2 : Int32), iv (y1 &&& (255 : Int32)), .unset] [(.int (2 : Int32)), (.int (0 : Int32))])) _
          refine XS.iadd X13.here hx rfl (hb hby d2_63) rfl ?_
          show Steps p.tables e below (T13.setTop (mkF m 64 #[rv a0_, iv (0 : Int32), iv (y0 &&& (255 : Int32)), iv (2 : Int32), iv (y1 &&& (255 : Int32)), .unset] [(.int (2 : Int32))])) _
          refine XS.istore X13.here hx rfl (hb hby d2_64) rfl (l' := #[rv a0_, iv (0 : Int32), iv (y0 &&& (255 : Int32)), iv (2 : Int32), iv (y1 &&& (255 : Int32)), iv (2 : Int32)]) rfl ?_
          show Steps p.tables e below (T13.setTop (mkF m 66 #[rv a0_, iv (0 : Int32), iv (y0 &&& (255 : Int32)), iv (2 : Int32), iv (y1 &&& (255 : Int32)), iv (2 : Int32)] [])) _
          refine XS.iload X13.here hx rfl (hb hby d2_66) rfl ?_
          show Steps p.tables e below (T13.setTop (mkF m 68 #[rv a0_, iv (0 : Int32), iv (y0 &&& (255 : Int32)), iv (2 : Int32), iv (y1 &&& (255 : Int32)), iv (2 : Int32)] [(.int (2 : Int32))])) _
          refine XS.iloadN X13.here hx rfl (hb hby d2_68) rfl ?_
          show Steps p.tables e below (T13.setTop (mkF m 69 #[rv a0_, iv (0 : Int32), iv (y0 &&& (255 : Int32)), iv (2 : Int32), iv (y1 &&& (255 : Int32)), iv (2 : Int32)] [(.int (0 : Int32)), (.int (2 : Int32))])) _
          refine XS.iloadN X13.here hx rfl (hb hby d2_69) rfl ?_
          show Steps p.tables e below (T13.setTop (mkF m 70 #[rv a0_, iv (0 : Int32), iv (y0 &&& (255 : Int32)), iv (2 : Int32), iv (y1 &&& (255 : Int32)), iv (2 : Int32)] [(.int (2 : Int32)), (.int (0 : Int32)), (.int (2 : Int32))])) _
          refine XS.iadd X13.here hx rfl (hb hby d2_70) rfl ?_
          show Steps p.tables e below (T13.setTop (mkF m 71 #[rv a0_, iv (0 : Int32), iv (y0 &&& (255 : Int32)), iv (2 : Int32), iv (y1 &&& (255 : Int32)), iv (2 : Int32)] [(.int (2 : Int32)), (.int (2 : Int32))])) _
          refine XS.icmpYes X13.here hx rfl (pc0 := 71) (pc' := 96) rfl (hb hby d2_71) rfl (flt (by decide : ¬ ((2 : Int32) < (2 : Int32)))).2.1 (by decide) (by decide) ?_
          show Steps p.tables e below (T13.setTop (mkF m 96 #[rv a0_, iv (0 : Int32), iv (y0 &&& (255 : Int32)), iv (2 : Int32), iv (y1 &&& (255 : Int32)), iv (2 : Int32)] [])) _
          refine XS.iloadN X13.here hx rfl (hb hby d2_96) rfl ?_
          show Steps p.tables e below (T13.setTop (mkF m 97 #[rv a0_, iv (0 : Int32), iv (y0 &&& (255 : Int32)), iv (2 : Int32), iv (y1 &&& (255 : Int32)), iv (2 : Int32)] [(.int (2 : Int32))])) _
          exact retI X13 hx Bd.returns (hb hby d2_97) hr
        · show QSL04 Z a0_ kk y0 y1 y2 y3 la lc sa sc ta tc h0 n0 _ T13.heap _
          rw [e13]
          exact ⟨(by unfold own_sl4; rw [if_neg hL5, if_pos hL6, if_neg hc12, if_neg hc16]), N0, rfl⟩
  by_cases hL17 : (own_L (y0 &&& (255 : Int32))) = (3 : Int32)
  · skip
    rw [hL17] at S4
    obtain ⟨cl18, Ar18, qa18, Sa18, Na18, Ha18, Ga18⟩ := id V0
    obtain ⟨cl19, Ar19, qa19, Sa19, Na19, Ha19, Ga19⟩ := id V0
    have hin19 : ¬ ((1 : Int32) < 0 ∨ cl19.slots.size ≤ ((1 : Int32)).toNatClampNeg) := inb_of Sa19 ⟨by decide, by decide⟩
    obtain ⟨T20, X20, e20, st20⟩ := getS2 X2 hx hZ hown (host := "") (Or.inl (hw _ (List.mem_of_getElem? (i := 14) rfl))) Via.refl e2 (hS2.ext hO.2) (g := (mkF m 41 #[rv a0_, iv (0 : Int32), iv (y0 &&& (255 : Int32)), iv (3 : Int32), iv (y1 &&& (255 : Int32)), .unset] [(.int (y1 &&& (255 : Int32)))])) rfl (hb hby d2_41)
    have hin21 : ¬ ((y0 &&& (255 : Int32)) < 0 ∨ sc.slots.size ≤ ((y0 &&& (255 : Int32))).toNatClampNeg) := inb_of hT2.2.1 (own_255 _)
    have S22 : ∀ t, Steps p.tables e below (T20.setTop (mkF m 46 #[rv a0_, iv (0 : Int32), iv (y0 &&& (255 : Int32)), iv (3 : Int32), iv (y1 &&& (255 : Int32)), .unset] [(.int (own_lo (y0 &&& (255 : Int32)))), (.int (y1 &&& (255 : Int32)))])) t → Steps p.tables e below (s₁.setTop (entryFrame m #[(.ref a0_), (.int (0 : Int32))] 6)) t := by
      intro t k
      refine S4 t ?_
      show Steps p.tables e below (T2.setTop (mkF m 14 #[rv a0_, iv (0 : Int32), iv (y0 &&& (255 : Int32)), iv (3 : Int32), .unset, .unset] [])) _
      refine XS.iloadN X2.here hx rfl (hb hby d2_14) rfl ?_
      show Steps p.tables e below (T2.setTop (mkF m 15 #[rv a0_, iv (0 : Int32), iv (y0 &&& (255 : Int32)), iv (3 : Int32), .unset, .unset] [(.int (3 : Int32))])) _
      refine XS.ifNo X2.here hx rfl (hb hby d2_15) rfl ((if0 _ _).trans (feq (by decide : ¬ ((3 : Int32) = (0 : Int32)))).1) ?_
      show Steps p.tables e below (T2.setTop (mkF m 18 #[rv a0_, iv (0 : Int32), iv (y0 &&& (255 : Int32)), iv (3 : Int32), .unset, .unset] [])) _
      refine XS.iloadN X2.here hx rfl (hb hby d2_18) rfl ?_
      show Steps p.tables e below (T2.setTop (mkF m 19 #[rv a0_, iv (0 : Int32), iv (y0 &&& (255 : Int32)), iv (3 : Int32), .unset, .unset] [(.int (0 : Int32))])) _
      refine XS.iloadN X2.here hx rfl (hb hby d2_19) rfl ?_
      show Steps p.tables e below (T2.setTop (mkF m 20 #[rv a0_, iv (0 : Int32), iv (y0 &&& (255 : Int32)), iv (3 : Int32), .unset, .unset] [(.int (3 : Int32)), (.int (0 : Int32))])) _
      refine XS.iadd X2.here hx rfl (hb hby d2_20) rfl ?_
      show Steps p.tables e below (T2.setTop (mkF m 21 #[rv a0_, iv (0 : Int32), iv (y0 &&& (255 : Int32)), iv (3 : Int32), .unset, .unset] [(.int (3 : Int32))])) _
      refine XS.aloadN X2.here hx rfl (hb hby d2_21) rfl rfl ?_
      show Steps p.tables e below (T2.setTop (mkF m 22 #[rv a0_, iv (0 : Int32), iv (y0 &&& (255 : Int32)), iv (3 : Int32), .unset, .unset] [(.ref a0_), (.int (3 : Int32))])) _
      refine X2.arraylength hx (by rw [e2]; exact Ar18.1) (State.isArrayOf_alike hZ.alike Ar18.2.1) (g := (mkF m 22 #[rv a0_, iv (0 : Int32), iv (y0 &&& (255 : Int32)), iv (3 : Int32), .unset, .unset] [(.ref a0_), (.int (3 : Int32))])) rfl rfl (hb hby d2_22) _ ?_
      rw [len_of Sa18 Na18]
      show Steps p.tables e below (T2.setTop (mkF m 23 #[rv a0_, iv (0 : Int32), iv (y0 &&& (255 : Int32)), iv (3 : Int32), .unset, .unset] [(.int (4 : Int32)), (.int (3 : Int32))])) _
      refine XS.icmpYes X2.here hx rfl (pc0 := 23) (pc' := 28) rfl (hb hby d2_23) rfl (flt (by decide : ¬ ((4 : Int32) < (3 : Int32)))).2.2.2 (by decide) (by decide) ?_
      show Steps p.tables e below (T2.setTop (mkF m 28 #[rv a0_, iv (0 : Int32), iv (y0 &&& (255 : Int32)), iv (3 : Int32), .unset, .unset] [])) _
      refine XS.aloadN X2.here hx rfl (hb hby d2_28) rfl rfl ?_
      show Steps p.tables e below (T2.setTop (mkF m 29 #[rv a0_, iv (0 : Int32), iv (y0 &&& (255 : Int32)), iv (3 : Int32), .unset, .unset] [(.ref a0_)])) _
      refine XS.iloadN X2.here hx rfl (hb hby d2_29) rfl ?_
      show Steps p.tables e below (T2.setTop (mkF m 30 #[rv a0_, iv (0 : Int32), iv (y0 &&& (255 : Int32)), iv (3 : Int32), .unset, .unset] [(.int (0 : Int32)), (.ref a0_)])) _
      refine XS.iconst X2.here hx rfl (hb hby d2_30) ?_
      show Steps p.tables e below (T2.setTop (mkF m 31 #[rv a0_, iv (0 : Int32), iv (y0 &&& (255 : Int32)), iv (3 : Int32), .unset, .unset] [(.int (1 : Int32)), (.int (0 : Int32)), (.ref a0_)])) _
      refine XS.iadd X2.here hx rfl (hb hby d2_31) rfl ?_
      show Steps p.tables e below (T2.setTop (mkF m 32 #[rv a0_, iv (0 : Int32), iv (y0 &&& (255 : Int32)), iv (3 : Int32), .unset, .unset] [(.int (1 : Int32)), (.ref a0_)])) _
      refine X2.baloadBytes hx (j := (1 : Int32)) (v := (.int y1)) (by rw [e2]; exact Ar19.1) (State.isArrayOf_alike hZ.alike Ar19.2.1) Ar19.2.2 hin19 (Has.at Ha19 hin19 rfl) (g := (mkF m 32 #[rv a0_, iv (0 : Int32), iv (y0 &&& (255 : Int32)), iv (3 : Int32), .unset, .unset] [(.int (1 : Int32)), (.ref a0_)])) rfl rfl (hb hby d2_32) _ ?_
      show Steps p.tables e below (T2.setTop (mkF m 33 #[rv a0_, iv (0 : Int32), iv (y0 &&& (255 : Int32)), iv (3 : Int32), .unset, .unset] [(.int y1)])) _
      refine XS.sipush X2.here hx rfl (hb hby d2_33) ?_
      show Steps p.tables e below (T2.setTop (mkF m 36 #[rv a0_, iv (0 : Int32), iv (y0 &&& (255 : Int32)), iv (3 : Int32), .unset, .unset] [(.int (255 : Int32)), (.int y1)])) _
      refine XS.iand X2.here hx rfl (hb hby d2_36) rfl ?_
      show Steps p.tables e below (T2.setTop (mkF m 37 #[rv a0_, iv (0 : Int32), iv (y0 &&& (255 : Int32)), iv (3 : Int32), .unset, .unset] [(.int (y1 &&& (255 : Int32)))])) _
      refine XS.istore X2.here hx rfl (hb hby d2_37) rfl (l' := #[rv a0_, iv (0 : Int32), iv (y0 &&& (255 : Int32)), iv (3 : Int32), iv (y1 &&& (255 : Int32)), .unset]) rfl ?_
      show Steps p.tables e below (T2.setTop (mkF m 39 #[rv a0_, iv (0 : Int32), iv (y0 &&& (255 : Int32)), iv (3 : Int32), iv (y1 &&& (255 : Int32)), .unset] [])) _
      refine XS.iload X2.here hx rfl (hb hby d2_39) rfl ?_
      show Steps p.tables e below (T2.setTop (mkF m 41 #[rv a0_, iv (0 : Int32), iv (y0 &&& (255 : Int32)), iv (3 : Int32), iv (y1 &&& (255 : Int32)), .unset] [(.int (y1 &&& (255 : Int32)))])) _
      refine st20 _ ?_
      show Steps p.tables e below (T20.setTop (mkF m 44 #[rv a0_, iv (0 : Int32), iv (y0 &&& (255 : Int32)), iv (3 : Int32), iv (y1 &&& (255 : Int32)), .unset] [(.ref sa), (.int (y1 &&& (255 : Int32)))])) _
      refine XS.iloadN X20.here hx rfl (hb hby d2_44) rfl ?_
      show Steps p.tables e below (T20.setTop (mkF m 45 #[rv a0_, iv (0 : Int32), iv (y0 &&& (255 : Int32)), iv (3 : Int32), iv (y1 &&& (255 : Int32)), .unset] [(.int (y0 &&& (255 : Int32))), (.ref sa), (.int (y1 &&& (255 : Int32)))])) _
      refine X20.iaload hx (j := (y0 &&& (255 : Int32))) (v := (.int (own_lo (y0 &&& (255 : Int32))))) (by rw [e20]; exact (hT2.1.ext hO.2).1) (State.isArrayOf_alike hZ.alike hT2.1.2.1) hT2.1.2.2 hin21 (hT2.2.2 _ hin21) (g := (mkF m 45 #[rv a0_, iv (0 : Int32), iv (y0 &&& (255 : Int32)), iv (3 : Int32), iv (y1 &&& (255 : Int32)), .unset] [(.int (y0 &&& (255 : Int32))), (.ref sa), (.int (y1 &&& (255 : Int32)))])) rfl rfl (hb hby d2_45) _ ?_
      exact k
    by_cases hc23 : (y1 &&& (255 : Int32)) < (own_lo (y0 &&& (255 : Int32)))
    · skip
      obtain ⟨fs, hr, hrun, hended, hW, hsame⟩ := X20.leave (v := some (.int (0 : Int32))) (fun h => by rw [Bd.returns] at h; cases h)
      refine ⟨_, _, S22 _ ?_, hrun, hended, _, _, rfl, ?_, ⟨_, rfl⟩, hW, hsame.mono (by decide) (by decide)⟩
      · skip
        show Steps p.tables e below (T20.setTop (mkF m 46 #[rv a0_, iv (0 : Int32), iv (y0 &&& (255 : Int32)), iv (3 : Int32), iv (y1 &&& (255 : Int32)), .unset] [(.int (own_lo (y0 &&& (255 : Int32)))), (.int (y1 &&& (255 : Int32)))])) _
        refine XS.icmpYes X20.here hx rfl (pc0 := 46) (pc' := 59) rfl (hb hby d2_46) rfl (tlt hc23).1 (by decide) (by decide) ?_
        show Steps p.tables e below (T20.setTop (mkF m 59 #[rv a0_, iv (0 : Int32), iv (y0 &&& (255 : Int32)), iv (3 : Int32), iv (y1 &&& (255 : Int32)), .unset] [])) _
        refine XS.iconst X20.here hx rfl (hb hby d2_59) ?_
        show Steps p.tables e below (T20.setTop (mkF m 60 #[rv a0_, iv (0 : Int32), iv (y0 &&& (255 : Int32)), iv (3 : Int32), iv (y1 &&& (255 : Int32)), .unset] [(.int (0 : Int32))])) _
        exact retI X20 hx Bd.returns (hb hby d2_60) hr
      · show QSL04 Z a0_ kk y0 y1 y2 y3 la lc sa sc ta tc h0 n0 _ T20.heap _
        rw [e20]
        exact ⟨(by unfold own_sl4; rw [if_neg hL5, if_neg hL6, if_pos hL17, if_pos hc23]), N0, rfl⟩
    · skip
      obtain ⟨T24, X24, e24, st24⟩ := getS2 X20 hx hZ hown (host := "") (Or.inl (hw _ (List.mem_of_getElem? (i := 16) rfl))) Via.refl e20 (hS3.ext hO.2) (g := (mkF m 51 #[rv a0_, iv (0 : Int32), iv (y0 &&& (255 : Int32)), iv (3 : Int32), iv (y1 &&& (255 : Int32)), .unset] [(.int (y1 &&& (255 : Int32)))])) rfl (hb hby d2_51)
      have hin25 : ¬ ((y0 &&& (255 : Int32)) < 0 ∨ tc.slots.size ≤ ((y0 &&& (255 : Int32))).toNatClampNeg) := inb_of hT3.2.1 (own_255 _)
      have S26 : ∀ t, Steps p.tables e below (T24.setTop (mkF m 56 #[rv a0_, iv (0 : Int32), iv (y0 &&& (255 : Int32)), iv (3 : Int32), iv (y1 &&& (255 : Int32)), .unset] [(.int (own_hi (y0 &&& (255 : Int32)))), (.int (y1 &&& (255 : Int32)))])) t → Steps p.tables e below (s₁.setTop (entryFrame m #[(.ref a0_), (.int (0 : Int32))] 6)) t := by
        intro t k
        refine S22 t ?_
        show Steps p.tables e below (T20.setTop (mkF m 46 #[rv a0_, iv (0 : Int32), iv (y0 &&& (255 : Int32)), iv (3 : Int32), iv (y1 &&& (255 : Int32)), .unset] [(.int (own_lo (y0 &&& (255 : Int32)))), (.int (y1 &&& (255 : Int32)))])) _
        refine XS.icmpNo X20.here hx rfl (hb hby d2_46) rfl (flt hc23).1 ?_
        show Steps p.tables e below (T20.setTop (mkF m 49 #[rv a0_, iv (0 : Int32), iv (y0 &&& (255 : Int32)), iv (3 : Int32), iv (y1 &&& (255 : Int32)), .unset] [])) _
        refine XS.iload X20.here hx rfl (hb hby d2_49) rfl ?_
        show Steps p.tables e below (T20.setTop (mkF m 51 #[rv a0_, iv (0 : Int32), iv (y0 &&& (255 : Int32)), iv (3 : Int32), iv (y1 &&& (255 : Int32)), .unset] [(.int (y1 &&& (255 : Int32)))])) _
        refine st24 _ ?_
        show Steps p.tables e below (T24.setTop (mkF m 54 #[rv a0_, iv (0 : Int32), iv (y0 &&& (255 : Int32)), iv (3 : Int32), iv (y1 &&& (255 : Int32)), .unset] [(.ref ta), (.int (y1 &&& (255 : Int32)))])) _
        refine XS.iloadN X24.here hx rfl (hb hby d2_54) rfl ?_
        show Steps p.tables e below (T24.setTop (mkF m 55 #[rv a0_, iv (0 : Int32), iv (y0 &&& (255 : Int32)), iv (3 : Int32), iv (y1 &&& (255 : Int32)), .unset] [(.int (y0 &&& (255 : Int32))), (.ref ta), (.int (y1 &&& (255 : Int32)))])) _
        refine X24.iaload hx (j := (y0 &&& (255 : Int32))) (v := (.int (own_hi (y0 &&& (255 : Int32))))) (by rw [e24]; exact (hT3.1.ext hO.2).1) (State.isArrayOf_alike hZ.alike hT3.1.2.1) hT3.1.2.2 hin25 (hT3.2.2 _ hin25) (g := (mkF m 55 #[rv a0_, iv (0 : Int32), iv (y0 &&& (255 : Int32)), iv (3 : Int32), iv (y1 &&& (255 : Int32)), .unset] [(.int (y0 &&& (255 : Int32))), (.ref ta), (.int (y1 &&& (255 : Int32)))])) rfl rfl (hb hby d2_55) _ ?_
        exact k
      by_cases hc27 : (own_hi (y0 &&& (255 : Int32))) < (y1 &&& (255 : Int32))
      · skip
        obtain ⟨fs, hr, hrun, hended, hW, hsame⟩ := X24.leave (v := some (.int (0 : Int32))) (fun h => by rw [Bd.returns] at h; cases h)
        refine ⟨_, _, S26 _ ?_, hrun, hended, _, _, rfl, ?_, ⟨_, rfl⟩, hW, hsame.mono (by decide) (by decide)⟩
        · skip
          show Steps p.tables e below (T24.setTop (mkF m 56 #[rv a0_, iv (0 : Int32), iv (y0 &&& (255 : Int32)), iv (3 : Int32), iv (y1 &&& (255 : Int32)), .unset] [(.int (own_hi (y0 &&& (255 : Int32)))), (.int (y1 &&& (255 : Int32)))])) _
          refine XS.icmpNo X24.here hx rfl (hb hby d2_56) rfl (tlt hc27).2.2.2 ?_
          show Steps p.tables e below (T24.setTop (mkF m 59 #[rv a0_, iv (0 : Int32), iv (y0 &&& (255 : Int32)), iv (3 : Int32), iv (y1 &&& (255 : Int32)), .unset] [])) _
          refine XS.iconst X24.here hx rfl (hb hby d2_59) ?_
          show Steps p.tables e below (T24.setTop (mkF m 60 #[rv a0_, iv (0 : Int32), iv (y0 &&& (255 : Int32)), iv (3 : Int32), iv (y1 &&& (255 : Int32)), .unset] [(.int (0 : Int32))])) _
          exact retI X24 hx Bd.returns (hb hby d2_60) hr
        · show QSL04 Z a0_ kk y0 y1 y2 y3 la lc sa sc ta tc h0 n0 _ T24.heap _
          rw [e24]
          exact ⟨(by unfold own_sl4; rw [if_neg hL5, if_neg hL6, if_pos hL17, if_neg hc23, if_pos hc27]), N0, rfl⟩
      · skip
        obtain ⟨cl28, Ar28, qa28, Sa28, Na28, Ha28, Ga28⟩ := id V0
        have hin28 : ¬ ((2 : Int32) < 0 ∨ cl28.slots.size ≤ ((2 : Int32)).toNatClampNeg) := inb_of Sa28 ⟨by decide, by decide⟩
        have S29 : ∀ t, Steps p.tables e below (T24.setTop (mkF m 85 #[rv a0_, iv (0 : Int32), iv (y0 &&& (255 : Int32)), iv (3 : Int32), iv (y1 &&& (255 : Int32)), iv (2 : Int32)] [(.int (128 : Int32)), (.int (y2 &&& (192 : Int32)))])) t → Steps p.tables e below (s₁.setTop (entryFrame m #[(.ref a0_), (.int (0 : Int32))] 6)) t := by
          intro t k
          refine S26 t ?_
          show Steps p.tables e below (T24.setTop (mkF m 56 #[rv a0_, iv (0 : Int32), iv (y0 &&& (255 : Int32)), iv (3 : Int32), iv (y1 &&& (255 : Int32)), .unset] [(.int (own_hi (y0 &&& (255 : Int32)))), (.int (y1 &&& (255 : Int32)))])) _
          refine XS.icmpYes X24.here hx rfl (pc0 := 56) (pc' := 61) rfl (hb hby d2_56) rfl (flt hc27).2.2.2 (by decide) (by decide) ?_
          show Steps p.tables e below (T24.setTop (mkF m 61 #[rv a0_, iv (0 : Int32), iv (y0 &&& (255 : Int32)), iv (3 : Int32), iv (y1 &&& (255 : Int32)), .unset] [])) _
          refine XS.iloadN X24.here hx rfl (hb hby d2_61) rfl ?_
          show Steps p.tables e below (T24.setTop (mkF m 62 #[rv a0_, iv (0 : Int32), iv (y0 &&& (255 : Int32)), iv (3 : Int32), iv (y1 &&& (255 : Int32)), .unset] [(.int (0 : Int32))])) _
          refine XS.iconst X24.here hx rfl (hb hby d2_62) ?_
          show Steps p.tables e below (T24.setTop (mkF m 63 #[rv a0_, iv (0 : Int32), iv (y0 &&& (255 : Int32)), iv (3 : Int32), iv (y1 &&& (255 : Int32)), .unset] [(.int (2 : Int32)), (.int (0 : Int32))])) _
          refine XS.iadd X24.here hx rfl (hb hby d2_63) rfl ?_
          show Steps p.tables e below (T24.setTop (mkF m 64 #[rv a0_, iv (0 : Int32), iv (y0 &&& (255 : Int32)), iv (3 : Int32), iv (y1 &&& (255 : Int32)), .unset] [(.int (2 : Int32))])) _
          refine XS.istore X24.here hx rfl (hb hby d2_64) rfl (l' := #[rv a0_, iv (0 : Int32), iv (y0 &&& (255 : Int32)), iv (3 : Int32), iv (y1 &&& (255 : Int32)), iv (2 : Int32)]) rfl ?_
          show Steps p.tables e below (T24.setTop (mkF m 66 #[rv a0_, iv (0 : Int32), iv (y0 &&& (255 : Int32)), iv (3 : Int32), iv (y1 &&& (255 : Int32)), iv (2 : Int32)] [])) _
          refine XS.iload X24.here hx rfl (hb hby d2_66) rfl ?_
          show Steps p.tables e below (T24.setTop (mkF m 68 #[rv a0_, iv (0 : Int32), iv (y0 &&& (255 : Int32)), iv (3 : Int32), iv (y1 &&& (255 : Int32)), iv (2 : Int32)] [(.int (2 : Int32))])) _
          refine XS.iloadN X24.here hx rfl (hb hby d2_68) rfl ?_
          show Steps p.tables e below (T24.setTop (mkF m 69 #[rv a0_, iv (0 : Int32), iv (y0 &&& (255 : Int32)), iv (3 : Int32), iv (y1 &&& (255 : Int32)), iv (2 : Int32)] [(.int (0 : Int32)), (.int (2 : Int32))])) _
          refine XS.iloadN X24.here hx rfl (hb hby d2_69) rfl ?_
          show Steps p.tables e below (T24.setTop (mkF m 70 #[rv a0_, iv (0 : Int32), iv (y0 &&& (255 : Int32)), iv (3 : Int32), iv (y1 &&& (255 : Int32)), iv (2 : Int32)] [(.int (3 : Int32)), (.int (0 : Int32)), (.int (2 : Int32))])) _
          refine XS.iadd X24.here hx rfl (hb hby d2_70) rfl ?_
          show Steps p.tables e below (T24.setTop (mkF m 71 #[rv a0_, iv (0 : Int32), iv (y0 &&& (255 : Int32)), iv (3 : Int32), iv (y1 &&& (255 : Int32)), iv (2 : Int32)] [(.int (3 : Int32)), (.int (2 : Int32))])) _
          refine XS.icmpNo X24.here hx rfl (hb hby d2_71) rfl (tlt (by decide : (2 : Int32) < (3 : Int32))).2.1 ?_
          show Steps p.tables e below (T24.setTop (mkF m 74 #[rv a0_, iv (0 : Int32), iv (y0 &&& (255 : Int32)), iv (3 : Int32), iv (y1 &&& (255 : Int32)), iv (2 : Int32)] [])) _
          refine XS.aloadN X24.here hx rfl (hb hby d2_74) rfl rfl ?_
          show Steps p.tables e below (T24.setTop (mkF m 75 #[rv a0_, iv (0 : Int32), iv (y0 &&& (255 : Int32)), iv (3 : Int32), iv (y1 &&& (255 : Int32)), iv (2 : Int32)] [(.ref a0_)])) _
          refine XS.iload X24.here hx rfl (hb hby d2_75) rfl ?_
          show Steps p.tables e below (T24.setTop (mkF m 77 #[rv a0_, iv (0 : Int32), iv (y0 &&& (255 : Int32)), iv (3 : Int32), iv (y1 &&& (255 : Int32)), iv (2 : Int32)] [(.int (2 : Int32)), (.ref a0_)])) _
          refine X24.baloadBytes hx (j := (2 : Int32)) (v := (.int y2)) (by rw [e24]; exact Ar28.1) (State.isArrayOf_alike hZ.alike Ar28.2.1) Ar28.2.2 hin28 (Has.at Ha28 hin28 rfl) (g := (mkF m 77 #[rv a0_, iv (0 : Int32), iv (y0 &&& (255 : Int32)), iv (3 : Int32), iv (y1 &&& (255 : Int32)), iv (2 : Int32)] [(.int (2 : Int32)), (.ref a0_)])) rfl rfl (hb hby d2_77) _ ?_
          show Steps p.tables e below (T24.setTop (mkF m 78 #[rv a0_, iv (0 : Int32), iv (y0 &&& (255 : Int32)), iv (3 : Int32), iv (y1 &&& (255 : Int32)), iv (2 : Int32)] [(.int y2)])) _
          refine XS.sipush X24.here hx rfl (hb hby d2_78) ?_
          show Steps p.tables e below (T24.setTop (mkF m 81 #[rv a0_, iv (0 : Int32), iv (y0 &&& (255 : Int32)), iv (3 : Int32), iv (y1 &&& (255 : Int32)), iv (2 : Int32)] [(.int (192 : Int32)), (.int y2)])) _
          refine XS.iand X24.here hx rfl (hb hby d2_81) rfl ?_
          show Steps p.tables e below (T24.setTop (mkF m 82 #[rv a0_, iv (0 : Int32), iv (y0 &&& (255 : Int32)), iv (3 : Int32), iv (y1 &&& (255 : Int32)), iv (2 : Int32)] [(.int (y2 &&& (192 : Int32)))])) _
          refine XS.sipush X24.here hx rfl (hb hby d2_82) ?_
          exact k
        by_cases hc30 : (y2 &&& (192 : Int32)) = (128 : Int32)
        · skip
          obtain ⟨fs, hr, hrun, hended, hW, hsame⟩ := X24.leave (v := some (.int (3 : Int32))) (fun h => by rw [Bd.returns] at h; cases h)
          refine ⟨_, _, S29 _ ?_, hrun, hended, _, _, rfl, ?_, ⟨_, rfl⟩, hW, hsame.mono (by decide) (by decide)⟩
          · skip
            show Steps p.tables e below (T24.setTop (mkF m 85 #[rv a0_, iv (0 : Int32), iv (y0 &&& (255 : Int32)), iv (3 : Int32), iv (y1 &&& (255 : Int32)), iv (2 : Int32)] [(.int (128 : Int32)), (.int (y2 &&& (192 : Int32)))])) _
            refine XS.icmpYes X24.here hx rfl (pc0 := 85) (pc' := 90) rfl (hb hby d2_85) rfl (teq hc30).1 (by decide) (by decide) ?_
            show Steps p.tables e below (T24.setTop (mkF m 90 #[rv a0_, iv (0 : Int32), iv (y0 &&& (255 : Int32)), iv (3 : Int32), iv (y1 &&& (255 : Int32)), iv (2 : Int32)] [])) _
            refine XS.iinc X24.here hx rfl (hb hby d2_90) rfl (l' := #[rv a0_, iv (0 : Int32), iv (y0 &&& (255 : Int32)), iv (3 : Int32), iv (y1 &&& (255 : Int32)), iv (3 : Int32)]) rfl ?_
            show Steps p.tables e below (T24.setTop (mkF m 93 #[rv a0_, iv (0 : Int32), iv (y0 &&& (255 : Int32)), iv (3 : Int32), iv (y1 &&& (255 : Int32)), iv (3 : Int32)] [])) _
            refine XS.goto X24.here hx rfl (pc0 := 93) (pc' := 66) rfl (hb hby d2_93) (by decide) (by decide) ?_
            show Steps p.tables e below (T24.setTop (mkF m 66 #[rv a0_, iv (0 : Int32), iv (y0 &&& (255 : Int32)), iv (3 : Int32), iv (y1 &&& (255 : Int32)), iv (3 : Int32)] [])) _
            refine XS.iload X24.here hx rfl (hb hby d2_66) rfl ?_
            show Steps p.tables e below (T24.setTop (mkF m 68 #[rv a0_, iv (0 : Int32), iv (y0 &&& (255 : Int32)), iv (3 : Int32), iv (y1 &&& (255 : Int32)), iv (3 : Int32)] [(.int (3 : Int32))])) _
            refine XS.iloadN X24.here hx rfl (hb hby d2_68) rfl ?_
            show Steps p.tables e below (T24.setTop (mkF m 69 #[rv a0_, iv (0 : Int32), iv (y0 &&& (255 : Int32)), iv (3 : Int32), iv (y1 &&& (255 : Int32)), iv (3 : Int32)] [(.int (0 : Int32)), (.int (3 : Int32))])) _
            refine XS.iloadN X24.here hx rfl (hb hby d2_69) rfl ?_
            show Steps p.tables e below (T24.setTop (mkF m 70 #[rv a0_, iv (0 : Int32), iv (y0 &&& (255 : Int32)), iv (3 : Int32), iv (y1 &&& (255 : Int32)), iv (3 : Int32)] [(.int (3 : Int32)), (.int (0 : Int32)), (.int (3 : Int32))])) _
            refine XS.iadd X24.here hx rfl (hb hby d2_70) rfl ?_
            show Steps p.tables e below (T24.setTop (mkF m 71 #[rv a0_, iv (0 : Int32), iv (y0 &&& (255 : Int32)), iv (3 : Int32), iv (y1 &&& (255 : Int32)), iv (3 : Int32)] [(.int (3 : Int32)), (.int (3 : Int32))])) _
            refine XS.icmpYes X24.here hx rfl (pc0 := 71) (pc' := 96) rfl (hb hby d2_71) rfl (flt (by decide : ¬ ((3 : Int32) < (3 : Int32)))).2.1 (by decide) (by decide) ?_
            show Steps p.tables e below (T24.setTop (mkF m 96 #[rv a0_, iv (0 : Int32), iv (y0 &&& (255 : Int32)), iv (3 : Int32), iv (y1 &&& (255 : Int32)), iv (3 : Int32)] [])) _
            refine XS.iloadN X24.here hx rfl (hb hby d2_96) rfl ?_
            show Steps p.tables e below (T24.setTop (mkF m 97 #[rv a0_, iv (0 : Int32), iv (y0 &&& (255 : Int32)), iv (3 : Int32), iv (y1 &&& (255 : Int32)), iv (3 : Int32)] [(.int (3 : Int32))])) _
            exact retI X24 hx Bd.returns (hb hby d2_97) hr
          · show QSL04 Z a0_ kk y0 y1 y2 y3 la lc sa sc ta tc h0 n0 _ T24.heap _
            rw [e24]
            exact ⟨(by unfold own_sl4; rw [if_neg hL5, if_neg hL6, if_pos hL17, if_neg hc23, if_neg hc27, if_pos hc30]), N0, rfl⟩
        · skip
          obtain ⟨fs, hr, hrun, hended, hW, hsame⟩ := X24.leave (v := some (.int (0 : Int32))) (fun h => by rw [Bd.returns] at h; cases h)
          refine ⟨_, _, S29 _ ?_, hrun, hended, _, _, rfl, ?_, ⟨_, rfl⟩, hW, hsame.mono (by decide) (by decide)⟩
          · skip
            show Steps p.tables e below (T24.setTop (mkF m 85 #[rv a0_, iv (0 : Int32), iv (y0 &&& (255 : Int32)), iv (3 : Int32), iv (y1 &&& (255 : Int32)), iv (2 : Int32)] [(.int (128 : Int32)), (.int (y2 &&& (192 : Int32)))])) _
            refine XS.icmpNo X24.here hx rfl (hb hby d2_85) rfl (feq hc30).1 ?_
            show Steps p.tables e below (T24.setTop (mkF m 88 #[rv a0_, iv (0 : Int32), iv (y0 &&& (255 : Int32)), iv (3 : Int32), iv (y1 &&& (255 : Int32)), iv (2 : Int32)] [])) _
            refine XS.iconst X24.here hx rfl (hb hby d2_88) ?_
            show Steps p.tables e below (T24.setTop (mkF m 89 #[rv a0_, iv (0 : Int32), iv (y0 &&& (255 : Int32)), iv (3 : Int32), iv (y1 &&& (255 : Int32)), iv (2 : Int32)] [(.int (0 : Int32))])) _
            exact retI X24 hx Bd.returns (hb hby d2_89) hr
          · show QSL04 Z a0_ kk y0 y1 y2 y3 la lc sa sc ta tc h0 n0 _ T24.heap _
            rw [e24]
            exact ⟨(by unfold own_sl4; rw [if_neg hL5, if_neg hL6, if_pos hL17, if_neg hc23, if_neg hc27, if_neg hc30]), N0, rfl⟩
  have hL31 := own_L4 _ hL5 hL6 hL17
  rw [hL31] at S4
  obtain ⟨cl32, Ar32, qa32, Sa32, Na32, Ha32, Ga32⟩ := id V0
  obtain ⟨cl33, Ar33, qa33, Sa33, Na33, Ha33, Ga33⟩ := id V0
  have hin33 : ¬ ((1 : Int32) < 0 ∨ cl33.slots.size ≤ ((1 : Int32)).toNatClampNeg) := inb_of Sa33 ⟨by decide, by decide⟩
  obtain ⟨T34, X34, e34, st34⟩ := getS2 X2 hx hZ hown (host := "") (Or.inl (hw _ (List.mem_of_getElem? (i := 14) rfl))) Via.refl e2 (hS2.ext hO.2) (g := (mkF m 41 #[rv a0_, iv (0 : Int32), iv (y0 &&& (255 : Int32)), iv (4 : Int32), iv (y1 &&& (255 : Int32)), .unset] [(.int (y1 &&& (255 : Int32)))])) rfl (hb hby d2_41)
  have hin35 : ¬ ((y0 &&& (255 : Int32)) < 0 ∨ sc.slots.size ≤ ((y0 &&& (255 : Int32))).toNatClampNeg) := inb_of hT2.2.1 (own_255 _)
  have S36 : ∀ t, Steps p.tables e below (T34.setTop (mkF m 46 #[rv a0_, iv (0 : Int32), iv (y0 &&& (255 : Int32)), iv (4 : Int32), iv (y1 &&& (255 : Int32)), .unset] [(.int (own_lo (y0 &&& (255 : Int32)))), (.int (y1 &&& (255 : Int32)))])) t → Steps p.tables e below (s₁.setTop (entryFrame m #[(.ref a0_), (.int (0 : Int32))] 6)) t := by
    intro t k
    refine S4 t ?_
    show Steps p.tables e below (T2.setTop (mkF m 14 #[rv a0_, iv (0 : Int32), iv (y0 &&& (255 : Int32)), iv (4 : Int32), .unset, .unset] [])) _
    refine XS.iloadN X2.here hx rfl (hb hby d2_14) rfl ?_
    show Steps p.tables e below (T2.setTop (mkF m 15 #[rv a0_, iv (0 : Int32), iv (y0 &&& (255 : Int32)), iv (4 : Int32), .unset, .unset] [(.int (4 : Int32))])) _
    refine XS.ifNo X2.here hx rfl (hb hby d2_15) rfl ((if0 _ _).trans (feq (by decide : ¬ ((4 : Int32) = (0 : Int32)))).1) ?_
    show Steps p.tables e below (T2.setTop (mkF m 18 #[rv a0_, iv (0 : Int32), iv (y0 &&& (255 : Int32)), iv (4 : Int32), .unset, .unset] [])) _
    refine XS.iloadN X2.here hx rfl (hb hby d2_18) rfl ?_
    show Steps p.tables e below (T2.setTop (mkF m 19 #[rv a0_, iv (0 : Int32), iv (y0 &&& (255 : Int32)), iv (4 : Int32), .unset, .unset] [(.int (0 : Int32))])) _
    refine XS.iloadN X2.here hx rfl (hb hby d2_19) rfl ?_
    show Steps p.tables e below (T2.setTop (mkF m 20 #[rv a0_, iv (0 : Int32), iv (y0 &&& (255 : Int32)), iv (4 : Int32), .unset, .unset] [(.int (4 : Int32)), (.int (0 : Int32))])) _
    refine XS.iadd X2.here hx rfl (hb hby d2_20) rfl ?_
    show Steps p.tables e below (T2.setTop (mkF m 21 #[rv a0_, iv (0 : Int32), iv (y0 &&& (255 : Int32)), iv (4 : Int32), .unset, .unset] [(.int (4 : Int32))])) _
    refine XS.aloadN X2.here hx rfl (hb hby d2_21) rfl rfl ?_
    show Steps p.tables e below (T2.setTop (mkF m 22 #[rv a0_, iv (0 : Int32), iv (y0 &&& (255 : Int32)), iv (4 : Int32), .unset, .unset] [(.ref a0_), (.int (4 : Int32))])) _
    refine X2.arraylength hx (by rw [e2]; exact Ar32.1) (State.isArrayOf_alike hZ.alike Ar32.2.1) (g := (mkF m 22 #[rv a0_, iv (0 : Int32), iv (y0 &&& (255 : Int32)), iv (4 : Int32), .unset, .unset] [(.ref a0_), (.int (4 : Int32))])) rfl rfl (hb hby d2_22) _ ?_
    rw [len_of Sa32 Na32]
    show Steps p.tables e below (T2.setTop (mkF m 23 #[rv a0_, iv (0 : Int32), iv (y0 &&& (255 : Int32)), iv (4 : Int32), .unset, .unset] [(.int (4 : Int32)), (.int (4 : Int32))])) _
    refine XS.icmpYes X2.here hx rfl (pc0 := 23) (pc' := 28) rfl (hb hby d2_23) rfl (flt (by decide : ¬ ((4 : Int32) < (4 : Int32)))).2.2.2 (by decide) (by decide) ?_
    show Steps p.tables e below (T2.setTop (mkF m 28 #[rv a0_, iv (0 : Int32), iv (y0 &&& (255 : Int32)), iv (4 : Int32), .unset, .unset] [])) _
    refine XS.aloadN X2.here hx rfl (hb hby d2_28) rfl rfl ?_
    show Steps p.tables e below (T2.setTop (mkF m 29 #[rv a0_, iv (0 : Int32), iv (y0 &&& (255 : Int32)), iv (4 : Int32), .unset, .unset] [(.ref a0_)])) _
    refine XS.iloadN X2.here hx rfl (hb hby d2_29) rfl ?_
    show Steps p.tables e below (T2.setTop (mkF m 30 #[rv a0_, iv (0 : Int32), iv (y0 &&& (255 : Int32)), iv (4 : Int32), .unset, .unset] [(.int (0 : Int32)), (.ref a0_)])) _
    refine XS.iconst X2.here hx rfl (hb hby d2_30) ?_
    show Steps p.tables e below (T2.setTop (mkF m 31 #[rv a0_, iv (0 : Int32), iv (y0 &&& (255 : Int32)), iv (4 : Int32), .unset, .unset] [(.int (1 : Int32)), (.int (0 : Int32)), (.ref a0_)])) _
    refine XS.iadd X2.here hx rfl (hb hby d2_31) rfl ?_
    show Steps p.tables e below (T2.setTop (mkF m 32 #[rv a0_, iv (0 : Int32), iv (y0 &&& (255 : Int32)), iv (4 : Int32), .unset, .unset] [(.int (1 : Int32)), (.ref a0_)])) _
    refine X2.baloadBytes hx (j := (1 : Int32)) (v := (.int y1)) (by rw [e2]; exact Ar33.1) (State.isArrayOf_alike hZ.alike Ar33.2.1) Ar33.2.2 hin33 (Has.at Ha33 hin33 rfl) (g := (mkF m 32 #[rv a0_, iv (0 : Int32), iv (y0 &&& (255 : Int32)), iv (4 : Int32), .unset, .unset] [(.int (1 : Int32)), (.ref a0_)])) rfl rfl (hb hby d2_32) _ ?_
    show Steps p.tables e below (T2.setTop (mkF m 33 #[rv a0_, iv (0 : Int32), iv (y0 &&& (255 : Int32)), iv (4 : Int32), .unset, .unset] [(.int y1)])) _
    refine XS.sipush X2.here hx rfl (hb hby d2_33) ?_
    show Steps p.tables e below (T2.setTop (mkF m 36 #[rv a0_, iv (0 : Int32), iv (y0 &&& (255 : Int32)), iv (4 : Int32), .unset, .unset] [(.int (255 : Int32)), (.int y1)])) _
    refine XS.iand X2.here hx rfl (hb hby d2_36) rfl ?_
    show Steps p.tables e below (T2.setTop (mkF m 37 #[rv a0_, iv (0 : Int32), iv (y0 &&& (255 : Int32)), iv (4 : Int32), .unset, .unset] [(.int (y1 &&& (255 : Int32)))])) _
    refine XS.istore X2.here hx rfl (hb hby d2_37) rfl (l' := #[rv a0_, iv (0 : Int32), iv (y0 &&& (255 : Int32)), iv (4 : Int32), iv (y1 &&& (255 : Int32)), .unset]) rfl ?_
    show Steps p.tables e below (T2.setTop (mkF m 39 #[rv a0_, iv (0 : Int32), iv (y0 &&& (255 : Int32)), iv (4 : Int32), iv (y1 &&& (255 : Int32)), .unset] [])) _
    refine XS.iload X2.here hx rfl (hb hby d2_39) rfl ?_
    show Steps p.tables e below (T2.setTop (mkF m 41 #[rv a0_, iv (0 : Int32), iv (y0 &&& (255 : Int32)), iv (4 : Int32), iv (y1 &&& (255 : Int32)), .unset] [(.int (y1 &&& (255 : Int32)))])) _
    refine st34 _ ?_
    show Steps p.tables e below (T34.setTop (mkF m 44 #[rv a0_, iv (0 : Int32), iv (y0 &&& (255 : Int32)), iv (4 : Int32), iv (y1 &&& (255 : Int32)), .unset] [(.ref sa), (.int (y1 &&& (255 : Int32)))])) _
    refine XS.iloadN X34.here hx rfl (hb hby d2_44) rfl ?_
    show Steps p.tables e below (T34.setTop (mkF m 45 #[rv a0_, iv (0 : Int32), iv (y0 &&& (255 : Int32)), iv (4 : Int32), iv (y1 &&& (255 : Int32)), .unset] [(.int (y0 &&& (255 : Int32))), (.ref sa), (.int (y1 &&& (255 : Int32)))])) _
    refine X34.iaload hx (j := (y0 &&& (255 : Int32))) (v := (.int (own_lo (y0 &&& (255 : Int32))))) (by rw [e34]; exact (hT2.1.ext hO.2).1) (State.isArrayOf_alike hZ.alike hT2.1.2.1) hT2.1.2.2 hin35 (hT2.2.2 _ hin35) (g := (mkF m 45 #[rv a0_, iv (0 : Int32), iv (y0 &&& (255 : Int32)), iv (4 : Int32), iv (y1 &&& (255 : Int32)), .unset] [(.int (y0 &&& (255 : Int32))), (.ref sa), (.int (y1 &&& (255 : Int32)))])) rfl rfl (hb hby d2_45) _ ?_
    exact k
  by_cases hc37 : (y1 &&& (255 : Int32)) < (own_lo (y0 &&& (255 : Int32)))
  · skip
    obtain ⟨fs, hr, hrun, hended, hW, hsame⟩ := X34.leave (v := some (.int (0 : Int32))) (fun h => by rw [Bd.returns] at h; cases h)
    refine ⟨_, _, S36 _ ?_, hrun, hended, _, _, rfl, ?_, ⟨_, rfl⟩, hW, hsame.mono (by decide) (by decide)⟩
    · skip
      show Steps p.tables e below (T34.setTop (mkF m 46 #[rv a0_, iv (0 : Int32), iv (y0 &&& (255 : Int32)), iv (4 : Int32), iv (y1 &&& (255 : Int32)), .unset] [(.int (own_lo (y0 &&& (255 : Int32)))), (.int (y1 &&& (255 : Int32)))])) _
      refine XS.icmpYes X34.here hx rfl (pc0 := 46) (pc' := 59) rfl (hb hby d2_46) rfl (tlt hc37).1 (by decide) (by decide) ?_
      show Steps p.tables e below (T34.setTop (mkF m 59 #[rv a0_, iv (0 : Int32), iv (y0 &&& (255 : Int32)), iv (4 : Int32), iv (y1 &&& (255 : Int32)), .unset] [])) _
      refine XS.iconst X34.here hx rfl (hb hby d2_59) ?_
      show Steps p.tables e below (T34.setTop (mkF m 60 #[rv a0_, iv (0 : Int32), iv (y0 &&& (255 : Int32)), iv (4 : Int32), iv (y1 &&& (255 : Int32)), .unset] [(.int (0 : Int32))])) _
      exact retI X34 hx Bd.returns (hb hby d2_60) hr
    · show QSL04 Z a0_ kk y0 y1 y2 y3 la lc sa sc ta tc h0 n0 _ T34.heap _
      rw [e34]
      exact ⟨(by unfold own_sl4; rw [if_neg hL5, if_neg hL6, if_neg hL17, if_pos hc37]), N0, rfl⟩
  · skip
    obtain ⟨T38, X38, e38, st38⟩ := getS2 X34 hx hZ hown (host := "") (Or.inl (hw _ (List.mem_of_getElem? (i := 16) rfl))) Via.refl e34 (hS3.ext hO.2) (g := (mkF m 51 #[rv a0_, iv (0 : Int32), iv (y0 &&& (255 : Int32)), iv (4 : Int32), iv (y1 &&& (255 : Int32)), .unset] [(.int (y1 &&& (255 : Int32)))])) rfl (hb hby d2_51)
    have hin39 : ¬ ((y0 &&& (255 : Int32)) < 0 ∨ tc.slots.size ≤ ((y0 &&& (255 : Int32))).toNatClampNeg) := inb_of hT3.2.1 (own_255 _)
    have S40 : ∀ t, Steps p.tables e below (T38.setTop (mkF m 56 #[rv a0_, iv (0 : Int32), iv (y0 &&& (255 : Int32)), iv (4 : Int32), iv (y1 &&& (255 : Int32)), .unset] [(.int (own_hi (y0 &&& (255 : Int32)))), (.int (y1 &&& (255 : Int32)))])) t → Steps p.tables e below (s₁.setTop (entryFrame m #[(.ref a0_), (.int (0 : Int32))] 6)) t := by
      intro t k
      refine S36 t ?_
      show Steps p.tables e below (T34.setTop (mkF m 46 #[rv a0_, iv (0 : Int32), iv (y0 &&& (255 : Int32)), iv (4 : Int32), iv (y1 &&& (255 : Int32)), .unset] [(.int (own_lo (y0 &&& (255 : Int32)))), (.int (y1 &&& (255 : Int32)))])) _
      refine XS.icmpNo X34.here hx rfl (hb hby d2_46) rfl (flt hc37).1 ?_
      show Steps p.tables e below (T34.setTop (mkF m 49 #[rv a0_, iv (0 : Int32), iv (y0 &&& (255 : Int32)), iv (4 : Int32), iv (y1 &&& (255 : Int32)), .unset] [])) _
      refine XS.iload X34.here hx rfl (hb hby d2_49) rfl ?_
      show Steps p.tables e below (T34.setTop (mkF m 51 #[rv a0_, iv (0 : Int32), iv (y0 &&& (255 : Int32)), iv (4 : Int32), iv (y1 &&& (255 : Int32)), .unset] [(.int (y1 &&& (255 : Int32)))])) _
      refine st38 _ ?_
      show Steps p.tables e below (T38.setTop (mkF m 54 #[rv a0_, iv (0 : Int32), iv (y0 &&& (255 : Int32)), iv (4 : Int32), iv (y1 &&& (255 : Int32)), .unset] [(.ref ta), (.int (y1 &&& (255 : Int32)))])) _
      refine XS.iloadN X38.here hx rfl (hb hby d2_54) rfl ?_
      show Steps p.tables e below (T38.setTop (mkF m 55 #[rv a0_, iv (0 : Int32), iv (y0 &&& (255 : Int32)), iv (4 : Int32), iv (y1 &&& (255 : Int32)), .unset] [(.int (y0 &&& (255 : Int32))), (.ref ta), (.int (y1 &&& (255 : Int32)))])) _
      refine X38.iaload hx (j := (y0 &&& (255 : Int32))) (v := (.int (own_hi (y0 &&& (255 : Int32))))) (by rw [e38]; exact (hT3.1.ext hO.2).1) (State.isArrayOf_alike hZ.alike hT3.1.2.1) hT3.1.2.2 hin39 (hT3.2.2 _ hin39) (g := (mkF m 55 #[rv a0_, iv (0 : Int32), iv (y0 &&& (255 : Int32)), iv (4 : Int32), iv (y1 &&& (255 : Int32)), .unset] [(.int (y0 &&& (255 : Int32))), (.ref ta), (.int (y1 &&& (255 : Int32)))])) rfl rfl (hb hby d2_55) _ ?_
      exact k
    by_cases hc41 : (own_hi (y0 &&& (255 : Int32))) < (y1 &&& (255 : Int32))
    · skip
      obtain ⟨fs, hr, hrun, hended, hW, hsame⟩ := X38.leave (v := some (.int (0 : Int32))) (fun h => by rw [Bd.returns] at h; cases h)
      refine ⟨_, _, S40 _ ?_, hrun, hended, _, _, rfl, ?_, ⟨_, rfl⟩, hW, hsame.mono (by decide) (by decide)⟩
      · skip
        show Steps p.tables e below (T38.setTop (mkF m 56 #[rv a0_, iv (0 : Int32), iv (y0 &&& (255 : Int32)), iv (4 : Int32), iv (y1 &&& (255 : Int32)), .unset] [(.int (own_hi (y0 &&& (255 : Int32)))), (.int (y1 &&& (255 : Int32)))])) _
        refine XS.icmpNo X38.here hx rfl (hb hby d2_56) rfl (tlt hc41).2.2.2 ?_
        show Steps p.tables e below (T38.setTop (mkF m 59 #[rv a0_, iv (0 : Int32), iv (y0 &&& (255 : Int32)), iv (4 : Int32), iv (y1 &&& (255 : Int32)), .unset] [])) _
        refine XS.iconst X38.here hx rfl (hb hby d2_59) ?_
        show Steps p.tables e below (T38.setTop (mkF m 60 #[rv a0_, iv (0 : Int32), iv (y0 &&& (255 : Int32)), iv (4 : Int32), iv (y1 &&& (255 : Int32)), .unset] [(.int (0 : Int32))])) _
        exact retI X38 hx Bd.returns (hb hby d2_60) hr
      · show QSL04 Z a0_ kk y0 y1 y2 y3 la lc sa sc ta tc h0 n0 _ T38.heap _
        rw [e38]
        exact ⟨(by unfold own_sl4; rw [if_neg hL5, if_neg hL6, if_neg hL17, if_neg hc37, if_pos hc41]), N0, rfl⟩
    · skip
      obtain ⟨cl42, Ar42, qa42, Sa42, Na42, Ha42, Ga42⟩ := id V0
      have hin42 : ¬ ((2 : Int32) < 0 ∨ cl42.slots.size ≤ ((2 : Int32)).toNatClampNeg) := inb_of Sa42 ⟨by decide, by decide⟩
      have S43 : ∀ t, Steps p.tables e below (T38.setTop (mkF m 85 #[rv a0_, iv (0 : Int32), iv (y0 &&& (255 : Int32)), iv (4 : Int32), iv (y1 &&& (255 : Int32)), iv (2 : Int32)] [(.int (128 : Int32)), (.int (y2 &&& (192 : Int32)))])) t → Steps p.tables e below (s₁.setTop (entryFrame m #[(.ref a0_), (.int (0 : Int32))] 6)) t := by
        intro t k
        refine S40 t ?_
        show Steps p.tables e below (T38.setTop (mkF m 56 #[rv a0_, iv (0 : Int32), iv (y0 &&& (255 : Int32)), iv (4 : Int32), iv (y1 &&& (255 : Int32)), .unset] [(.int (own_hi (y0 &&& (255 : Int32)))), (.int (y1 &&& (255 : Int32)))])) _
        refine XS.icmpYes X38.here hx rfl (pc0 := 56) (pc' := 61) rfl (hb hby d2_56) rfl (flt hc41).2.2.2 (by decide) (by decide) ?_
        show Steps p.tables e below (T38.setTop (mkF m 61 #[rv a0_, iv (0 : Int32), iv (y0 &&& (255 : Int32)), iv (4 : Int32), iv (y1 &&& (255 : Int32)), .unset] [])) _
        refine XS.iloadN X38.here hx rfl (hb hby d2_61) rfl ?_
        show Steps p.tables e below (T38.setTop (mkF m 62 #[rv a0_, iv (0 : Int32), iv (y0 &&& (255 : Int32)), iv (4 : Int32), iv (y1 &&& (255 : Int32)), .unset] [(.int (0 : Int32))])) _
        refine XS.iconst X38.here hx rfl (hb hby d2_62) ?_
        show Steps p.tables e below (T38.setTop (mkF m 63 #[rv a0_, iv (0 : Int32), iv (y0 &&& (255 : Int32)), iv (4 : Int32), iv (y1 &&& (255 : Int32)), .unset] [(.int (2 : Int32)), (.int (0 : Int32))])) _
        refine XS.iadd X38.here hx rfl (hb hby d2_63) rfl ?_
        show Steps p.tables e below (T38.setTop (mkF m 64 #[rv a0_, iv (0 : Int32), iv (y0 &&& (255 : Int32)), iv (4 : Int32), iv (y1 &&& (255 : Int32)), .unset] [(.int (2 : Int32))])) _
        refine XS.istore X38.here hx rfl (hb hby d2_64) rfl (l' := #[rv a0_, iv (0 : Int32), iv (y0 &&& (255 : Int32)), iv (4 : Int32), iv (y1 &&& (255 : Int32)), iv (2 : Int32)]) rfl ?_
        show Steps p.tables e below (T38.setTop (mkF m 66 #[rv a0_, iv (0 : Int32), iv (y0 &&& (255 : Int32)), iv (4 : Int32), iv (y1 &&& (255 : Int32)), iv (2 : Int32)] [])) _
        refine XS.iload X38.here hx rfl (hb hby d2_66) rfl ?_
        show Steps p.tables e below (T38.setTop (mkF m 68 #[rv a0_, iv (0 : Int32), iv (y0 &&& (255 : Int32)), iv (4 : Int32), iv (y1 &&& (255 : Int32)), iv (2 : Int32)] [(.int (2 : Int32))])) _
        refine XS.iloadN X38.here hx rfl (hb hby d2_68) rfl ?_
        show Steps p.tables e below (T38.setTop (mkF m 69 #[rv a0_, iv (0 : Int32), iv (y0 &&& (255 : Int32)), iv (4 : Int32), iv (y1 &&& (255 : Int32)), iv (2 : Int32)] [(.int (0 : Int32)), (.int (2 : Int32))])) _
        refine XS.iloadN X38.here hx rfl (hb hby d2_69) rfl ?_
        show Steps p.tables e below (T38.setTop (mkF m 70 #[rv a0_, iv (0 : Int32), iv (y0 &&& (255 : Int32)), iv (4 : Int32), iv (y1 &&& (255 : Int32)), iv (2 : Int32)] [(.int (4 : Int32)), (.int (0 : Int32)), (.int (2 : Int32))])) _
        refine XS.iadd X38.here hx rfl (hb hby d2_70) rfl ?_
        show Steps p.tables e below (T38.setTop (mkF m 71 #[rv a0_, iv (0 : Int32), iv (y0 &&& (255 : Int32)), iv (4 : Int32), iv (y1 &&& (255 : Int32)), iv (2 : Int32)] [(.int (4 : Int32)), (.int (2 : Int32))])) _
        refine XS.icmpNo X38.here hx rfl (hb hby d2_71) rfl (tlt (by decide : (2 : Int32) < (4 : Int32))).2.1 ?_
        show Steps p.tables e below (T38.setTop (mkF m 74 #[rv a0_, iv (0 : Int32), iv (y0 &&& (255 : Int32)), iv (4 : Int32), iv (y1 &&& (255 : Int32)), iv (2 : Int32)] [])) _
        refine XS.aloadN X38.here hx rfl (hb hby d2_74) rfl rfl ?_
        show Steps p.tables e below (T38.setTop (mkF m 75 #[rv a0_, iv (0 : Int32), iv (y0 &&& (255 : Int32)), iv (4 : Int32), iv (y1 &&& (255 : Int32)), iv (2 : Int32)] [(.ref a0_)])) _
        refine XS.iload X38.here hx rfl (hb hby d2_75) rfl ?_
        show Steps p.tables e below (T38.setTop (mkF m 77 #[rv a0_, iv (0 : Int32), iv (y0 &&& (255 : Int32)), iv (4 : Int32), iv (y1 &&& (255 : Int32)), iv (2 : Int32)] [(.int (2 : Int32)), (.ref a0_)])) _
        refine X38.baloadBytes hx (j := (2 : Int32)) (v := (.int y2)) (by rw [e38]; exact Ar42.1) (State.isArrayOf_alike hZ.alike Ar42.2.1) Ar42.2.2 hin42 (Has.at Ha42 hin42 rfl) (g := (mkF m 77 #[rv a0_, iv (0 : Int32), iv (y0 &&& (255 : Int32)), iv (4 : Int32), iv (y1 &&& (255 : Int32)), iv (2 : Int32)] [(.int (2 : Int32)), (.ref a0_)])) rfl rfl (hb hby d2_77) _ ?_
        show Steps p.tables e below (T38.setTop (mkF m 78 #[rv a0_, iv (0 : Int32), iv (y0 &&& (255 : Int32)), iv (4 : Int32), iv (y1 &&& (255 : Int32)), iv (2 : Int32)] [(.int y2)])) _
        refine XS.sipush X38.here hx rfl (hb hby d2_78) ?_
        show Steps p.tables e below (T38.setTop (mkF m 81 #[rv a0_, iv (0 : Int32), iv (y0 &&& (255 : Int32)), iv (4 : Int32), iv (y1 &&& (255 : Int32)), iv (2 : Int32)] [(.int (192 : Int32)), (.int y2)])) _
        refine XS.iand X38.here hx rfl (hb hby d2_81) rfl ?_
        show Steps p.tables e below (T38.setTop (mkF m 82 #[rv a0_, iv (0 : Int32), iv (y0 &&& (255 : Int32)), iv (4 : Int32), iv (y1 &&& (255 : Int32)), iv (2 : Int32)] [(.int (y2 &&& (192 : Int32)))])) _
        refine XS.sipush X38.here hx rfl (hb hby d2_82) ?_
        exact k
      by_cases hc44 : (y2 &&& (192 : Int32)) = (128 : Int32)
      · skip
        obtain ⟨cl45, Ar45, qa45, Sa45, Na45, Ha45, Ga45⟩ := id V0
        have hin45 : ¬ ((3 : Int32) < 0 ∨ cl45.slots.size ≤ ((3 : Int32)).toNatClampNeg) := inb_of Sa45 ⟨by decide, by decide⟩
        have S46 : ∀ t, Steps p.tables e below (T38.setTop (mkF m 85 #[rv a0_, iv (0 : Int32), iv (y0 &&& (255 : Int32)), iv (4 : Int32), iv (y1 &&& (255 : Int32)), iv (3 : Int32)] [(.int (128 : Int32)), (.int (y3 &&& (192 : Int32)))])) t → Steps p.tables e below (s₁.setTop (entryFrame m #[(.ref a0_), (.int (0 : Int32))] 6)) t := by
          intro t k
          refine S43 t ?_
          show Steps p.tables e below (T38.setTop (mkF m 85 #[rv a0_, iv (0 : Int32), iv (y0 &&& (255 : Int32)), iv (4 : Int32), iv (y1 &&& (255 : Int32)), iv (2 : Int32)] [(.int (128 : Int32)), (.int (y2 &&& (192 : Int32)))])) _
          refine XS.icmpYes X38.here hx rfl (pc0 := 85) (pc' := 90) rfl (hb hby d2_85) rfl (teq hc44).1 (by decide) (by decide) ?_
          show Steps p.tables e below (T38.setTop (mkF m 90 #[rv a0_, iv (0 : Int32), iv (y0 &&& (255 : Int32)), iv (4 : Int32), iv (y1 &&& (255 : Int32)), iv (2 : Int32)] [])) _
          refine XS.iinc X38.here hx rfl (hb hby d2_90) rfl (l' := #[rv a0_, iv (0 : Int32), iv (y0 &&& (255 : Int32)), iv (4 : Int32), iv (y1 &&& (255 : Int32)), iv (3 : Int32)]) rfl ?_
          show Steps p.tables e below (T38.setTop (mkF m 93 #[rv a0_, iv (0 : Int32), iv (y0 &&& (255 : Int32)), iv (4 : Int32), iv (y1 &&& (255 : Int32)), iv (3 : Int32)] [])) _
          refine XS.goto X38.here hx rfl (pc0 := 93) (pc' := 66) rfl (hb hby d2_93) (by decide) (by decide) ?_
          show Steps p.tables e below (T38.setTop (mkF m 66 #[rv a0_, iv (0 : Int32), iv (y0 &&& (255 : Int32)), iv (4 : Int32), iv (y1 &&& (255 : Int32)), iv (3 : Int32)] [])) _
          refine XS.iload X38.here hx rfl (hb hby d2_66) rfl ?_
          show Steps p.tables e below (T38.setTop (mkF m 68 #[rv a0_, iv (0 : Int32), iv (y0 &&& (255 : Int32)), iv (4 : Int32), iv (y1 &&& (255 : Int32)), iv (3 : Int32)] [(.int (3 : Int32))])) _
          refine XS.iloadN X38.here hx rfl (hb hby d2_68) rfl ?_
          show Steps p.tables e below (T38.setTop (mkF m 69 #[rv a0_, iv (0 : Int32), iv (y0 &&& (255 : Int32)), iv (4 : Int32), iv (y1 &&& (255 : Int32)), iv (3 : Int32)] [(.int (0 : Int32)), (.int (3 : Int32))])) _
          refine XS.iloadN X38.here hx rfl (hb hby d2_69) rfl ?_
          show Steps p.tables e below (T38.setTop (mkF m 70 #[rv a0_, iv (0 : Int32), iv (y0 &&& (255 : Int32)), iv (4 : Int32), iv (y1 &&& (255 : Int32)), iv (3 : Int32)] [(.int (4 : Int32)), (.int (0 : Int32)), (.int (3 : Int32))])) _
          refine XS.iadd X38.here hx rfl (hb hby d2_70) rfl ?_
          show Steps p.tables e below (T38.setTop (mkF m 71 #[rv a0_, iv (0 : Int32), iv (y0 &&& (255 : Int32)), iv (4 : Int32), iv (y1 &&& (255 : Int32)), iv (3 : Int32)] [(.int (4 : Int32)), (.int (3 : Int32))])) _
          refine XS.icmpNo X38.here hx rfl (hb hby d2_71) rfl (tlt (by decide : (3 : Int32) < (4 : Int32))).2.1 ?_
          show Steps p.tables e below (T38.setTop (mkF m 74 #[rv a0_, iv (0 : Int32), iv (y0 &&& (255 : Int32)), iv (4 : Int32), iv (y1 &&& (255 : Int32)), iv (3 : Int32)] [])) _
          refine XS.aloadN X38.here hx rfl (hb hby d2_74) rfl rfl ?_
          show Steps p.tables e below (T38.setTop (mkF m 75 #[rv a0_, iv (0 : Int32), iv (y0 &&& (255 : Int32)), iv (4 : Int32), iv (y1 &&& (255 : Int32)), iv (3 : Int32)] [(.ref a0_)])) _
          refine XS.iload X38.here hx rfl (hb hby d2_75) rfl ?_
          show Steps p.tables e below (T38.setTop (mkF m 77 #[rv a0_, iv (0 : Int32), iv (y0 &&& (255 : Int32)), iv (4 : Int32), iv (y1 &&& (255 : Int32)), iv (3 : Int32)] [(.int (3 : Int32)), (.ref a0_)])) _
          refine X38.baloadBytes hx (j := (3 : Int32)) (v := (.int y3)) (by rw [e38]; exact Ar45.1) (State.isArrayOf_alike hZ.alike Ar45.2.1) Ar45.2.2 hin45 (Has.at Ha45 hin45 rfl) (g := (mkF m 77 #[rv a0_, iv (0 : Int32), iv (y0 &&& (255 : Int32)), iv (4 : Int32), iv (y1 &&& (255 : Int32)), iv (3 : Int32)] [(.int (3 : Int32)), (.ref a0_)])) rfl rfl (hb hby d2_77) _ ?_
          show Steps p.tables e below (T38.setTop (mkF m 78 #[rv a0_, iv (0 : Int32), iv (y0 &&& (255 : Int32)), iv (4 : Int32), iv (y1 &&& (255 : Int32)), iv (3 : Int32)] [(.int y3)])) _
          refine XS.sipush X38.here hx rfl (hb hby d2_78) ?_
          show Steps p.tables e below (T38.setTop (mkF m 81 #[rv a0_, iv (0 : Int32), iv (y0 &&& (255 : Int32)), iv (4 : Int32), iv (y1 &&& (255 : Int32)), iv (3 : Int32)] [(.int (192 : Int32)), (.int y3)])) _
          refine XS.iand X38.here hx rfl (hb hby d2_81) rfl ?_
          show Steps p.tables e below (T38.setTop (mkF m 82 #[rv a0_, iv (0 : Int32), iv (y0 &&& (255 : Int32)), iv (4 : Int32), iv (y1 &&& (255 : Int32)), iv (3 : Int32)] [(.int (y3 &&& (192 : Int32)))])) _
          refine XS.sipush X38.here hx rfl (hb hby d2_82) ?_
          exact k
        by_cases hc47 : (y3 &&& (192 : Int32)) = (128 : Int32)
        · skip
          obtain ⟨fs, hr, hrun, hended, hW, hsame⟩ := X38.leave (v := some (.int (4 : Int32))) (fun h => by rw [Bd.returns] at h; cases h)
          refine ⟨_, _, S46 _ ?_, hrun, hended, _, _, rfl, ?_, ⟨_, rfl⟩, hW, hsame.mono (by decide) (by decide)⟩
          · skip
            show Steps p.tables e below (T38.setTop (mkF m 85 #[rv a0_, iv (0 : Int32), iv (y0 &&& (255 : Int32)), iv (4 : Int32), iv (y1 &&& (255 : Int32)), iv (3 : Int32)] [(.int (128 : Int32)), (.int (y3 &&& (192 : Int32)))])) _
            refine XS.icmpYes X38.here hx rfl (pc0 := 85) (pc' := 90) rfl (hb hby d2_85) rfl (teq hc47).1 (by decide) (by decide) ?_
            show Steps p.tables e below (T38.setTop (mkF m 90 #[rv a0_, iv (0 : Int32), iv (y0 &&& (255 : Int32)), iv (4 : Int32), iv (y1 &&& (255 : Int32)), iv (3 : Int32)] [])) _
            refine XS.iinc X38.here hx rfl (hb hby d2_90) rfl (l' := #[rv a0_, iv (0 : Int32), iv (y0 &&& (255 : Int32)), iv (4 : Int32), iv (y1 &&& (255 : Int32)), iv (4 : Int32)]) rfl ?_
            show Steps p.tables e below (T38.setTop (mkF m 93 #[rv a0_, iv (0 : Int32), iv (y0 &&& (255 : Int32)), iv (4 : Int32), iv (y1 &&& (255 : Int32)), iv (4 : Int32)] [])) _
            refine XS.goto X38.here hx rfl (pc0 := 93) (pc' := 66) rfl (hb hby d2_93) (by decide) (by decide) ?_
            show Steps p.tables e below (T38.setTop (mkF m 66 #[rv a0_, iv (0 : Int32), iv (y0 &&& (255 : Int32)), iv (4 : Int32), iv (y1 &&& (255 : Int32)), iv (4 : Int32)] [])) _
            refine XS.iload X38.here hx rfl (hb hby d2_66) rfl ?_
            show Steps p.tables e below (T38.setTop (mkF m 68 #[rv a0_, iv (0 : Int32), iv (y0 &&& (255 : Int32)), iv (4 : Int32), iv (y1 &&& (255 : Int32)), iv (4 : Int32)] [(.int (4 : Int32))])) _
            refine XS.iloadN X38.here hx rfl (hb hby d2_68) rfl ?_
            show Steps p.tables e below (T38.setTop (mkF m 69 #[rv a0_, iv (0 : Int32), iv (y0 &&& (255 : Int32)), iv (4 : Int32), iv (y1 &&& (255 : Int32)), iv (4 : Int32)] [(.int (0 : Int32)), (.int (4 : Int32))])) _
            refine XS.iloadN X38.here hx rfl (hb hby d2_69) rfl ?_
            show Steps p.tables e below (T38.setTop (mkF m 70 #[rv a0_, iv (0 : Int32), iv (y0 &&& (255 : Int32)), iv (4 : Int32), iv (y1 &&& (255 : Int32)), iv (4 : Int32)] [(.int (4 : Int32)), (.int (0 : Int32)), (.int (4 : Int32))])) _
            refine XS.iadd X38.here hx rfl (hb hby d2_70) rfl ?_
            show Steps p.tables e below (T38.setTop (mkF m 71 #[rv a0_, iv (0 : Int32), iv (y0 &&& (255 : Int32)), iv (4 : Int32), iv (y1 &&& (255 : Int32)), iv (4 : Int32)] [(.int (4 : Int32)), (.int (4 : Int32))])) _
            refine XS.icmpYes X38.here hx rfl (pc0 := 71) (pc' := 96) rfl (hb hby d2_71) rfl (flt (by decide : ¬ ((4 : Int32) < (4 : Int32)))).2.1 (by decide) (by decide) ?_
            show Steps p.tables e below (T38.setTop (mkF m 96 #[rv a0_, iv (0 : Int32), iv (y0 &&& (255 : Int32)), iv (4 : Int32), iv (y1 &&& (255 : Int32)), iv (4 : Int32)] [])) _
            refine XS.iloadN X38.here hx rfl (hb hby d2_96) rfl ?_
            show Steps p.tables e below (T38.setTop (mkF m 97 #[rv a0_, iv (0 : Int32), iv (y0 &&& (255 : Int32)), iv (4 : Int32), iv (y1 &&& (255 : Int32)), iv (4 : Int32)] [(.int (4 : Int32))])) _
            exact retI X38 hx Bd.returns (hb hby d2_97) hr
          · show QSL04 Z a0_ kk y0 y1 y2 y3 la lc sa sc ta tc h0 n0 _ T38.heap _
            rw [e38]
            exact ⟨(by unfold own_sl4; rw [if_neg hL5, if_neg hL6, if_neg hL17, if_neg hc37, if_neg hc41, if_pos hc44, if_pos hc47]), N0, rfl⟩
        · skip
          obtain ⟨fs, hr, hrun, hended, hW, hsame⟩ := X38.leave (v := some (.int (0 : Int32))) (fun h => by rw [Bd.returns] at h; cases h)
          refine ⟨_, _, S46 _ ?_, hrun, hended, _, _, rfl, ?_, ⟨_, rfl⟩, hW, hsame.mono (by decide) (by decide)⟩
          · skip
            show Steps p.tables e below (T38.setTop (mkF m 85 #[rv a0_, iv (0 : Int32), iv (y0 &&& (255 : Int32)), iv (4 : Int32), iv (y1 &&& (255 : Int32)), iv (3 : Int32)] [(.int (128 : Int32)), (.int (y3 &&& (192 : Int32)))])) _
            refine XS.icmpNo X38.here hx rfl (hb hby d2_85) rfl (feq hc47).1 ?_
            show Steps p.tables e below (T38.setTop (mkF m 88 #[rv a0_, iv (0 : Int32), iv (y0 &&& (255 : Int32)), iv (4 : Int32), iv (y1 &&& (255 : Int32)), iv (3 : Int32)] [])) _
            refine XS.iconst X38.here hx rfl (hb hby d2_88) ?_
            show Steps p.tables e below (T38.setTop (mkF m 89 #[rv a0_, iv (0 : Int32), iv (y0 &&& (255 : Int32)), iv (4 : Int32), iv (y1 &&& (255 : Int32)), iv (3 : Int32)] [(.int (0 : Int32))])) _
            exact retI X38 hx Bd.returns (hb hby d2_89) hr
          · show QSL04 Z a0_ kk y0 y1 y2 y3 la lc sa sc ta tc h0 n0 _ T38.heap _
            rw [e38]
            exact ⟨(by unfold own_sl4; rw [if_neg hL5, if_neg hL6, if_neg hL17, if_neg hc37, if_neg hc41, if_pos hc44, if_neg hc47]), N0, rfl⟩
      · skip
        obtain ⟨fs, hr, hrun, hended, hW, hsame⟩ := X38.leave (v := some (.int (0 : Int32))) (fun h => by rw [Bd.returns] at h; cases h)
        refine ⟨_, _, S43 _ ?_, hrun, hended, _, _, rfl, ?_, ⟨_, rfl⟩, hW, hsame.mono (by decide) (by decide)⟩
        · skip
          show Steps p.tables e below (T38.setTop (mkF m 85 #[rv a0_, iv (0 : Int32), iv (y0 &&& (255 : Int32)), iv (4 : Int32), iv (y1 &&& (255 : Int32)), iv (2 : Int32)] [(.int (128 : Int32)), (.int (y2 &&& (192 : Int32)))])) _
          refine XS.icmpNo X38.here hx rfl (hb hby d2_85) rfl (feq hc44).1 ?_
          show Steps p.tables e below (T38.setTop (mkF m 88 #[rv a0_, iv (0 : Int32), iv (y0 &&& (255 : Int32)), iv (4 : Int32), iv (y1 &&& (255 : Int32)), iv (2 : Int32)] [])) _
          refine XS.iconst X38.here hx rfl (hb hby d2_88) ?_
          show Steps p.tables e below (T38.setTop (mkF m 89 #[rv a0_, iv (0 : Int32), iv (y0 &&& (255 : Int32)), iv (4 : Int32), iv (y1 &&& (255 : Int32)), iv (2 : Int32)] [(.int (0 : Int32))])) _
          exact retI X38 hx Bd.returns (hb hby d2_89) hr
        · show QSL04 Z a0_ kk y0 y1 y2 y3 la lc sa sc ta tc h0 n0 _ T38.heap _
          rw [e38]
          exact ⟨(by unfold own_sl4; rw [if_neg hL5, if_neg hL6, if_neg hL17, if_neg hc37, if_neg hc41, if_neg hc44]), N0, rfl⟩
def QSL11 (Z : State) (a0_ : Addr) (kk : ClassId) (z0 : Int32) (y0 : Int32) (la : Addr) (lc : Cell) (sa : Addr) (sc : Cell) (ta : Addr) (tc : Cell) (h0 : Heap) (n0 : Nat) (v : Option Value) (h : Heap) (L : List Loc) : Prop := v = some (.int (own_sl1 y0)) ∧ Fr n0 L ∧ h = h0
theorem ef_rmSL11 (m : MethodId) (a0_ : Addr) : entryFrame m #[(.ref a0_), (.int (1 : Int32))] 6 = mkF m 0 #[rv a0_, iv (1 : Int32), .unset, .unset, .unset, .unset] [] := by first | (simp [entryFrame, mkF, argsToLocals, Value.category]; done) | rfl
set_option maxRecDepth 65536 in
set_option maxHeartbeats 40000000 in
theorem rmSL11 (l : Launch) (Z : State) (a0 : Array Value) (hw : ∀ d ∈ tables_1, d.before a0 Z = true) (ws : List Jvm.Cond) (a0_ : Addr) (kk : ClassId) (z0 : Int32) (y0 : Int32) (la : Addr) (lc : Cell) (sa : Addr) (sc : Cell) (ta : Addr) (tc : Cell) (h0 : Heap) (n0 : Nat) (Z0 : n0 ≤ h0.size) (V0 : Arv Z h0 a0_ kk .byte (2 : Int32) [(.int z0), (.int y0)] (.int (0 : Int32))) (hO : Old Z n0 h0) (hS1 : Sta Z Z.heap "com/example/rivanna/rivanna/core/json/Utf8" "LENGTH" "[I" (.ref la)) (hT1 : own_Tab Z la lc own_L) (hS2 : Sta Z Z.heap "com/example/rivanna/rivanna/core/json/Utf8" "SECOND_LOW" "[I" (.ref sa)) (hT2 : own_Tab Z sa sc own_lo) (hS3 : Sta Z Z.heap "com/example/rivanna/rivanna/core/json/Utf8" "SECOND_HIGH" "[I" (.ref ta)) (hT3 : own_Tab Z ta tc own_hi) :
    MetFree l (⟨"com/example/rivanna/rivanna/core/json/Utf8", "sequenceLength", "([BI)I"⟩ : MethodName) (head1 (Jvm.Cond.code (⟨"com/example/rivanna/rivanna/core/json/Utf8", "sequenceLength", "([BI)I"⟩ : MethodName) prog_28_method_3_code 6 (some .int) :: ws) ({ frames := 0, cells := 0, slots := 0, locals := 0 } : Room)) (fun a U => a = #[(.ref a0_), (.int (1 : Int32))] ∧ Z.Warmed39 U.vm ∧ U.heap = h0) (fun _ _ _ _ _ => True) (fun _ U o U' => ∃ v L, o = .returned v ∧ QSL11 Z a0_ kk z0 y0 la lc sa sc ta tc h0 n0 v U'.heap L ∧ FrameEnd U o U' L ({ frames := 0, cells := 0, slots := 0, locals := 0 } : Room).cells ({ frames := 0, cells := 0, slots := 0, locals := 0 } : Room).slots) := by
  refine MetFree.of_bodySF (plainFor_of_name pn_1) hisR ?_
  intro p e s m args below meth c s₁ Bd hml0 hP hK
  obtain ⟨rfl, hZ, hh⟩ := hP
  have hx := Bd.exec
  have hby := Bd.bytes
  have hml : c.maxLocals = 6 := hml0
  have hown : s.vm.findClass "com/example/rivanna/rivanna/core/json/Utf8" = some m.cls := findClass_of_methodNamed Bd.named
  have hnm := (name_of_methodNamed Bd.named Bd.method).1
  have X0 : Stand p l e ({ frames := 0, cells := 0, slots := 0, locals := 0 } : Room) s m #[(.ref a0_), (.int (1 : Int32))] below meth c s₁ [] 0 0 := Stand.of_body Bd
  have e0 : s₁.heap = h0 := by rw [← hh, Bd.state]; rfl
  have N0 := Fr.nil n0
  have S0 : ∀ t, Steps p.tables e below (s₁.setTop (mkF m 0 #[rv a0_, iv (1 : Int32), .unset, .unset, .unset, .unset] [])) t → Steps p.tables e below (s₁.setTop (entryFrame m #[(.ref a0_), (.int (1 : Int32))] 6)) t := fun t k => castTop (ef_rmSL11 m a0_) k
  obtain ⟨cl1, Ar1, qa1, Sa1, Na1, Ha1, Ga1⟩ := id V0
  have hin1 : ¬ ((1 : Int32) < 0 ∨ cl1.slots.size ≤ ((1 : Int32)).toNatClampNeg) := inb_of Sa1 ⟨by decide, by decide⟩
  obtain ⟨T2, X2, e2, st2⟩ := getS2 X0 hx hZ hown (host := "") (Or.inl (hw _ (List.mem_of_getElem? (i := 9) rfl))) Via.refl e0 (hS1.ext hO.2) (g := (mkF m 8 #[rv a0_, iv (1 : Int32), iv (y0 &&& (255 : Int32)), .unset, .unset, .unset] [])) rfl (hb hby d2_8)
  have hin3 : ¬ ((y0 &&& (255 : Int32)) < 0 ∨ lc.slots.size ≤ ((y0 &&& (255 : Int32))).toNatClampNeg) := inb_of hT1.2.1 (own_255 _)
  have S4 : ∀ t, Steps p.tables e below (T2.setTop (mkF m 14 #[rv a0_, iv (1 : Int32), iv (y0 &&& (255 : Int32)), iv (own_L (y0 &&& (255 : Int32))), .unset, .unset] [])) t → Steps p.tables e below (s₁.setTop (entryFrame m #[(.ref a0_), (.int (1 : Int32))] 6)) t := by
    intro t k
    refine S0 t ?_
    show Steps p.tables e below (s₁.setTop (mkF m 0 #[rv a0_, iv (1 : Int32), .unset, .unset, .unset, .unset] [])) _
    refine XS.aloadN X0.here hx rfl (hb hby d2_0) rfl rfl ?_
    show Steps p.tables e below (s₁.setTop (mkF m 1 #[rv a0_, iv (1 : Int32), .unset, .unset, .unset, .unset] [(.ref a0_)])) _
    refine XS.iloadN X0.here hx rfl (hb hby d2_1) rfl ?_
    show Steps p.tables e below (s₁.setTop (mkF m 2 #[rv a0_, iv (1 : Int32), .unset, .unset, .unset, .unset] [(.int (1 : Int32)), (.ref a0_)])) _
    refine X0.baloadBytes hx (j := (1 : Int32)) (v := (.int y0)) (by rw [e0]; exact Ar1.1) (State.isArrayOf_alike hZ.alike Ar1.2.1) Ar1.2.2 hin1 (Has.at Ha1 hin1 rfl) (g := (mkF m 2 #[rv a0_, iv (1 : Int32), .unset, .unset, .unset, .unset] [(.int (1 : Int32)), (.ref a0_)])) rfl rfl (hb hby d2_2) _ ?_
    show Steps p.tables e below (s₁.setTop (mkF m 3 #[rv a0_, iv (1 : Int32), .unset, .unset, .unset, .unset] [(.int y0)])) _
    refine XS.sipush X0.here hx rfl (hb hby d2_3) ?_
    show Steps p.tables e below (s₁.setTop (mkF m 6 #[rv a0_, iv (1 : Int32), .unset, .unset, .unset, .unset] [(.int (255 : Int32)), (.int y0)])) _
    refine XS.iand X0.here hx rfl (hb hby d2_6) rfl ?_
    show Steps p.tables e below (s₁.setTop (mkF m 7 #[rv a0_, iv (1 : Int32), .unset, .unset, .unset, .unset] [(.int (y0 &&& (255 : Int32)))])) _
    refine XS.istoreN X0.here hx rfl (hb hby d2_7) rfl (l' := #[rv a0_, iv (1 : Int32), iv (y0 &&& (255 : Int32)), .unset, .unset, .unset]) rfl ?_
    show Steps p.tables e below (s₁.setTop (mkF m 8 #[rv a0_, iv (1 : Int32), iv (y0 &&& (255 : Int32)), .unset, .unset, .unset] [])) _
    refine st2 _ ?_
    show Steps p.tables e below (T2.setTop (mkF m 11 #[rv a0_, iv (1 : Int32), iv (y0 &&& (255 : Int32)), .unset, .unset, .unset] [(.ref la)])) _
    refine XS.iloadN X2.here hx rfl (hb hby d2_11) rfl ?_
    show Steps p.tables e below (T2.setTop (mkF m 12 #[rv a0_, iv (1 : Int32), iv (y0 &&& (255 : Int32)), .unset, .unset, .unset] [(.int (y0 &&& (255 : Int32))), (.ref la)])) _
    refine X2.iaload hx (j := (y0 &&& (255 : Int32))) (v := (.int (own_L (y0 &&& (255 : Int32))))) (by rw [e2]; exact (hT1.1.ext hO.2).1) (State.isArrayOf_alike hZ.alike hT1.1.2.1) hT1.1.2.2 hin3 (hT1.2.2 _ hin3) (g := (mkF m 12 #[rv a0_, iv (1 : Int32), iv (y0 &&& (255 : Int32)), .unset, .unset, .unset] [(.int (y0 &&& (255 : Int32))), (.ref la)])) rfl rfl (hb hby d2_12) _ ?_
    show Steps p.tables e below (T2.setTop (mkF m 13 #[rv a0_, iv (1 : Int32), iv (y0 &&& (255 : Int32)), .unset, .unset, .unset] [(.int (own_L (y0 &&& (255 : Int32))))])) _
    refine XS.istoreN X2.here hx rfl (hb hby d2_13) rfl (l' := #[rv a0_, iv (1 : Int32), iv (y0 &&& (255 : Int32)), iv (own_L (y0 &&& (255 : Int32))), .unset, .unset]) rfl ?_
    exact k
  by_cases hL5 : (own_L (y0 &&& (255 : Int32))) = (0 : Int32)
  · skip
    rw [hL5] at S4
    obtain ⟨fs, hr, hrun, hended, hW, hsame⟩ := X2.leave (v := some (.int (0 : Int32))) (fun h => by rw [Bd.returns] at h; cases h)
    refine ⟨_, _, S4 _ ?_, hrun, hended, _, _, rfl, ?_, ⟨_, rfl⟩, hW, hsame.mono (by decide) (by decide)⟩
    · skip
      show Steps p.tables e below (T2.setTop (mkF m 14 #[rv a0_, iv (1 : Int32), iv (y0 &&& (255 : Int32)), iv (0 : Int32), .unset, .unset] [])) _
      refine XS.iloadN X2.here hx rfl (hb hby d2_14) rfl ?_
      show Steps p.tables e below (T2.setTop (mkF m 15 #[rv a0_, iv (1 : Int32), iv (y0 &&& (255 : Int32)), iv (0 : Int32), .unset, .unset] [(.int (0 : Int32))])) _
      refine XS.ifYes X2.here hx rfl (pc0 := 15) (pc' := 26) rfl (hb hby d2_15) rfl ((if0 _ _).trans (teq (by decide : (0 : Int32) = (0 : Int32))).1) (by decide) (by decide) ?_
      show Steps p.tables e below (T2.setTop (mkF m 26 #[rv a0_, iv (1 : Int32), iv (y0 &&& (255 : Int32)), iv (0 : Int32), .unset, .unset] [])) _
      refine XS.iconst X2.here hx rfl (hb hby d2_26) ?_
      show Steps p.tables e below (T2.setTop (mkF m 27 #[rv a0_, iv (1 : Int32), iv (y0 &&& (255 : Int32)), iv (0 : Int32), .unset, .unset] [(.int (0 : Int32))])) _
      exact retI X2 hx Bd.returns (hb hby d2_27) hr
    · show QSL11 Z a0_ kk z0 y0 la lc sa sc ta tc h0 n0 _ T2.heap _
      rw [e2]
      exact ⟨(by unfold own_sl1; rw [if_pos hL5]), N0, rfl⟩
  by_cases hL6 : (own_L (y0 &&& (255 : Int32))) = (2 : Int32)
  · skip
    rw [hL6] at S4
    obtain ⟨cl7, Ar7, qa7, Sa7, Na7, Ha7, Ga7⟩ := id V0
    obtain ⟨fs, hr, hrun, hended, hW, hsame⟩ := X2.leave (v := some (.int (0 : Int32))) (fun h => by rw [Bd.returns] at h; cases h)
    refine ⟨_, _, S4 _ ?_, hrun, hended, _, _, rfl, ?_, ⟨_, rfl⟩, hW, hsame.mono (by decide) (by decide)⟩
    · skip
      show Steps p.tables e below (T2.setTop (mkF m 14 #[rv a0_, iv (1 : Int32), iv (y0 &&& (255 : Int32)), iv (2 : Int32), .unset, .unset] [])) _
      refine XS.iloadN X2.here hx rfl (hb hby d2_14) rfl ?_
      show Steps p.tables e below (T2.setTop (mkF m 15 #[rv a0_, iv (1 : Int32), iv (y0 &&& (255 : Int32)), iv (2 : Int32), .unset, .unset] [(.int (2 : Int32))])) _
      refine XS.ifNo X2.here hx rfl (hb hby d2_15) rfl ((if0 _ _).trans (feq (by decide : ¬ ((2 : Int32) = (0 : Int32)))).1) ?_
      show Steps p.tables e below (T2.setTop (mkF m 18 #[rv a0_, iv (1 : Int32), iv (y0 &&& (255 : Int32)), iv (2 : Int32), .unset, .unset] [])) _
      refine XS.iloadN X2.here hx rfl (hb hby d2_18) rfl ?_
      show Steps p.tables e below (T2.setTop (mkF m 19 #[rv a0_, iv (1 : Int32), iv (y0 &&& (255 : Int32)), iv (2 : Int32), .unset, .unset] [(.int (1 : Int32))])) _
      refine XS.iloadN X2.here hx rfl (hb hby d2_19) rfl ?_
      show Steps p.tables e below (T2.setTop (mkF m 20 #[rv a0_, iv (1 : Int32), iv (y0 &&& (255 : Int32)), iv (2 : Int32), .unset, .unset] [(.int (2 : Int32)), (.int (1 : Int32))])) _
      refine XS.iadd X2.here hx rfl (hb hby d2_20) rfl ?_
      show Steps p.tables e below (T2.setTop (mkF m 21 #[rv a0_, iv (1 : Int32), iv (y0 &&& (255 : Int32)), iv (2 : Int32), .unset, .unset] [(.int (3 : Int32))])) _
      refine XS.aloadN X2.here hx rfl (hb hby d2_21) rfl rfl ?_
      show Steps p.tables e below (T2.setTop (mkF m 22 #[rv a0_, iv (1 : Int32), iv (y0 &&& (255 : Int32)), iv (2 : Int32), .unset, .unset] [(.ref a0_), (.int (3 : Int32))])) _
      refine X2.arraylength hx (by rw [e2]; exact Ar7.1) (State.isArrayOf_alike hZ.alike Ar7.2.1) (g := (mkF m 22 #[rv a0_, iv (1 : Int32), iv (y0 &&& (255 : Int32)), iv (2 : Int32), .unset, .unset] [(.ref a0_), (.int (3 : Int32))])) rfl rfl (hb hby d2_22) _ ?_
      rw [len_of Sa7 Na7]
      show Steps p.tables e below (T2.setTop (mkF m 23 #[rv a0_, iv (1 : Int32), iv (y0 &&& (255 : Int32)), iv (2 : Int32), .unset, .unset] [(.int (2 : Int32)), (.int (3 : Int32))])) _
      refine XS.icmpNo X2.here hx rfl (hb hby d2_23) rfl (tlt (by decide : (2 : Int32) < (3 : Int32))).2.2.2 ?_
      show Steps p.tables e below (T2.setTop (mkF m 26 #[rv a0_, iv (1 : Int32), iv (y0 &&& (255 : Int32)), iv (2 : Int32), .unset, .unset] [])) _
      refine XS.iconst X2.here hx rfl (hb hby d2_26) ?_
      show Steps p.tables e below (T2.setTop (mkF m 27 #[rv a0_, iv (1 : Int32), iv (y0 &&& (255 : Int32)), iv (2 : Int32), .unset, .unset] [(.int (0 : Int32))])) _
      exact retI X2 hx Bd.returns (hb hby d2_27) hr
    · show QSL11 Z a0_ kk z0 y0 la lc sa sc ta tc h0 n0 _ T2.heap _
      rw [e2]
      exact ⟨(by unfold own_sl1; rw [if_neg hL5, if_pos hL6]), N0, rfl⟩
  by_cases hL8 : (own_L (y0 &&& (255 : Int32))) = (3 : Int32)
  · skip
    rw [hL8] at S4
    obtain ⟨cl9, Ar9, qa9, Sa9, Na9, Ha9, Ga9⟩ := id V0
    obtain ⟨fs, hr, hrun, hended, hW, hsame⟩ := X2.leave (v := some (.int (0 : Int32))) (fun h => by rw [Bd.returns] at h; cases h)
    refine ⟨_, _, S4 _ ?_, hrun, hended, _, _, rfl, ?_, ⟨_, rfl⟩, hW, hsame.mono (by decide) (by decide)⟩
    · skip
      show Steps p.tables e below (T2.setTop (mkF m 14 #[rv a0_, iv (1 : Int32), iv (y0 &&& (255 : Int32)), iv (3 : Int32), .unset, .unset] [])) _
      refine XS.iloadN X2.here hx rfl (hb hby d2_14) rfl ?_
      show Steps p.tables e below (T2.setTop (mkF m 15 #[rv a0_, iv (1 : Int32), iv (y0 &&& (255 : Int32)), iv (3 : Int32), .unset, .unset] [(.int (3 : Int32))])) _
      refine XS.ifNo X2.here hx rfl (hb hby d2_15) rfl ((if0 _ _).trans (feq (by decide : ¬ ((3 : Int32) = (0 : Int32)))).1) ?_
      show Steps p.tables e below (T2.setTop (mkF m 18 #[rv a0_, iv (1 : Int32), iv (y0 &&& (255 : Int32)), iv (3 : Int32), .unset, .unset] [])) _
      refine XS.iloadN X2.here hx rfl (hb hby d2_18) rfl ?_
      show Steps p.tables e below (T2.setTop (mkF m 19 #[rv a0_, iv (1 : Int32), iv (y0 &&& (255 : Int32)), iv (3 : Int32), .unset, .unset] [(.int (1 : Int32))])) _
      refine XS.iloadN X2.here hx rfl (hb hby d2_19) rfl ?_
      show Steps p.tables e below (T2.setTop (mkF m 20 #[rv a0_, iv (1 : Int32), iv (y0 &&& (255 : Int32)), iv (3 : Int32), .unset, .unset] [(.int (3 : Int32)), (.int (1 : Int32))])) _
      refine XS.iadd X2.here hx rfl (hb hby d2_20) rfl ?_
      show Steps p.tables e below (T2.setTop (mkF m 21 #[rv a0_, iv (1 : Int32), iv (y0 &&& (255 : Int32)), iv (3 : Int32), .unset, .unset] [(.int (4 : Int32))])) _
      refine XS.aloadN X2.here hx rfl (hb hby d2_21) rfl rfl ?_
      show Steps p.tables e below (T2.setTop (mkF m 22 #[rv a0_, iv (1 : Int32), iv (y0 &&& (255 : Int32)), iv (3 : Int32), .unset, .unset] [(.ref a0_), (.int (4 : Int32))])) _
      refine X2.arraylength hx (by rw [e2]; exact Ar9.1) (State.isArrayOf_alike hZ.alike Ar9.2.1) (g := (mkF m 22 #[rv a0_, iv (1 : Int32), iv (y0 &&& (255 : Int32)), iv (3 : Int32), .unset, .unset] [(.ref a0_), (.int (4 : Int32))])) rfl rfl (hb hby d2_22) _ ?_
      rw [len_of Sa9 Na9]
      show Steps p.tables e below (T2.setTop (mkF m 23 #[rv a0_, iv (1 : Int32), iv (y0 &&& (255 : Int32)), iv (3 : Int32), .unset, .unset] [(.int (2 : Int32)), (.int (4 : Int32))])) _
      refine XS.icmpNo X2.here hx rfl (hb hby d2_23) rfl (tlt (by decide : (2 : Int32) < (4 : Int32))).2.2.2 ?_
      show Steps p.tables e below (T2.setTop (mkF m 26 #[rv a0_, iv (1 : Int32), iv (y0 &&& (255 : Int32)), iv (3 : Int32), .unset, .unset] [])) _
      refine XS.iconst X2.here hx rfl (hb hby d2_26) ?_
      show Steps p.tables e below (T2.setTop (mkF m 27 #[rv a0_, iv (1 : Int32), iv (y0 &&& (255 : Int32)), iv (3 : Int32), .unset, .unset] [(.int (0 : Int32))])) _
      exact retI X2 hx Bd.returns (hb hby d2_27) hr
    · show QSL11 Z a0_ kk z0 y0 la lc sa sc ta tc h0 n0 _ T2.heap _
      rw [e2]
      exact ⟨(by unfold own_sl1; rw [if_neg hL5, if_neg hL6, if_pos hL8]), N0, rfl⟩
  have hL10 := own_L4 _ hL5 hL6 hL8
  rw [hL10] at S4
  obtain ⟨cl11, Ar11, qa11, Sa11, Na11, Ha11, Ga11⟩ := id V0
  obtain ⟨fs, hr, hrun, hended, hW, hsame⟩ := X2.leave (v := some (.int (0 : Int32))) (fun h => by rw [Bd.returns] at h; cases h)
  refine ⟨_, _, S4 _ ?_, hrun, hended, _, _, rfl, ?_, ⟨_, rfl⟩, hW, hsame.mono (by decide) (by decide)⟩
  · skip
    show Steps p.tables e below (T2.setTop (mkF m 14 #[rv a0_, iv (1 : Int32), iv (y0 &&& (255 : Int32)), iv (4 : Int32), .unset, .unset] [])) _
    refine XS.iloadN X2.here hx rfl (hb hby d2_14) rfl ?_
    show Steps p.tables e below (T2.setTop (mkF m 15 #[rv a0_, iv (1 : Int32), iv (y0 &&& (255 : Int32)), iv (4 : Int32), .unset, .unset] [(.int (4 : Int32))])) _
    refine XS.ifNo X2.here hx rfl (hb hby d2_15) rfl ((if0 _ _).trans (feq (by decide : ¬ ((4 : Int32) = (0 : Int32)))).1) ?_
    show Steps p.tables e below (T2.setTop (mkF m 18 #[rv a0_, iv (1 : Int32), iv (y0 &&& (255 : Int32)), iv (4 : Int32), .unset, .unset] [])) _
    refine XS.iloadN X2.here hx rfl (hb hby d2_18) rfl ?_
    show Steps p.tables e below (T2.setTop (mkF m 19 #[rv a0_, iv (1 : Int32), iv (y0 &&& (255 : Int32)), iv (4 : Int32), .unset, .unset] [(.int (1 : Int32))])) _
    refine XS.iloadN X2.here hx rfl (hb hby d2_19) rfl ?_
    show Steps p.tables e below (T2.setTop (mkF m 20 #[rv a0_, iv (1 : Int32), iv (y0 &&& (255 : Int32)), iv (4 : Int32), .unset, .unset] [(.int (4 : Int32)), (.int (1 : Int32))])) _
    refine XS.iadd X2.here hx rfl (hb hby d2_20) rfl ?_
    show Steps p.tables e below (T2.setTop (mkF m 21 #[rv a0_, iv (1 : Int32), iv (y0 &&& (255 : Int32)), iv (4 : Int32), .unset, .unset] [(.int (5 : Int32))])) _
    refine XS.aloadN X2.here hx rfl (hb hby d2_21) rfl rfl ?_
    show Steps p.tables e below (T2.setTop (mkF m 22 #[rv a0_, iv (1 : Int32), iv (y0 &&& (255 : Int32)), iv (4 : Int32), .unset, .unset] [(.ref a0_), (.int (5 : Int32))])) _
    refine X2.arraylength hx (by rw [e2]; exact Ar11.1) (State.isArrayOf_alike hZ.alike Ar11.2.1) (g := (mkF m 22 #[rv a0_, iv (1 : Int32), iv (y0 &&& (255 : Int32)), iv (4 : Int32), .unset, .unset] [(.ref a0_), (.int (5 : Int32))])) rfl rfl (hb hby d2_22) _ ?_
    rw [len_of Sa11 Na11]
    show Steps p.tables e below (T2.setTop (mkF m 23 #[rv a0_, iv (1 : Int32), iv (y0 &&& (255 : Int32)), iv (4 : Int32), .unset, .unset] [(.int (2 : Int32)), (.int (5 : Int32))])) _
    refine XS.icmpNo X2.here hx rfl (hb hby d2_23) rfl (tlt (by decide : (2 : Int32) < (5 : Int32))).2.2.2 ?_
    show Steps p.tables e below (T2.setTop (mkF m 26 #[rv a0_, iv (1 : Int32), iv (y0 &&& (255 : Int32)), iv (4 : Int32), .unset, .unset] [])) _
    refine XS.iconst X2.here hx rfl (hb hby d2_26) ?_
    show Steps p.tables e below (T2.setTop (mkF m 27 #[rv a0_, iv (1 : Int32), iv (y0 &&& (255 : Int32)), iv (4 : Int32), .unset, .unset] [(.int (0 : Int32))])) _
    exact retI X2 hx Bd.returns (hb hby d2_27) hr
  · show QSL11 Z a0_ kk z0 y0 la lc sa sc ta tc h0 n0 _ T2.heap _
    rw [e2]
    exact ⟨(by unfold own_sl1; rw [if_neg hL5, if_neg hL6, if_neg hL8]), N0, rfl⟩
def QSL12 (Z : State) (a0_ : Addr) (kk : ClassId) (z0 : Int32) (y0 : Int32) (y1 : Int32) (la : Addr) (lc : Cell) (sa : Addr) (sc : Cell) (ta : Addr) (tc : Cell) (h0 : Heap) (n0 : Nat) (v : Option Value) (h : Heap) (L : List Loc) : Prop := v = some (.int (own_sl2 y0 y1)) ∧ Fr n0 L ∧ h = h0
theorem ef_rmSL12 (m : MethodId) (a0_ : Addr) : entryFrame m #[(.ref a0_), (.int (1 : Int32))] 6 = mkF m 0 #[rv a0_, iv (1 : Int32), .unset, .unset, .unset, .unset] [] := by first | (simp [entryFrame, mkF, argsToLocals, Value.category]; done) | rfl
set_option maxRecDepth 65536 in
set_option maxHeartbeats 40000000 in
theorem rmSL12 (l : Launch) (Z : State) (a0 : Array Value) (hw : ∀ d ∈ tables_1, d.before a0 Z = true) (ws : List Jvm.Cond) (a0_ : Addr) (kk : ClassId) (z0 : Int32) (y0 : Int32) (y1 : Int32) (la : Addr) (lc : Cell) (sa : Addr) (sc : Cell) (ta : Addr) (tc : Cell) (h0 : Heap) (n0 : Nat) (Z0 : n0 ≤ h0.size) (V0 : Arv Z h0 a0_ kk .byte (3 : Int32) [(.int z0), (.int y0), (.int y1)] (.int (0 : Int32))) (hO : Old Z n0 h0) (hS1 : Sta Z Z.heap "com/example/rivanna/rivanna/core/json/Utf8" "LENGTH" "[I" (.ref la)) (hT1 : own_Tab Z la lc own_L) (hS2 : Sta Z Z.heap "com/example/rivanna/rivanna/core/json/Utf8" "SECOND_LOW" "[I" (.ref sa)) (hT2 : own_Tab Z sa sc own_lo) (hS3 : Sta Z Z.heap "com/example/rivanna/rivanna/core/json/Utf8" "SECOND_HIGH" "[I" (.ref ta)) (hT3 : own_Tab Z ta tc own_hi) :
    MetFree l (⟨"com/example/rivanna/rivanna/core/json/Utf8", "sequenceLength", "([BI)I"⟩ : MethodName) (head1 (Jvm.Cond.code (⟨"com/example/rivanna/rivanna/core/json/Utf8", "sequenceLength", "([BI)I"⟩ : MethodName) prog_28_method_3_code 6 (some .int) :: ws) ({ frames := 0, cells := 0, slots := 0, locals := 0 } : Room)) (fun a U => a = #[(.ref a0_), (.int (1 : Int32))] ∧ Z.Warmed39 U.vm ∧ U.heap = h0) (fun _ _ _ _ _ => True) (fun _ U o U' => ∃ v L, o = .returned v ∧ QSL12 Z a0_ kk z0 y0 y1 la lc sa sc ta tc h0 n0 v U'.heap L ∧ FrameEnd U o U' L ({ frames := 0, cells := 0, slots := 0, locals := 0 } : Room).cells ({ frames := 0, cells := 0, slots := 0, locals := 0 } : Room).slots) := by
  refine MetFree.of_bodySF (plainFor_of_name pn_1) hisR ?_
  intro p e s m args below meth c s₁ Bd hml0 hP hK
  obtain ⟨rfl, hZ, hh⟩ := hP
  have hx := Bd.exec
  have hby := Bd.bytes
  have hml : c.maxLocals = 6 := hml0
  have hown : s.vm.findClass "com/example/rivanna/rivanna/core/json/Utf8" = some m.cls := findClass_of_methodNamed Bd.named
  have hnm := (name_of_methodNamed Bd.named Bd.method).1
  have X0 : Stand p l e ({ frames := 0, cells := 0, slots := 0, locals := 0 } : Room) s m #[(.ref a0_), (.int (1 : Int32))] below meth c s₁ [] 0 0 := Stand.of_body Bd
  have e0 : s₁.heap = h0 := by rw [← hh, Bd.state]; rfl
  have N0 := Fr.nil n0
  have S0 : ∀ t, Steps p.tables e below (s₁.setTop (mkF m 0 #[rv a0_, iv (1 : Int32), .unset, .unset, .unset, .unset] [])) t → Steps p.tables e below (s₁.setTop (entryFrame m #[(.ref a0_), (.int (1 : Int32))] 6)) t := fun t k => castTop (ef_rmSL12 m a0_) k
  obtain ⟨cl1, Ar1, qa1, Sa1, Na1, Ha1, Ga1⟩ := id V0
  have hin1 : ¬ ((1 : Int32) < 0 ∨ cl1.slots.size ≤ ((1 : Int32)).toNatClampNeg) := inb_of Sa1 ⟨by decide, by decide⟩
  obtain ⟨T2, X2, e2, st2⟩ := getS2 X0 hx hZ hown (host := "") (Or.inl (hw _ (List.mem_of_getElem? (i := 9) rfl))) Via.refl e0 (hS1.ext hO.2) (g := (mkF m 8 #[rv a0_, iv (1 : Int32), iv (y0 &&& (255 : Int32)), .unset, .unset, .unset] [])) rfl (hb hby d2_8)
  have hin3 : ¬ ((y0 &&& (255 : Int32)) < 0 ∨ lc.slots.size ≤ ((y0 &&& (255 : Int32))).toNatClampNeg) := inb_of hT1.2.1 (own_255 _)
  have S4 : ∀ t, Steps p.tables e below (T2.setTop (mkF m 14 #[rv a0_, iv (1 : Int32), iv (y0 &&& (255 : Int32)), iv (own_L (y0 &&& (255 : Int32))), .unset, .unset] [])) t → Steps p.tables e below (s₁.setTop (entryFrame m #[(.ref a0_), (.int (1 : Int32))] 6)) t := by
    intro t k
    refine S0 t ?_
    show Steps p.tables e below (s₁.setTop (mkF m 0 #[rv a0_, iv (1 : Int32), .unset, .unset, .unset, .unset] [])) _
    refine XS.aloadN X0.here hx rfl (hb hby d2_0) rfl rfl ?_
    show Steps p.tables e below (s₁.setTop (mkF m 1 #[rv a0_, iv (1 : Int32), .unset, .unset, .unset, .unset] [(.ref a0_)])) _
    refine XS.iloadN X0.here hx rfl (hb hby d2_1) rfl ?_
    show Steps p.tables e below (s₁.setTop (mkF m 2 #[rv a0_, iv (1 : Int32), .unset, .unset, .unset, .unset] [(.int (1 : Int32)), (.ref a0_)])) _
    refine X0.baloadBytes hx (j := (1 : Int32)) (v := (.int y0)) (by rw [e0]; exact Ar1.1) (State.isArrayOf_alike hZ.alike Ar1.2.1) Ar1.2.2 hin1 (Has.at Ha1 hin1 rfl) (g := (mkF m 2 #[rv a0_, iv (1 : Int32), .unset, .unset, .unset, .unset] [(.int (1 : Int32)), (.ref a0_)])) rfl rfl (hb hby d2_2) _ ?_
    show Steps p.tables e below (s₁.setTop (mkF m 3 #[rv a0_, iv (1 : Int32), .unset, .unset, .unset, .unset] [(.int y0)])) _
    refine XS.sipush X0.here hx rfl (hb hby d2_3) ?_
    show Steps p.tables e below (s₁.setTop (mkF m 6 #[rv a0_, iv (1 : Int32), .unset, .unset, .unset, .unset] [(.int (255 : Int32)), (.int y0)])) _
    refine XS.iand X0.here hx rfl (hb hby d2_6) rfl ?_
    show Steps p.tables e below (s₁.setTop (mkF m 7 #[rv a0_, iv (1 : Int32), .unset, .unset, .unset, .unset] [(.int (y0 &&& (255 : Int32)))])) _
    refine XS.istoreN X0.here hx rfl (hb hby d2_7) rfl (l' := #[rv a0_, iv (1 : Int32), iv (y0 &&& (255 : Int32)), .unset, .unset, .unset]) rfl ?_
    show Steps p.tables e below (s₁.setTop (mkF m 8 #[rv a0_, iv (1 : Int32), iv (y0 &&& (255 : Int32)), .unset, .unset, .unset] [])) _
    refine st2 _ ?_
    show Steps p.tables e below (T2.setTop (mkF m 11 #[rv a0_, iv (1 : Int32), iv (y0 &&& (255 : Int32)), .unset, .unset, .unset] [(.ref la)])) _
    refine XS.iloadN X2.here hx rfl (hb hby d2_11) rfl ?_
    show Steps p.tables e below (T2.setTop (mkF m 12 #[rv a0_, iv (1 : Int32), iv (y0 &&& (255 : Int32)), .unset, .unset, .unset] [(.int (y0 &&& (255 : Int32))), (.ref la)])) _
    refine X2.iaload hx (j := (y0 &&& (255 : Int32))) (v := (.int (own_L (y0 &&& (255 : Int32))))) (by rw [e2]; exact (hT1.1.ext hO.2).1) (State.isArrayOf_alike hZ.alike hT1.1.2.1) hT1.1.2.2 hin3 (hT1.2.2 _ hin3) (g := (mkF m 12 #[rv a0_, iv (1 : Int32), iv (y0 &&& (255 : Int32)), .unset, .unset, .unset] [(.int (y0 &&& (255 : Int32))), (.ref la)])) rfl rfl (hb hby d2_12) _ ?_
    show Steps p.tables e below (T2.setTop (mkF m 13 #[rv a0_, iv (1 : Int32), iv (y0 &&& (255 : Int32)), .unset, .unset, .unset] [(.int (own_L (y0 &&& (255 : Int32))))])) _
    refine XS.istoreN X2.here hx rfl (hb hby d2_13) rfl (l' := #[rv a0_, iv (1 : Int32), iv (y0 &&& (255 : Int32)), iv (own_L (y0 &&& (255 : Int32))), .unset, .unset]) rfl ?_
    exact k
  by_cases hL5 : (own_L (y0 &&& (255 : Int32))) = (0 : Int32)
  · skip
    rw [hL5] at S4
    obtain ⟨fs, hr, hrun, hended, hW, hsame⟩ := X2.leave (v := some (.int (0 : Int32))) (fun h => by rw [Bd.returns] at h; cases h)
    refine ⟨_, _, S4 _ ?_, hrun, hended, _, _, rfl, ?_, ⟨_, rfl⟩, hW, hsame.mono (by decide) (by decide)⟩
    · skip
      show Steps p.tables e below (T2.setTop (mkF m 14 #[rv a0_, iv (1 : Int32), iv (y0 &&& (255 : Int32)), iv (0 : Int32), .unset, .unset] [])) _
      refine XS.iloadN X2.here hx rfl (hb hby d2_14) rfl ?_
      show Steps p.tables e below (T2.setTop (mkF m 15 #[rv a0_, iv (1 : Int32), iv (y0 &&& (255 : Int32)), iv (0 : Int32), .unset, .unset] [(.int (0 : Int32))])) _
      refine XS.ifYes X2.here hx rfl (pc0 := 15) (pc' := 26) rfl (hb hby d2_15) rfl ((if0 _ _).trans (teq (by decide : (0 : Int32) = (0 : Int32))).1) (by decide) (by decide) ?_
      show Steps p.tables e below (T2.setTop (mkF m 26 #[rv a0_, iv (1 : Int32), iv (y0 &&& (255 : Int32)), iv (0 : Int32), .unset, .unset] [])) _
      refine XS.iconst X2.here hx rfl (hb hby d2_26) ?_
      show Steps p.tables e below (T2.setTop (mkF m 27 #[rv a0_, iv (1 : Int32), iv (y0 &&& (255 : Int32)), iv (0 : Int32), .unset, .unset] [(.int (0 : Int32))])) _
      exact retI X2 hx Bd.returns (hb hby d2_27) hr
    · show QSL12 Z a0_ kk z0 y0 y1 la lc sa sc ta tc h0 n0 _ T2.heap _
      rw [e2]
      exact ⟨(by unfold own_sl2; rw [if_pos hL5]), N0, rfl⟩
  by_cases hL6 : (own_L (y0 &&& (255 : Int32))) = (2 : Int32)
  · skip
    rw [hL6] at S4
    obtain ⟨cl7, Ar7, qa7, Sa7, Na7, Ha7, Ga7⟩ := id V0
    obtain ⟨cl8, Ar8, qa8, Sa8, Na8, Ha8, Ga8⟩ := id V0
    have hin8 : ¬ ((2 : Int32) < 0 ∨ cl8.slots.size ≤ ((2 : Int32)).toNatClampNeg) := inb_of Sa8 ⟨by decide, by decide⟩
    obtain ⟨T9, X9, e9, st9⟩ := getS2 X2 hx hZ hown (host := "") (Or.inl (hw _ (List.mem_of_getElem? (i := 14) rfl))) Via.refl e2 (hS2.ext hO.2) (g := (mkF m 41 #[rv a0_, iv (1 : Int32), iv (y0 &&& (255 : Int32)), iv (2 : Int32), iv (y1 &&& (255 : Int32)), .unset] [(.int (y1 &&& (255 : Int32)))])) rfl (hb hby d2_41)
    have hin10 : ¬ ((y0 &&& (255 : Int32)) < 0 ∨ sc.slots.size ≤ ((y0 &&& (255 : Int32))).toNatClampNeg) := inb_of hT2.2.1 (own_255 _)
    have S11 : ∀ t, Steps p.tables e below (T9.setTop (mkF m 46 #[rv a0_, iv (1 : Int32), iv (y0 &&& (255 : Int32)), iv (2 : Int32), iv (y1 &&& (255 : Int32)), .unset] [(.int (own_lo (y0 &&& (255 : Int32)))), (.int (y1 &&& (255 : Int32)))])) t → Steps p.tables e below (s₁.setTop (entryFrame m #[(.ref a0_), (.int (1 : Int32))] 6)) t := by
      intro t k
      refine S4 t ?_
      show Steps p.tables e below (T2.setTop (mkF m 14 #[rv a0_, iv (1 : Int32), iv (y0 &&& (255 : Int32)), iv (2 : Int32), .unset, .unset] [])) _
      refine XS.iloadN X2.here hx rfl (hb hby d2_14) rfl ?_
      show Steps p.tables e below (T2.setTop (mkF m 15 #[rv a0_, iv (1 : Int32), iv (y0 &&& (255 : Int32)), iv (2 : Int32), .unset, .unset] [(.int (2 : Int32))])) _
      refine XS.ifNo X2.here hx rfl (hb hby d2_15) rfl ((if0 _ _).trans (feq (by decide : ¬ ((2 : Int32) = (0 : Int32)))).1) ?_
      show Steps p.tables e below (T2.setTop (mkF m 18 #[rv a0_, iv (1 : Int32), iv (y0 &&& (255 : Int32)), iv (2 : Int32), .unset, .unset] [])) _
      refine XS.iloadN X2.here hx rfl (hb hby d2_18) rfl ?_
      show Steps p.tables e below (T2.setTop (mkF m 19 #[rv a0_, iv (1 : Int32), iv (y0 &&& (255 : Int32)), iv (2 : Int32), .unset, .unset] [(.int (1 : Int32))])) _
      refine XS.iloadN X2.here hx rfl (hb hby d2_19) rfl ?_
      show Steps p.tables e below (T2.setTop (mkF m 20 #[rv a0_, iv (1 : Int32), iv (y0 &&& (255 : Int32)), iv (2 : Int32), .unset, .unset] [(.int (2 : Int32)), (.int (1 : Int32))])) _
      refine XS.iadd X2.here hx rfl (hb hby d2_20) rfl ?_
      show Steps p.tables e below (T2.setTop (mkF m 21 #[rv a0_, iv (1 : Int32), iv (y0 &&& (255 : Int32)), iv (2 : Int32), .unset, .unset] [(.int (3 : Int32))])) _
      refine XS.aloadN X2.here hx rfl (hb hby d2_21) rfl rfl ?_
      show Steps p.tables e below (T2.setTop (mkF m 22 #[rv a0_, iv (1 : Int32), iv (y0 &&& (255 : Int32)), iv (2 : Int32), .unset, .unset] [(.ref a0_), (.int (3 : Int32))])) _
      refine X2.arraylength hx (by rw [e2]; exact Ar7.1) (State.isArrayOf_alike hZ.alike Ar7.2.1) (g := (mkF m 22 #[rv a0_, iv (1 : Int32), iv (y0 &&& (255 : Int32)), iv (2 : Int32), .unset, .unset] [(.ref a0_), (.int (3 : Int32))])) rfl rfl (hb hby d2_22) _ ?_
      rw [len_of Sa7 Na7]
      show Steps p.tables e below (T2.setTop (mkF m 23 #[rv a0_, iv (1 : Int32), iv (y0 &&& (255 : Int32)), iv (2 : Int32), .unset, .unset] [(.int (3 : Int32)), (.int (3 : Int32))])) _
      refine XS.icmpYes X2.here hx rfl (pc0 := 23) (pc' := 28) rfl (hb hby d2_23) rfl (flt (by decide : ¬ ((3 : Int32) < (3 : Int32)))).2.2.2 (by decide) (by decide) ?_
      show Steps p.tables e below (T2.setTop (mkF m 28 #[rv a0_, iv (1 : Int32), iv (y0 &&& (255 : Int32)), iv (2 : Int32), .unset, .unset] [])) _
      refine XS.aloadN X2.here hx rfl (hb hby d2_28) rfl rfl ?_
      show Steps p.tables e below (T2.setTop (mkF m 29 #[rv a0_, iv (1 : Int32), iv (y0 &&& (255 : Int32)), iv (2 : Int32), .unset, .unset] [(.ref a0_)])) _
      refine XS.iloadN X2.here hx rfl (hb hby d2_29) rfl ?_
      show Steps p.tables e below (T2.setTop (mkF m 30 #[rv a0_, iv (1 : Int32), iv (y0 &&& (255 : Int32)), iv (2 : Int32), .unset, .unset] [(.int (1 : Int32)), (.ref a0_)])) _
      refine XS.iconst X2.here hx rfl (hb hby d2_30) ?_
      show Steps p.tables e below (T2.setTop (mkF m 31 #[rv a0_, iv (1 : Int32), iv (y0 &&& (255 : Int32)), iv (2 : Int32), .unset, .unset] [(.int (1 : Int32)), (.int (1 : Int32)), (.ref a0_)])) _
      refine XS.iadd X2.here hx rfl (hb hby d2_31) rfl ?_
      show Steps p.tables e below (T2.setTop (mkF m 32 #[rv a0_, iv (1 : Int32), iv (y0 &&& (255 : Int32)), iv (2 : Int32), .unset, .unset] [(.int (2 : Int32)), (.ref a0_)])) _
      refine X2.baloadBytes hx (j := (2 : Int32)) (v := (.int y1)) (by rw [e2]; exact Ar8.1) (State.isArrayOf_alike hZ.alike Ar8.2.1) Ar8.2.2 hin8 (Has.at Ha8 hin8 rfl) (g := (mkF m 32 #[rv a0_, iv (1 : Int32), iv (y0 &&& (255 : Int32)), iv (2 : Int32), .unset, .unset] [(.int (2 : Int32)), (.ref a0_)])) rfl rfl (hb hby d2_32) _ ?_
      show Steps p.tables e below (T2.setTop (mkF m 33 #[rv a0_, iv (1 : Int32), iv (y0 &&& (255 : Int32)), iv (2 : Int32), .unset, .unset] [(.int y1)])) _
      refine XS.sipush X2.here hx rfl (hb hby d2_33) ?_
      show Steps p.tables e below (T2.setTop (mkF m 36 #[rv a0_, iv (1 : Int32), iv (y0 &&& (255 : Int32)), iv (2 : Int32), .unset, .unset] [(.int (255 : Int32)), (.int y1)])) _
      refine XS.iand X2.here hx rfl (hb hby d2_36) rfl ?_
      show Steps p.tables e below (T2.setTop (mkF m 37 #[rv a0_, iv (1 : Int32), iv (y0 &&& (255 : Int32)), iv (2 : Int32), .unset, .unset] [(.int (y1 &&& (255 : Int32)))])) _
      refine XS.istore X2.here hx rfl (hb hby d2_37) rfl (l' := #[rv a0_, iv (1 : Int32), iv (y0 &&& (255 : Int32)), iv (2 : Int32), iv (y1 &&& (255 : Int32)), .unset]) rfl ?_
      show Steps p.tables e below (T2.setTop (mkF m 39 #[rv a0_, iv (1 : Int32), iv (y0 &&& (255 : Int32)), iv (2 : Int32), iv (y1 &&& (255 : Int32)), .unset] [])) _
      refine XS.iload X2.here hx rfl (hb hby d2_39) rfl ?_
      show Steps p.tables e below (T2.setTop (mkF m 41 #[rv a0_, iv (1 : Int32), iv (y0 &&& (255 : Int32)), iv (2 : Int32), iv (y1 &&& (255 : Int32)), .unset] [(.int (y1 &&& (255 : Int32)))])) _
      refine st9 _ ?_
      show Steps p.tables e below (T9.setTop (mkF m 44 #[rv a0_, iv (1 : Int32), iv (y0 &&& (255 : Int32)), iv (2 : Int32), iv (y1 &&& (255 : Int32)), .unset] [(.ref sa), (.int (y1 &&& (255 : Int32)))])) _
      refine XS.iloadN X9.here hx rfl (hb hby d2_44) rfl ?_
      show Steps p.tables e below (T9.setTop (mkF m 45 #[rv a0_, iv (1 : Int32), iv (y0 &&& (255 : Int32)), iv (2 : Int32), iv (y1 &&& (255 : Int32)), .unset] [(.int (y0 &&& (255 : Int32))), (.ref sa), (.int (y1 &&& (255 : Int32)))])) _
      refine X9.iaload hx (j := (y0 &&& (255 : Int32))) (v := (.int (own_lo (y0 &&& (255 : Int32))))) (by rw [e9]; exact (hT2.1.ext hO.2).1) (State.isArrayOf_alike hZ.alike hT2.1.2.1) hT2.1.2.2 hin10 (hT2.2.2 _ hin10) (g := (mkF m 45 #[rv a0_, iv (1 : Int32), iv (y0 &&& (255 : Int32)), iv (2 : Int32), iv (y1 &&& (255 : Int32)), .unset] [(.int (y0 &&& (255 : Int32))), (.ref sa), (.int (y1 &&& (255 : Int32)))])) rfl rfl (hb hby d2_45) _ ?_
      exact k
    by_cases hc12 : (y1 &&& (255 : Int32)) < (own_lo (y0 &&& (255 : Int32)))
    · skip
      obtain ⟨fs, hr, hrun, hended, hW, hsame⟩ := X9.leave (v := some (.int (0 : Int32))) (fun h => by rw [Bd.returns] at h; cases h)
      refine ⟨_, _, S11 _ ?_, hrun, hended, _, _, rfl, ?_, ⟨_, rfl⟩, hW, hsame.mono (by decide) (by decide)⟩
      · skip
        show Steps p.tables e below (T9.setTop (mkF m 46 #[rv a0_, iv (1 : Int32), iv (y0 &&& (255 : Int32)), iv (2 : Int32), iv (y1 &&& (255 : Int32)), .unset] [(.int (own_lo (y0 &&& (255 : Int32)))), (.int (y1 &&& (255 : Int32)))])) _
        refine XS.icmpYes X9.here hx rfl (pc0 := 46) (pc' := 59) rfl (hb hby d2_46) rfl (tlt hc12).1 (by decide) (by decide) ?_
        show Steps p.tables e below (T9.setTop (mkF m 59 #[rv a0_, iv (1 : Int32), iv (y0 &&& (255 : Int32)), iv (2 : Int32), iv (y1 &&& (255 : Int32)), .unset] [])) _
        refine XS.iconst X9.here hx rfl (hb hby d2_59) ?_
        show Steps p.tables e below (T9.setTop (mkF m 60 #[rv a0_, iv (1 : Int32), iv (y0 &&& (255 : Int32)), iv (2 : Int32), iv (y1 &&& (255 : Int32)), .unset] [(.int (0 : Int32))])) _
        exact retI X9 hx Bd.returns (hb hby d2_60) hr
      · show QSL12 Z a0_ kk z0 y0 y1 la lc sa sc ta tc h0 n0 _ T9.heap _
        rw [e9]
        exact ⟨(by unfold own_sl2; rw [if_neg hL5, if_pos hL6, if_pos hc12]), N0, rfl⟩
    · skip
      obtain ⟨T13, X13, e13, st13⟩ := getS2 X9 hx hZ hown (host := "") (Or.inl (hw _ (List.mem_of_getElem? (i := 16) rfl))) Via.refl e9 (hS3.ext hO.2) (g := (mkF m 51 #[rv a0_, iv (1 : Int32), iv (y0 &&& (255 : Int32)), iv (2 : Int32), iv (y1 &&& (255 : Int32)), .unset] [(.int (y1 &&& (255 : Int32)))])) rfl (hb hby d2_51)
      have hin14 : ¬ ((y0 &&& (255 : Int32)) < 0 ∨ tc.slots.size ≤ ((y0 &&& (255 : Int32))).toNatClampNeg) := inb_of hT3.2.1 (own_255 _)
      have S15 : ∀ t, Steps p.tables e below (T13.setTop (mkF m 56 #[rv a0_, iv (1 : Int32), iv (y0 &&& (255 : Int32)), iv (2 : Int32), iv (y1 &&& (255 : Int32)), .unset] [(.int (own_hi (y0 &&& (255 : Int32)))), (.int (y1 &&& (255 : Int32)))])) t → Steps p.tables e below (s₁.setTop (entryFrame m #[(.ref a0_), (.int (1 : Int32))] 6)) t := by
        intro t k
        refine S11 t ?_
        show Steps p.tables e below (T9.setTop (mkF m 46 #[rv a0_, iv (1 : Int32), iv (y0 &&& (255 : Int32)), iv (2 : Int32), iv (y1 &&& (255 : Int32)), .unset] [(.int (own_lo (y0 &&& (255 : Int32)))), (.int (y1 &&& (255 : Int32)))])) _
        refine XS.icmpNo X9.here hx rfl (hb hby d2_46) rfl (flt hc12).1 ?_
        show Steps p.tables e below (T9.setTop (mkF m 49 #[rv a0_, iv (1 : Int32), iv (y0 &&& (255 : Int32)), iv (2 : Int32), iv (y1 &&& (255 : Int32)), .unset] [])) _
        refine XS.iload X9.here hx rfl (hb hby d2_49) rfl ?_
        show Steps p.tables e below (T9.setTop (mkF m 51 #[rv a0_, iv (1 : Int32), iv (y0 &&& (255 : Int32)), iv (2 : Int32), iv (y1 &&& (255 : Int32)), .unset] [(.int (y1 &&& (255 : Int32)))])) _
        refine st13 _ ?_
        show Steps p.tables e below (T13.setTop (mkF m 54 #[rv a0_, iv (1 : Int32), iv (y0 &&& (255 : Int32)), iv (2 : Int32), iv (y1 &&& (255 : Int32)), .unset] [(.ref ta), (.int (y1 &&& (255 : Int32)))])) _
        refine XS.iloadN X13.here hx rfl (hb hby d2_54) rfl ?_
        show Steps p.tables e below (T13.setTop (mkF m 55 #[rv a0_, iv (1 : Int32), iv (y0 &&& (255 : Int32)), iv (2 : Int32), iv (y1 &&& (255 : Int32)), .unset] [(.int (y0 &&& (255 : Int32))), (.ref ta), (.int (y1 &&& (255 : Int32)))])) _
        refine X13.iaload hx (j := (y0 &&& (255 : Int32))) (v := (.int (own_hi (y0 &&& (255 : Int32))))) (by rw [e13]; exact (hT3.1.ext hO.2).1) (State.isArrayOf_alike hZ.alike hT3.1.2.1) hT3.1.2.2 hin14 (hT3.2.2 _ hin14) (g := (mkF m 55 #[rv a0_, iv (1 : Int32), iv (y0 &&& (255 : Int32)), iv (2 : Int32), iv (y1 &&& (255 : Int32)), .unset] [(.int (y0 &&& (255 : Int32))), (.ref ta), (.int (y1 &&& (255 : Int32)))])) rfl rfl (hb hby d2_55) _ ?_
        exact k
      by_cases hc16 : (own_hi (y0 &&& (255 : Int32))) < (y1 &&& (255 : Int32))
      · skip
        obtain ⟨fs, hr, hrun, hended, hW, hsame⟩ := X13.leave (v := some (.int (0 : Int32))) (fun h => by rw [Bd.returns] at h; cases h)
        refine ⟨_, _, S15 _ ?_, hrun, hended, _, _, rfl, ?_, ⟨_, rfl⟩, hW, hsame.mono (by decide) (by decide)⟩
        · skip
          show Steps p.tables e below (T13.setTop (mkF m 56 #[rv a0_, iv (1 : Int32), iv (y0 &&& (255 : Int32)), iv (2 : Int32), iv (y1 &&& (255 : Int32)), .unset] [(.int (own_hi (y0 &&& (255 : Int32)))), (.int (y1 &&& (255 : Int32)))])) _
          refine XS.icmpNo X13.here hx rfl (hb hby d2_56) rfl (tlt hc16).2.2.2 ?_
          show Steps p.tables e below (T13.setTop (mkF m 59 #[rv a0_, iv (1 : Int32), iv (y0 &&& (255 : Int32)), iv (2 : Int32), iv (y1 &&& (255 : Int32)), .unset] [])) _
          refine XS.iconst X13.here hx rfl (hb hby d2_59) ?_
          show Steps p.tables e below (T13.setTop (mkF m 60 #[rv a0_, iv (1 : Int32), iv (y0 &&& (255 : Int32)), iv (2 : Int32), iv (y1 &&& (255 : Int32)), .unset] [(.int (0 : Int32))])) _
          exact retI X13 hx Bd.returns (hb hby d2_60) hr
        · show QSL12 Z a0_ kk z0 y0 y1 la lc sa sc ta tc h0 n0 _ T13.heap _
          rw [e13]
          exact ⟨(by unfold own_sl2; rw [if_neg hL5, if_pos hL6, if_neg hc12, if_pos hc16]), N0, rfl⟩
      · skip
        obtain ⟨fs, hr, hrun, hended, hW, hsame⟩ := X13.leave (v := some (.int (2 : Int32))) (fun h => by rw [Bd.returns] at h; cases h)
        refine ⟨_, _, S15 _ ?_, hrun, hended, _, _, rfl, ?_, ⟨_, rfl⟩, hW, hsame.mono (by decide) (by decide)⟩
        · skip
          show Steps p.tables e below (T13.setTop (mkF m 56 #[rv a0_, iv (1 : Int32), iv (y0 &&& (255 : Int32)), iv (2 : Int32), iv (y1 &&& (255 : Int32)), .unset] [(.int (own_hi (y0 &&& (255 : Int32)))), (.int (y1 &&& (255 : Int32)))])) _
          refine XS.icmpYes X13.here hx rfl (pc0 := 56) (pc' := 61) rfl (hb hby d2_56) rfl (flt hc16).2.2.2 (by decide) (by decide) ?_
          show Steps p.tables e below (T13.setTop (mkF m 61 #[rv a0_, iv (1 : Int32), iv (y0 &&& (255 : Int32)), iv (2 : Int32), iv (y1 &&& (255 : Int32)), .unset] [])) _
          refine XS.iloadN X13.here hx rfl (hb hby d2_61) rfl ?_
          show Steps p.tables e below (T13.setTop (mkF m 62 #[rv a0_, iv (1 : Int32), iv (y0 &&& (255 : Int32)), iv (2 : Int32), iv (y1 &&& (255 : Int32)), .unset] [(.int (1 : Int32))])) _
          refine XS.iconst X13.here hx rfl (hb hby d2_62) ?_
          show Steps p.tables e below (T13.setTop (mkF m 63 #[rv a0_, iv (1 : Int32), iv (y0 &&& (255 : Int32)), iv (2 : Int32), iv (y1 &&& (255 : Int32)), .unset] [(.int (2 : Int32)), (.int (1 : Int32))])) _
          refine XS.iadd X13.here hx rfl (hb hby d2_63) rfl ?_
          show Steps p.tables e below (T13.setTop (mkF m 64 #[rv a0_, iv (1 : Int32), iv (y0 &&& (255 : Int32)), iv (2 : Int32), iv (y1 &&& (255 : Int32)), .unset] [(.int (3 : Int32))])) _
          refine XS.istore X13.here hx rfl (hb hby d2_64) rfl (l' := #[rv a0_, iv (1 : Int32), iv (y0 &&& (255 : Int32)), iv (2 : Int32), iv (y1 &&& (255 : Int32)), iv (3 : Int32)]) rfl ?_
          show Steps p.tables e below (T13.setTop (mkF m 66 #[rv a0_, iv (1 : Int32), iv (y0 &&& (255 : Int32)), iv (2 : Int32), iv (y1 &&& (255 : Int32)), iv (3 : Int32)] [])) _
          refine XS.iload X13.here hx rfl (hb hby d2_66) rfl ?_
          show Steps p.tables e below (T13.setTop (mkF m 68 #[rv a0_, iv (1 : Int32), iv (y0 &&& (255 : Int32)), iv (2 : Int32), iv (y1 &&& (255 : Int32)), iv (3 : Int32)] [(.int (3 : Int32))])) _
          refine XS.iloadN X13.here hx rfl (hb hby d2_68) rfl ?_
          show Steps p.tables e below (T13.setTop (mkF m 69 #[rv a0_, iv (1 : Int32), iv (y0 &&& (255 : Int32)), iv (2 : Int32), iv (y1 &&& (255 : Int32)), iv (3 : Int32)] [(.int (1 : Int32)), (.int (3 : Int32))])) _
          refine XS.iloadN X13.here hx rfl (hb hby d2_69) rfl ?_
          show Steps p.tables e below (T13.setTop (mkF m 70 #[rv a0_, iv (1 : Int32), iv (y0 &&& (255 : Int32)), iv (2 : Int32), iv (y1 &&& (255 : Int32)), iv (3 : Int32)] [(.int (2 : Int32)), (.int (1 : Int32)), (.int (3 : Int32))])) _
          refine XS.iadd X13.here hx rfl (hb hby d2_70) rfl ?_
          show Steps p.tables e below (T13.setTop (mkF m 71 #[rv a0_, iv (1 : Int32), iv (y0 &&& (255 : Int32)), iv (2 : Int32), iv (y1 &&& (255 : Int32)), iv (3 : Int32)] [(.int (3 : Int32)), (.int (3 : Int32))])) _
          refine XS.icmpYes X13.here hx rfl (pc0 := 71) (pc' := 96) rfl (hb hby d2_71) rfl (flt (by decide : ¬ ((3 : Int32) < (3 : Int32)))).2.1 (by decide) (by decide) ?_
          show Steps p.tables e below (T13.setTop (mkF m 96 #[rv a0_, iv (1 : Int32), iv (y0 &&& (255 : Int32)), iv (2 : Int32), iv (y1 &&& (255 : Int32)), iv (3 : Int32)] [])) _
          refine XS.iloadN X13.here hx rfl (hb hby d2_96) rfl ?_
          show Steps p.tables e below (T13.setTop (mkF m 97 #[rv a0_, iv (1 : Int32), iv (y0 &&& (255 : Int32)), iv (2 : Int32), iv (y1 &&& (255 : Int32)), iv (3 : Int32)] [(.int (2 : Int32))])) _
          exact retI X13 hx Bd.returns (hb hby d2_97) hr
        · show QSL12 Z a0_ kk z0 y0 y1 la lc sa sc ta tc h0 n0 _ T13.heap _
          rw [e13]
          exact ⟨(by unfold own_sl2; rw [if_neg hL5, if_pos hL6, if_neg hc12, if_neg hc16]), N0, rfl⟩
  by_cases hL17 : (own_L (y0 &&& (255 : Int32))) = (3 : Int32)
  · skip
    rw [hL17] at S4
    obtain ⟨cl18, Ar18, qa18, Sa18, Na18, Ha18, Ga18⟩ := id V0
    obtain ⟨fs, hr, hrun, hended, hW, hsame⟩ := X2.leave (v := some (.int (0 : Int32))) (fun h => by rw [Bd.returns] at h; cases h)
    refine ⟨_, _, S4 _ ?_, hrun, hended, _, _, rfl, ?_, ⟨_, rfl⟩, hW, hsame.mono (by decide) (by decide)⟩
    · skip
      show Steps p.tables e below (T2.setTop (mkF m 14 #[rv a0_, iv (1 : Int32), iv (y0 &&& (255 : Int32)), iv (3 : Int32), .unset, .unset] [])) _
      refine XS.iloadN X2.here hx rfl (hb hby d2_14) rfl ?_
      show Steps p.tables e below (T2.setTop (mkF m 15 #[rv a0_, iv (1 : Int32), iv (y0 &&& (255 : Int32)), iv (3 : Int32), .unset, .unset] [(.int (3 : Int32))])) _
      refine XS.ifNo X2.here hx rfl (hb hby d2_15) rfl ((if0 _ _).trans (feq (by decide : ¬ ((3 : Int32) = (0 : Int32)))).1) ?_
      show Steps p.tables e below (T2.setTop (mkF m 18 #[rv a0_, iv (1 : Int32), iv (y0 &&& (255 : Int32)), iv (3 : Int32), .unset, .unset] [])) _
      refine XS.iloadN X2.here hx rfl (hb hby d2_18) rfl ?_
      show Steps p.tables e below (T2.setTop (mkF m 19 #[rv a0_, iv (1 : Int32), iv (y0 &&& (255 : Int32)), iv (3 : Int32), .unset, .unset] [(.int (1 : Int32))])) _
      refine XS.iloadN X2.here hx rfl (hb hby d2_19) rfl ?_
      show Steps p.tables e below (T2.setTop (mkF m 20 #[rv a0_, iv (1 : Int32), iv (y0 &&& (255 : Int32)), iv (3 : Int32), .unset, .unset] [(.int (3 : Int32)), (.int (1 : Int32))])) _
      refine XS.iadd X2.here hx rfl (hb hby d2_20) rfl ?_
      show Steps p.tables e below (T2.setTop (mkF m 21 #[rv a0_, iv (1 : Int32), iv (y0 &&& (255 : Int32)), iv (3 : Int32), .unset, .unset] [(.int (4 : Int32))])) _
      refine XS.aloadN X2.here hx rfl (hb hby d2_21) rfl rfl ?_
      show Steps p.tables e below (T2.setTop (mkF m 22 #[rv a0_, iv (1 : Int32), iv (y0 &&& (255 : Int32)), iv (3 : Int32), .unset, .unset] [(.ref a0_), (.int (4 : Int32))])) _
      refine X2.arraylength hx (by rw [e2]; exact Ar18.1) (State.isArrayOf_alike hZ.alike Ar18.2.1) (g := (mkF m 22 #[rv a0_, iv (1 : Int32), iv (y0 &&& (255 : Int32)), iv (3 : Int32), .unset, .unset] [(.ref a0_), (.int (4 : Int32))])) rfl rfl (hb hby d2_22) _ ?_
      rw [len_of Sa18 Na18]
      show Steps p.tables e below (T2.setTop (mkF m 23 #[rv a0_, iv (1 : Int32), iv (y0 &&& (255 : Int32)), iv (3 : Int32), .unset, .unset] [(.int (3 : Int32)), (.int (4 : Int32))])) _
      refine XS.icmpNo X2.here hx rfl (hb hby d2_23) rfl (tlt (by decide : (3 : Int32) < (4 : Int32))).2.2.2 ?_
      show Steps p.tables e below (T2.setTop (mkF m 26 #[rv a0_, iv (1 : Int32), iv (y0 &&& (255 : Int32)), iv (3 : Int32), .unset, .unset] [])) _
      refine XS.iconst X2.here hx rfl (hb hby d2_26) ?_
      show Steps p.tables e below (T2.setTop (mkF m 27 #[rv a0_, iv (1 : Int32), iv (y0 &&& (255 : Int32)), iv (3 : Int32), .unset, .unset] [(.int (0 : Int32))])) _
      exact retI X2 hx Bd.returns (hb hby d2_27) hr
    · show QSL12 Z a0_ kk z0 y0 y1 la lc sa sc ta tc h0 n0 _ T2.heap _
      rw [e2]
      exact ⟨(by unfold own_sl2; rw [if_neg hL5, if_neg hL6, if_pos hL17]), N0, rfl⟩
  have hL19 := own_L4 _ hL5 hL6 hL17
  rw [hL19] at S4
  obtain ⟨cl20, Ar20, qa20, Sa20, Na20, Ha20, Ga20⟩ := id V0
  obtain ⟨fs, hr, hrun, hended, hW, hsame⟩ := X2.leave (v := some (.int (0 : Int32))) (fun h => by rw [Bd.returns] at h; cases h)
  refine ⟨_, _, S4 _ ?_, hrun, hended, _, _, rfl, ?_, ⟨_, rfl⟩, hW, hsame.mono (by decide) (by decide)⟩
  · skip
    show Steps p.tables e below (T2.setTop (mkF m 14 #[rv a0_, iv (1 : Int32), iv (y0 &&& (255 : Int32)), iv (4 : Int32), .unset, .unset] [])) _
    refine XS.iloadN X2.here hx rfl (hb hby d2_14) rfl ?_
    show Steps p.tables e below (T2.setTop (mkF m 15 #[rv a0_, iv (1 : Int32), iv (y0 &&& (255 : Int32)), iv (4 : Int32), .unset, .unset] [(.int (4 : Int32))])) _
    refine XS.ifNo X2.here hx rfl (hb hby d2_15) rfl ((if0 _ _).trans (feq (by decide : ¬ ((4 : Int32) = (0 : Int32)))).1) ?_
    show Steps p.tables e below (T2.setTop (mkF m 18 #[rv a0_, iv (1 : Int32), iv (y0 &&& (255 : Int32)), iv (4 : Int32), .unset, .unset] [])) _
    refine XS.iloadN X2.here hx rfl (hb hby d2_18) rfl ?_
    show Steps p.tables e below (T2.setTop (mkF m 19 #[rv a0_, iv (1 : Int32), iv (y0 &&& (255 : Int32)), iv (4 : Int32), .unset, .unset] [(.int (1 : Int32))])) _
    refine XS.iloadN X2.here hx rfl (hb hby d2_19) rfl ?_
    show Steps p.tables e below (T2.setTop (mkF m 20 #[rv a0_, iv (1 : Int32), iv (y0 &&& (255 : Int32)), iv (4 : Int32), .unset, .unset] [(.int (4 : Int32)), (.int (1 : Int32))])) _
    refine XS.iadd X2.here hx rfl (hb hby d2_20) rfl ?_
    show Steps p.tables e below (T2.setTop (mkF m 21 #[rv a0_, iv (1 : Int32), iv (y0 &&& (255 : Int32)), iv (4 : Int32), .unset, .unset] [(.int (5 : Int32))])) _
    refine XS.aloadN X2.here hx rfl (hb hby d2_21) rfl rfl ?_
    show Steps p.tables e below (T2.setTop (mkF m 22 #[rv a0_, iv (1 : Int32), iv (y0 &&& (255 : Int32)), iv (4 : Int32), .unset, .unset] [(.ref a0_), (.int (5 : Int32))])) _
    refine X2.arraylength hx (by rw [e2]; exact Ar20.1) (State.isArrayOf_alike hZ.alike Ar20.2.1) (g := (mkF m 22 #[rv a0_, iv (1 : Int32), iv (y0 &&& (255 : Int32)), iv (4 : Int32), .unset, .unset] [(.ref a0_), (.int (5 : Int32))])) rfl rfl (hb hby d2_22) _ ?_
    rw [len_of Sa20 Na20]
    show Steps p.tables e below (T2.setTop (mkF m 23 #[rv a0_, iv (1 : Int32), iv (y0 &&& (255 : Int32)), iv (4 : Int32), .unset, .unset] [(.int (3 : Int32)), (.int (5 : Int32))])) _
    refine XS.icmpNo X2.here hx rfl (hb hby d2_23) rfl (tlt (by decide : (3 : Int32) < (5 : Int32))).2.2.2 ?_
    show Steps p.tables e below (T2.setTop (mkF m 26 #[rv a0_, iv (1 : Int32), iv (y0 &&& (255 : Int32)), iv (4 : Int32), .unset, .unset] [])) _
    refine XS.iconst X2.here hx rfl (hb hby d2_26) ?_
    show Steps p.tables e below (T2.setTop (mkF m 27 #[rv a0_, iv (1 : Int32), iv (y0 &&& (255 : Int32)), iv (4 : Int32), .unset, .unset] [(.int (0 : Int32))])) _
    exact retI X2 hx Bd.returns (hb hby d2_27) hr
  · show QSL12 Z a0_ kk z0 y0 y1 la lc sa sc ta tc h0 n0 _ T2.heap _
    rw [e2]
    exact ⟨(by unfold own_sl2; rw [if_neg hL5, if_neg hL6, if_neg hL17]), N0, rfl⟩
def QSL13 (Z : State) (a0_ : Addr) (kk : ClassId) (z0 : Int32) (y0 : Int32) (y1 : Int32) (y2 : Int32) (la : Addr) (lc : Cell) (sa : Addr) (sc : Cell) (ta : Addr) (tc : Cell) (h0 : Heap) (n0 : Nat) (v : Option Value) (h : Heap) (L : List Loc) : Prop := v = some (.int (own_sl3 y0 y1 y2)) ∧ Fr n0 L ∧ h = h0
theorem ef_rmSL13 (m : MethodId) (a0_ : Addr) : entryFrame m #[(.ref a0_), (.int (1 : Int32))] 6 = mkF m 0 #[rv a0_, iv (1 : Int32), .unset, .unset, .unset, .unset] [] := by first | (simp [entryFrame, mkF, argsToLocals, Value.category]; done) | rfl
set_option maxRecDepth 65536 in
set_option maxHeartbeats 40000000 in
theorem rmSL13 (l : Launch) (Z : State) (a0 : Array Value) (hw : ∀ d ∈ tables_1, d.before a0 Z = true) (ws : List Jvm.Cond) (a0_ : Addr) (kk : ClassId) (z0 : Int32) (y0 : Int32) (y1 : Int32) (y2 : Int32) (la : Addr) (lc : Cell) (sa : Addr) (sc : Cell) (ta : Addr) (tc : Cell) (h0 : Heap) (n0 : Nat) (Z0 : n0 ≤ h0.size) (V0 : Arv Z h0 a0_ kk .byte (4 : Int32) [(.int z0), (.int y0), (.int y1), (.int y2)] (.int (0 : Int32))) (hO : Old Z n0 h0) (hS1 : Sta Z Z.heap "com/example/rivanna/rivanna/core/json/Utf8" "LENGTH" "[I" (.ref la)) (hT1 : own_Tab Z la lc own_L) (hS2 : Sta Z Z.heap "com/example/rivanna/rivanna/core/json/Utf8" "SECOND_LOW" "[I" (.ref sa)) (hT2 : own_Tab Z sa sc own_lo) (hS3 : Sta Z Z.heap "com/example/rivanna/rivanna/core/json/Utf8" "SECOND_HIGH" "[I" (.ref ta)) (hT3 : own_Tab Z ta tc own_hi) :
    MetFree l (⟨"com/example/rivanna/rivanna/core/json/Utf8", "sequenceLength", "([BI)I"⟩ : MethodName) (head1 (Jvm.Cond.code (⟨"com/example/rivanna/rivanna/core/json/Utf8", "sequenceLength", "([BI)I"⟩ : MethodName) prog_28_method_3_code 6 (some .int) :: ws) ({ frames := 0, cells := 0, slots := 0, locals := 0 } : Room)) (fun a U => a = #[(.ref a0_), (.int (1 : Int32))] ∧ Z.Warmed39 U.vm ∧ U.heap = h0) (fun _ _ _ _ _ => True) (fun _ U o U' => ∃ v L, o = .returned v ∧ QSL13 Z a0_ kk z0 y0 y1 y2 la lc sa sc ta tc h0 n0 v U'.heap L ∧ FrameEnd U o U' L ({ frames := 0, cells := 0, slots := 0, locals := 0 } : Room).cells ({ frames := 0, cells := 0, slots := 0, locals := 0 } : Room).slots) := by
  refine MetFree.of_bodySF (plainFor_of_name pn_1) hisR ?_
  intro p e s m args below meth c s₁ Bd hml0 hP hK
  obtain ⟨rfl, hZ, hh⟩ := hP
  have hx := Bd.exec
  have hby := Bd.bytes
  have hml : c.maxLocals = 6 := hml0
  have hown : s.vm.findClass "com/example/rivanna/rivanna/core/json/Utf8" = some m.cls := findClass_of_methodNamed Bd.named
  have hnm := (name_of_methodNamed Bd.named Bd.method).1
  have X0 : Stand p l e ({ frames := 0, cells := 0, slots := 0, locals := 0 } : Room) s m #[(.ref a0_), (.int (1 : Int32))] below meth c s₁ [] 0 0 := Stand.of_body Bd
  have e0 : s₁.heap = h0 := by rw [← hh, Bd.state]; rfl
  have N0 := Fr.nil n0
  have S0 : ∀ t, Steps p.tables e below (s₁.setTop (mkF m 0 #[rv a0_, iv (1 : Int32), .unset, .unset, .unset, .unset] [])) t → Steps p.tables e below (s₁.setTop (entryFrame m #[(.ref a0_), (.int (1 : Int32))] 6)) t := fun t k => castTop (ef_rmSL13 m a0_) k
  obtain ⟨cl1, Ar1, qa1, Sa1, Na1, Ha1, Ga1⟩ := id V0
  have hin1 : ¬ ((1 : Int32) < 0 ∨ cl1.slots.size ≤ ((1 : Int32)).toNatClampNeg) := inb_of Sa1 ⟨by decide, by decide⟩
  obtain ⟨T2, X2, e2, st2⟩ := getS2 X0 hx hZ hown (host := "") (Or.inl (hw _ (List.mem_of_getElem? (i := 9) rfl))) Via.refl e0 (hS1.ext hO.2) (g := (mkF m 8 #[rv a0_, iv (1 : Int32), iv (y0 &&& (255 : Int32)), .unset, .unset, .unset] [])) rfl (hb hby d2_8)
  have hin3 : ¬ ((y0 &&& (255 : Int32)) < 0 ∨ lc.slots.size ≤ ((y0 &&& (255 : Int32))).toNatClampNeg) := inb_of hT1.2.1 (own_255 _)
  have S4 : ∀ t, Steps p.tables e below (T2.setTop (mkF m 14 #[rv a0_, iv (1 : Int32), iv (y0 &&& (255 : Int32)), iv (own_L (y0 &&& (255 : Int32))), .unset, .unset] [])) t → Steps p.tables e below (s₁.setTop (entryFrame m #[(.ref a0_), (.int (1 : Int32))] 6)) t := by
    intro t k
    refine S0 t ?_
    show Steps p.tables e below (s₁.setTop (mkF m 0 #[rv a0_, iv (1 : Int32), .unset, .unset, .unset, .unset] [])) _
    refine XS.aloadN X0.here hx rfl (hb hby d2_0) rfl rfl ?_
    show Steps p.tables e below (s₁.setTop (mkF m 1 #[rv a0_, iv (1 : Int32), .unset, .unset, .unset, .unset] [(.ref a0_)])) _
    refine XS.iloadN X0.here hx rfl (hb hby d2_1) rfl ?_
    show Steps p.tables e below (s₁.setTop (mkF m 2 #[rv a0_, iv (1 : Int32), .unset, .unset, .unset, .unset] [(.int (1 : Int32)), (.ref a0_)])) _
    refine X0.baloadBytes hx (j := (1 : Int32)) (v := (.int y0)) (by rw [e0]; exact Ar1.1) (State.isArrayOf_alike hZ.alike Ar1.2.1) Ar1.2.2 hin1 (Has.at Ha1 hin1 rfl) (g := (mkF m 2 #[rv a0_, iv (1 : Int32), .unset, .unset, .unset, .unset] [(.int (1 : Int32)), (.ref a0_)])) rfl rfl (hb hby d2_2) _ ?_
    show Steps p.tables e below (s₁.setTop (mkF m 3 #[rv a0_, iv (1 : Int32), .unset, .unset, .unset, .unset] [(.int y0)])) _
    refine XS.sipush X0.here hx rfl (hb hby d2_3) ?_
    show Steps p.tables e below (s₁.setTop (mkF m 6 #[rv a0_, iv (1 : Int32), .unset, .unset, .unset, .unset] [(.int (255 : Int32)), (.int y0)])) _
    refine XS.iand X0.here hx rfl (hb hby d2_6) rfl ?_
    show Steps p.tables e below (s₁.setTop (mkF m 7 #[rv a0_, iv (1 : Int32), .unset, .unset, .unset, .unset] [(.int (y0 &&& (255 : Int32)))])) _
    refine XS.istoreN X0.here hx rfl (hb hby d2_7) rfl (l' := #[rv a0_, iv (1 : Int32), iv (y0 &&& (255 : Int32)), .unset, .unset, .unset]) rfl ?_
    show Steps p.tables e below (s₁.setTop (mkF m 8 #[rv a0_, iv (1 : Int32), iv (y0 &&& (255 : Int32)), .unset, .unset, .unset] [])) _
    refine st2 _ ?_
    show Steps p.tables e below (T2.setTop (mkF m 11 #[rv a0_, iv (1 : Int32), iv (y0 &&& (255 : Int32)), .unset, .unset, .unset] [(.ref la)])) _
    refine XS.iloadN X2.here hx rfl (hb hby d2_11) rfl ?_
    show Steps p.tables e below (T2.setTop (mkF m 12 #[rv a0_, iv (1 : Int32), iv (y0 &&& (255 : Int32)), .unset, .unset, .unset] [(.int (y0 &&& (255 : Int32))), (.ref la)])) _
    refine X2.iaload hx (j := (y0 &&& (255 : Int32))) (v := (.int (own_L (y0 &&& (255 : Int32))))) (by rw [e2]; exact (hT1.1.ext hO.2).1) (State.isArrayOf_alike hZ.alike hT1.1.2.1) hT1.1.2.2 hin3 (hT1.2.2 _ hin3) (g := (mkF m 12 #[rv a0_, iv (1 : Int32), iv (y0 &&& (255 : Int32)), .unset, .unset, .unset] [(.int (y0 &&& (255 : Int32))), (.ref la)])) rfl rfl (hb hby d2_12) _ ?_
    show Steps p.tables e below (T2.setTop (mkF m 13 #[rv a0_, iv (1 : Int32), iv (y0 &&& (255 : Int32)), .unset, .unset, .unset] [(.int (own_L (y0 &&& (255 : Int32))))])) _
    refine XS.istoreN X2.here hx rfl (hb hby d2_13) rfl (l' := #[rv a0_, iv (1 : Int32), iv (y0 &&& (255 : Int32)), iv (own_L (y0 &&& (255 : Int32))), .unset, .unset]) rfl ?_
    exact k
  by_cases hL5 : (own_L (y0 &&& (255 : Int32))) = (0 : Int32)
  · skip
    rw [hL5] at S4
    obtain ⟨fs, hr, hrun, hended, hW, hsame⟩ := X2.leave (v := some (.int (0 : Int32))) (fun h => by rw [Bd.returns] at h; cases h)
    refine ⟨_, _, S4 _ ?_, hrun, hended, _, _, rfl, ?_, ⟨_, rfl⟩, hW, hsame.mono (by decide) (by decide)⟩
    · skip
      show Steps p.tables e below (T2.setTop (mkF m 14 #[rv a0_, iv (1 : Int32), iv (y0 &&& (255 : Int32)), iv (0 : Int32), .unset, .unset] [])) _
      refine XS.iloadN X2.here hx rfl (hb hby d2_14) rfl ?_
      show Steps p.tables e below (T2.setTop (mkF m 15 #[rv a0_, iv (1 : Int32), iv (y0 &&& (255 : Int32)), iv (0 : Int32), .unset, .unset] [(.int (0 : Int32))])) _
      refine XS.ifYes X2.here hx rfl (pc0 := 15) (pc' := 26) rfl (hb hby d2_15) rfl ((if0 _ _).trans (teq (by decide : (0 : Int32) = (0 : Int32))).1) (by decide) (by decide) ?_
      show Steps p.tables e below (T2.setTop (mkF m 26 #[rv a0_, iv (1 : Int32), iv (y0 &&& (255 : Int32)), iv (0 : Int32), .unset, .unset] [])) _
      refine XS.iconst X2.here hx rfl (hb hby d2_26) ?_
      show Steps p.tables e below (T2.setTop (mkF m 27 #[rv a0_, iv (1 : Int32), iv (y0 &&& (255 : Int32)), iv (0 : Int32), .unset, .unset] [(.int (0 : Int32))])) _
      exact retI X2 hx Bd.returns (hb hby d2_27) hr
    · show QSL13 Z a0_ kk z0 y0 y1 y2 la lc sa sc ta tc h0 n0 _ T2.heap _
      rw [e2]
      exact ⟨(by unfold own_sl3; rw [if_pos hL5]), N0, rfl⟩
  by_cases hL6 : (own_L (y0 &&& (255 : Int32))) = (2 : Int32)
  · skip
    rw [hL6] at S4
    obtain ⟨cl7, Ar7, qa7, Sa7, Na7, Ha7, Ga7⟩ := id V0
    obtain ⟨cl8, Ar8, qa8, Sa8, Na8, Ha8, Ga8⟩ := id V0
    have hin8 : ¬ ((2 : Int32) < 0 ∨ cl8.slots.size ≤ ((2 : Int32)).toNatClampNeg) := inb_of Sa8 ⟨by decide, by decide⟩
    obtain ⟨T9, X9, e9, st9⟩ := getS2 X2 hx hZ hown (host := "") (Or.inl (hw _ (List.mem_of_getElem? (i := 14) rfl))) Via.refl e2 (hS2.ext hO.2) (g := (mkF m 41 #[rv a0_, iv (1 : Int32), iv (y0 &&& (255 : Int32)), iv (2 : Int32), iv (y1 &&& (255 : Int32)), .unset] [(.int (y1 &&& (255 : Int32)))])) rfl (hb hby d2_41)
    have hin10 : ¬ ((y0 &&& (255 : Int32)) < 0 ∨ sc.slots.size ≤ ((y0 &&& (255 : Int32))).toNatClampNeg) := inb_of hT2.2.1 (own_255 _)
    have S11 : ∀ t, Steps p.tables e below (T9.setTop (mkF m 46 #[rv a0_, iv (1 : Int32), iv (y0 &&& (255 : Int32)), iv (2 : Int32), iv (y1 &&& (255 : Int32)), .unset] [(.int (own_lo (y0 &&& (255 : Int32)))), (.int (y1 &&& (255 : Int32)))])) t → Steps p.tables e below (s₁.setTop (entryFrame m #[(.ref a0_), (.int (1 : Int32))] 6)) t := by
      intro t k
      refine S4 t ?_
      show Steps p.tables e below (T2.setTop (mkF m 14 #[rv a0_, iv (1 : Int32), iv (y0 &&& (255 : Int32)), iv (2 : Int32), .unset, .unset] [])) _
      refine XS.iloadN X2.here hx rfl (hb hby d2_14) rfl ?_
      show Steps p.tables e below (T2.setTop (mkF m 15 #[rv a0_, iv (1 : Int32), iv (y0 &&& (255 : Int32)), iv (2 : Int32), .unset, .unset] [(.int (2 : Int32))])) _
      refine XS.ifNo X2.here hx rfl (hb hby d2_15) rfl ((if0 _ _).trans (feq (by decide : ¬ ((2 : Int32) = (0 : Int32)))).1) ?_
      show Steps p.tables e below (T2.setTop (mkF m 18 #[rv a0_, iv (1 : Int32), iv (y0 &&& (255 : Int32)), iv (2 : Int32), .unset, .unset] [])) _
      refine XS.iloadN X2.here hx rfl (hb hby d2_18) rfl ?_
      show Steps p.tables e below (T2.setTop (mkF m 19 #[rv a0_, iv (1 : Int32), iv (y0 &&& (255 : Int32)), iv (2 : Int32), .unset, .unset] [(.int (1 : Int32))])) _
      refine XS.iloadN X2.here hx rfl (hb hby d2_19) rfl ?_
      show Steps p.tables e below (T2.setTop (mkF m 20 #[rv a0_, iv (1 : Int32), iv (y0 &&& (255 : Int32)), iv (2 : Int32), .unset, .unset] [(.int (2 : Int32)), (.int (1 : Int32))])) _
      refine XS.iadd X2.here hx rfl (hb hby d2_20) rfl ?_
      show Steps p.tables e below (T2.setTop (mkF m 21 #[rv a0_, iv (1 : Int32), iv (y0 &&& (255 : Int32)), iv (2 : Int32), .unset, .unset] [(.int (3 : Int32))])) _
      refine XS.aloadN X2.here hx rfl (hb hby d2_21) rfl rfl ?_
      show Steps p.tables e below (T2.setTop (mkF m 22 #[rv a0_, iv (1 : Int32), iv (y0 &&& (255 : Int32)), iv (2 : Int32), .unset, .unset] [(.ref a0_), (.int (3 : Int32))])) _
      refine X2.arraylength hx (by rw [e2]; exact Ar7.1) (State.isArrayOf_alike hZ.alike Ar7.2.1) (g := (mkF m 22 #[rv a0_, iv (1 : Int32), iv (y0 &&& (255 : Int32)), iv (2 : Int32), .unset, .unset] [(.ref a0_), (.int (3 : Int32))])) rfl rfl (hb hby d2_22) _ ?_
      rw [len_of Sa7 Na7]
      show Steps p.tables e below (T2.setTop (mkF m 23 #[rv a0_, iv (1 : Int32), iv (y0 &&& (255 : Int32)), iv (2 : Int32), .unset, .unset] [(.int (4 : Int32)), (.int (3 : Int32))])) _
      refine XS.icmpYes X2.here hx rfl (pc0 := 23) (pc' := 28) rfl (hb hby d2_23) rfl (flt (by decide : ¬ ((4 : Int32) < (3 : Int32)))).2.2.2 (by decide) (by decide) ?_
      show Steps p.tables e below (T2.setTop (mkF m 28 #[rv a0_, iv (1 : Int32), iv (y0 &&& (255 : Int32)), iv (2 : Int32), .unset, .unset] [])) _
      refine XS.aloadN X2.here hx rfl (hb hby d2_28) rfl rfl ?_
      show Steps p.tables e below (T2.setTop (mkF m 29 #[rv a0_, iv (1 : Int32), iv (y0 &&& (255 : Int32)), iv (2 : Int32), .unset, .unset] [(.ref a0_)])) _
      refine XS.iloadN X2.here hx rfl (hb hby d2_29) rfl ?_
      show Steps p.tables e below (T2.setTop (mkF m 30 #[rv a0_, iv (1 : Int32), iv (y0 &&& (255 : Int32)), iv (2 : Int32), .unset, .unset] [(.int (1 : Int32)), (.ref a0_)])) _
      refine XS.iconst X2.here hx rfl (hb hby d2_30) ?_
      show Steps p.tables e below (T2.setTop (mkF m 31 #[rv a0_, iv (1 : Int32), iv (y0 &&& (255 : Int32)), iv (2 : Int32), .unset, .unset] [(.int (1 : Int32)), (.int (1 : Int32)), (.ref a0_)])) _
      refine XS.iadd X2.here hx rfl (hb hby d2_31) rfl ?_
      show Steps p.tables e below (T2.setTop (mkF m 32 #[rv a0_, iv (1 : Int32), iv (y0 &&& (255 : Int32)), iv (2 : Int32), .unset, .unset] [(.int (2 : Int32)), (.ref a0_)])) _
      refine X2.baloadBytes hx (j := (2 : Int32)) (v := (.int y1)) (by rw [e2]; exact Ar8.1) (State.isArrayOf_alike hZ.alike Ar8.2.1) Ar8.2.2 hin8 (Has.at Ha8 hin8 rfl) (g := (mkF m 32 #[rv a0_, iv (1 : Int32), iv (y0 &&& (255 : Int32)), iv (2 : Int32), .unset, .unset] [(.int (2 : Int32)), (.ref a0_)])) rfl rfl (hb hby d2_32) _ ?_
      show Steps p.tables e below (T2.setTop (mkF m 33 #[rv a0_, iv (1 : Int32), iv (y0 &&& (255 : Int32)), iv (2 : Int32), .unset, .unset] [(.int y1)])) _
      refine XS.sipush X2.here hx rfl (hb hby d2_33) ?_
      show Steps p.tables e below (T2.setTop (mkF m 36 #[rv a0_, iv (1 : Int32), iv (y0 &&& (255 : Int32)), iv (2 : Int32), .unset, .unset] [(.int (255 : Int32)), (.int y1)])) _
      refine XS.iand X2.here hx rfl (hb hby d2_36) rfl ?_
      show Steps p.tables e below (T2.setTop (mkF m 37 #[rv a0_, iv (1 : Int32), iv (y0 &&& (255 : Int32)), iv (2 : Int32), .unset, .unset] [(.int (y1 &&& (255 : Int32)))])) _
      refine XS.istore X2.here hx rfl (hb hby d2_37) rfl (l' := #[rv a0_, iv (1 : Int32), iv (y0 &&& (255 : Int32)), iv (2 : Int32), iv (y1 &&& (255 : Int32)), .unset]) rfl ?_
      show Steps p.tables e below (T2.setTop (mkF m 39 #[rv a0_, iv (1 : Int32), iv (y0 &&& (255 : Int32)), iv (2 : Int32), iv (y1 &&& (255 : Int32)), .unset] [])) _
      refine XS.iload X2.here hx rfl (hb hby d2_39) rfl ?_
      show Steps p.tables e below (T2.setTop (mkF m 41 #[rv a0_, iv (1 : Int32), iv (y0 &&& (255 : Int32)), iv (2 : Int32), iv (y1 &&& (255 : Int32)), .unset] [(.int (y1 &&& (255 : Int32)))])) _
      refine st9 _ ?_
      show Steps p.tables e below (T9.setTop (mkF m 44 #[rv a0_, iv (1 : Int32), iv (y0 &&& (255 : Int32)), iv (2 : Int32), iv (y1 &&& (255 : Int32)), .unset] [(.ref sa), (.int (y1 &&& (255 : Int32)))])) _
      refine XS.iloadN X9.here hx rfl (hb hby d2_44) rfl ?_
      show Steps p.tables e below (T9.setTop (mkF m 45 #[rv a0_, iv (1 : Int32), iv (y0 &&& (255 : Int32)), iv (2 : Int32), iv (y1 &&& (255 : Int32)), .unset] [(.int (y0 &&& (255 : Int32))), (.ref sa), (.int (y1 &&& (255 : Int32)))])) _
      refine X9.iaload hx (j := (y0 &&& (255 : Int32))) (v := (.int (own_lo (y0 &&& (255 : Int32))))) (by rw [e9]; exact (hT2.1.ext hO.2).1) (State.isArrayOf_alike hZ.alike hT2.1.2.1) hT2.1.2.2 hin10 (hT2.2.2 _ hin10) (g := (mkF m 45 #[rv a0_, iv (1 : Int32), iv (y0 &&& (255 : Int32)), iv (2 : Int32), iv (y1 &&& (255 : Int32)), .unset] [(.int (y0 &&& (255 : Int32))), (.ref sa), (.int (y1 &&& (255 : Int32)))])) rfl rfl (hb hby d2_45) _ ?_
      exact k
    by_cases hc12 : (y1 &&& (255 : Int32)) < (own_lo (y0 &&& (255 : Int32)))
    · skip
      obtain ⟨fs, hr, hrun, hended, hW, hsame⟩ := X9.leave (v := some (.int (0 : Int32))) (fun h => by rw [Bd.returns] at h; cases h)
      refine ⟨_, _, S11 _ ?_, hrun, hended, _, _, rfl, ?_, ⟨_, rfl⟩, hW, hsame.mono (by decide) (by decide)⟩
      · skip
        show Steps p.tables e below (T9.setTop (mkF m 46 #[rv a0_, iv (1 : Int32), iv (y0 &&& (255 : Int32)), iv (2 : Int32), iv (y1 &&& (255 : Int32)), .unset] [(.int (own_lo (y0 &&& (255 : Int32)))), (.int (y1 &&& (255 : Int32)))])) _
        refine XS.icmpYes X9.here hx rfl (pc0 := 46) (pc' := 59) rfl (hb hby d2_46) rfl (tlt hc12).1 (by decide) (by decide) ?_
        show Steps p.tables e below (T9.setTop (mkF m 59 #[rv a0_, iv (1 : Int32), iv (y0 &&& (255 : Int32)), iv (2 : Int32), iv (y1 &&& (255 : Int32)), .unset] [])) _
        refine XS.iconst X9.here hx rfl (hb hby d2_59) ?_
        show Steps p.tables e below (T9.setTop (mkF m 60 #[rv a0_, iv (1 : Int32), iv (y0 &&& (255 : Int32)), iv (2 : Int32), iv (y1 &&& (255 : Int32)), .unset] [(.int (0 : Int32))])) _
        exact retI X9 hx Bd.returns (hb hby d2_60) hr
      · show QSL13 Z a0_ kk z0 y0 y1 y2 la lc sa sc ta tc h0 n0 _ T9.heap _
        rw [e9]
        exact ⟨(by unfold own_sl3; rw [if_neg hL5, if_pos hL6, if_pos hc12]), N0, rfl⟩
    · skip
      obtain ⟨T13, X13, e13, st13⟩ := getS2 X9 hx hZ hown (host := "") (Or.inl (hw _ (List.mem_of_getElem? (i := 16) rfl))) Via.refl e9 (hS3.ext hO.2) (g := (mkF m 51 #[rv a0_, iv (1 : Int32), iv (y0 &&& (255 : Int32)), iv (2 : Int32), iv (y1 &&& (255 : Int32)), .unset] [(.int (y1 &&& (255 : Int32)))])) rfl (hb hby d2_51)
      have hin14 : ¬ ((y0 &&& (255 : Int32)) < 0 ∨ tc.slots.size ≤ ((y0 &&& (255 : Int32))).toNatClampNeg) := inb_of hT3.2.1 (own_255 _)
      have S15 : ∀ t, Steps p.tables e below (T13.setTop (mkF m 56 #[rv a0_, iv (1 : Int32), iv (y0 &&& (255 : Int32)), iv (2 : Int32), iv (y1 &&& (255 : Int32)), .unset] [(.int (own_hi (y0 &&& (255 : Int32)))), (.int (y1 &&& (255 : Int32)))])) t → Steps p.tables e below (s₁.setTop (entryFrame m #[(.ref a0_), (.int (1 : Int32))] 6)) t := by
        intro t k
        refine S11 t ?_
        show Steps p.tables e below (T9.setTop (mkF m 46 #[rv a0_, iv (1 : Int32), iv (y0 &&& (255 : Int32)), iv (2 : Int32), iv (y1 &&& (255 : Int32)), .unset] [(.int (own_lo (y0 &&& (255 : Int32)))), (.int (y1 &&& (255 : Int32)))])) _
        refine XS.icmpNo X9.here hx rfl (hb hby d2_46) rfl (flt hc12).1 ?_
        show Steps p.tables e below (T9.setTop (mkF m 49 #[rv a0_, iv (1 : Int32), iv (y0 &&& (255 : Int32)), iv (2 : Int32), iv (y1 &&& (255 : Int32)), .unset] [])) _
        refine XS.iload X9.here hx rfl (hb hby d2_49) rfl ?_
        show Steps p.tables e below (T9.setTop (mkF m 51 #[rv a0_, iv (1 : Int32), iv (y0 &&& (255 : Int32)), iv (2 : Int32), iv (y1 &&& (255 : Int32)), .unset] [(.int (y1 &&& (255 : Int32)))])) _
        refine st13 _ ?_
        show Steps p.tables e below (T13.setTop (mkF m 54 #[rv a0_, iv (1 : Int32), iv (y0 &&& (255 : Int32)), iv (2 : Int32), iv (y1 &&& (255 : Int32)), .unset] [(.ref ta), (.int (y1 &&& (255 : Int32)))])) _
        refine XS.iloadN X13.here hx rfl (hb hby d2_54) rfl ?_
        show Steps p.tables e below (T13.setTop (mkF m 55 #[rv a0_, iv (1 : Int32), iv (y0 &&& (255 : Int32)), iv (2 : Int32), iv (y1 &&& (255 : Int32)), .unset] [(.int (y0 &&& (255 : Int32))), (.ref ta), (.int (y1 &&& (255 : Int32)))])) _
        refine X13.iaload hx (j := (y0 &&& (255 : Int32))) (v := (.int (own_hi (y0 &&& (255 : Int32))))) (by rw [e13]; exact (hT3.1.ext hO.2).1) (State.isArrayOf_alike hZ.alike hT3.1.2.1) hT3.1.2.2 hin14 (hT3.2.2 _ hin14) (g := (mkF m 55 #[rv a0_, iv (1 : Int32), iv (y0 &&& (255 : Int32)), iv (2 : Int32), iv (y1 &&& (255 : Int32)), .unset] [(.int (y0 &&& (255 : Int32))), (.ref ta), (.int (y1 &&& (255 : Int32)))])) rfl rfl (hb hby d2_55) _ ?_
        exact k
      by_cases hc16 : (own_hi (y0 &&& (255 : Int32))) < (y1 &&& (255 : Int32))
      · skip
        obtain ⟨fs, hr, hrun, hended, hW, hsame⟩ := X13.leave (v := some (.int (0 : Int32))) (fun h => by rw [Bd.returns] at h; cases h)
        refine ⟨_, _, S15 _ ?_, hrun, hended, _, _, rfl, ?_, ⟨_, rfl⟩, hW, hsame.mono (by decide) (by decide)⟩
        · skip
          show Steps p.tables e below (T13.setTop (mkF m 56 #[rv a0_, iv (1 : Int32), iv (y0 &&& (255 : Int32)), iv (2 : Int32), iv (y1 &&& (255 : Int32)), .unset] [(.int (own_hi (y0 &&& (255 : Int32)))), (.int (y1 &&& (255 : Int32)))])) _
          refine XS.icmpNo X13.here hx rfl (hb hby d2_56) rfl (tlt hc16).2.2.2 ?_
          show Steps p.tables e below (T13.setTop (mkF m 59 #[rv a0_, iv (1 : Int32), iv (y0 &&& (255 : Int32)), iv (2 : Int32), iv (y1 &&& (255 : Int32)), .unset] [])) _
          refine XS.iconst X13.here hx rfl (hb hby d2_59) ?_
          show Steps p.tables e below (T13.setTop (mkF m 60 #[rv a0_, iv (1 : Int32), iv (y0 &&& (255 : Int32)), iv (2 : Int32), iv (y1 &&& (255 : Int32)), .unset] [(.int (0 : Int32))])) _
          exact retI X13 hx Bd.returns (hb hby d2_60) hr
        · show QSL13 Z a0_ kk z0 y0 y1 y2 la lc sa sc ta tc h0 n0 _ T13.heap _
          rw [e13]
          exact ⟨(by unfold own_sl3; rw [if_neg hL5, if_pos hL6, if_neg hc12, if_pos hc16]), N0, rfl⟩
      · skip
        obtain ⟨fs, hr, hrun, hended, hW, hsame⟩ := X13.leave (v := some (.int (2 : Int32))) (fun h => by rw [Bd.returns] at h; cases h)
        refine ⟨_, _, S15 _ ?_, hrun, hended, _, _, rfl, ?_, ⟨_, rfl⟩, hW, hsame.mono (by decide) (by decide)⟩
        · skip
          show Steps p.tables e below (T13.setTop (mkF m 56 #[rv a0_, iv (1 : Int32), iv (y0 &&& (255 : Int32)), iv (2 : Int32), iv (y1 &&& (255 : Int32)), .unset] [(.int (own_hi (y0 &&& (255 : Int32)))), (.int (y1 &&& (255 : Int32)))])) _
          refine XS.icmpYes X13.here hx rfl (pc0 := 56) (pc' := 61) rfl (hb hby d2_56) rfl (flt hc16).2.2.2 (by decide) (by decide) ?_
          show Steps p.tables e below (T13.setTop (mkF m 61 #[rv a0_, iv (1 : Int32), iv (y0 &&& (255 : Int32)), iv (2 : Int32), iv (y1 &&& (255 : Int32)), .unset] [])) _
          refine XS.iloadN X13.here hx rfl (hb hby d2_61) rfl ?_
          show Steps p.tables e below (T13.setTop (mkF m 62 #[rv a0_, iv (1 : Int32), iv (y0 &&& (255 : Int32)), iv (2 : Int32), iv (y1 &&& (255 : Int32)), .unset] [(.int (1 : Int32))])) _
          refine XS.iconst X13.here hx rfl (hb hby d2_62) ?_
          show Steps p.tables e below (T13.setTop (mkF m 63 #[rv a0_, iv (1 : Int32), iv (y0 &&& (255 : Int32)), iv (2 : Int32), iv (y1 &&& (255 : Int32)), .unset] [(.int (2 : Int32)), (.int (1 : Int32))])) _
          refine XS.iadd X13.here hx rfl (hb hby d2_63) rfl ?_
          show Steps p.tables e below (T13.setTop (mkF m 64 #[rv a0_, iv (1 : Int32), iv (y0 &&& (255 : Int32)), iv (2 : Int32), iv (y1 &&& (255 : Int32)), .unset] [(.int (3 : Int32))])) _
          refine XS.istore X13.here hx rfl (hb hby d2_64) rfl (l' := #[rv a0_, iv (1 : Int32), iv (y0 &&& (255 : Int32)), iv (2 : Int32), iv (y1 &&& (255 : Int32)), iv (3 : Int32)]) rfl ?_
          show Steps p.tables e below (T13.setTop (mkF m 66 #[rv a0_, iv (1 : Int32), iv (y0 &&& (255 : Int32)), iv (2 : Int32), iv (y1 &&& (255 : Int32)), iv (3 : Int32)] [])) _
          refine XS.iload X13.here hx rfl (hb hby d2_66) rfl ?_
          show Steps p.tables e below (T13.setTop (mkF m 68 #[rv a0_, iv (1 : Int32), iv (y0 &&& (255 : Int32)), iv (2 : Int32), iv (y1 &&& (255 : Int32)), iv (3 : Int32)] [(.int (3 : Int32))])) _
          refine XS.iloadN X13.here hx rfl (hb hby d2_68) rfl ?_
          show Steps p.tables e below (T13.setTop (mkF m 69 #[rv a0_, iv (1 : Int32), iv (y0 &&& (255 : Int32)), iv (2 : Int32), iv (y1 &&& (255 : Int32)), iv (3 : Int32)] [(.int (1 : Int32)), (.int (3 : Int32))])) _
          refine XS.iloadN X13.here hx rfl (hb hby d2_69) rfl ?_
          show Steps p.tables e below (T13.setTop (mkF m 70 #[rv a0_, iv (1 : Int32), iv (y0 &&& (255 : Int32)), iv (2 : Int32), iv (y1 &&& (255 : Int32)), iv (3 : Int32)] [(.int (2 : Int32)), (.int (1 : Int32)), (.int (3 : Int32))])) _
          refine XS.iadd X13.here hx rfl (hb hby d2_70) rfl ?_
          show Steps p.tables e below (T13.setTop (mkF m 71 #[rv a0_, iv (1 : Int32), iv (y0 &&& (255 : Int32)), iv (2 : Int32), iv (y1 &&& (255 : Int32)), iv (3 : Int32)] [(.int (3 : Int32)), (.int (3 : Int32))])) _
          refine XS.icmpYes X13.here hx rfl (pc0 := 71) (pc' := 96) rfl (hb hby d2_71) rfl (flt (by decide : ¬ ((3 : Int32) < (3 : Int32)))).2.1 (by decide) (by decide) ?_
          show Steps p.tables e below (T13.setTop (mkF m 96 #[rv a0_, iv (1 : Int32), iv (y0 &&& (255 : Int32)), iv (2 : Int32), iv (y1 &&& (255 : Int32)), iv (3 : Int32)] [])) _
          refine XS.iloadN X13.here hx rfl (hb hby d2_96) rfl ?_
          show Steps p.tables e below (T13.setTop (mkF m 97 #[rv a0_, iv (1 : Int32), iv (y0 &&& (255 : Int32)), iv (2 : Int32), iv (y1 &&& (255 : Int32)), iv (3 : Int32)] [(.int (2 : Int32))])) _
          exact retI X13 hx Bd.returns (hb hby d2_97) hr
        · show QSL13 Z a0_ kk z0 y0 y1 y2 la lc sa sc ta tc h0 n0 _ T13.heap _
          rw [e13]
          exact ⟨(by unfold own_sl3; rw [if_neg hL5, if_pos hL6, if_neg hc12, if_neg hc16]), N0, rfl⟩
  by_cases hL17 : (own_L (y0 &&& (255 : Int32))) = (3 : Int32)
  · skip
    rw [hL17] at S4
    obtain ⟨cl18, Ar18, qa18, Sa18, Na18, Ha18, Ga18⟩ := id V0
    obtain ⟨cl19, Ar19, qa19, Sa19, Na19, Ha19, Ga19⟩ := id V0
    have hin19 : ¬ ((2 : Int32) < 0 ∨ cl19.slots.size ≤ ((2 : Int32)).toNatClampNeg) := inb_of Sa19 ⟨by decide, by decide⟩
    obtain ⟨T20, X20, e20, st20⟩ := getS2 X2 hx hZ hown (host := "") (Or.inl (hw _ (List.mem_of_getElem? (i := 14) rfl))) Via.refl e2 (hS2.ext hO.2) (g := (mkF m 41 #[rv a0_, iv (1 : Int32), iv (y0 &&& (255 : Int32)), iv (3 : Int32), iv (y1 &&& (255 : Int32)), .unset] [(.int (y1 &&& (255 : Int32)))])) rfl (hb hby d2_41)
    have hin21 : ¬ ((y0 &&& (255 : Int32)) < 0 ∨ sc.slots.size ≤ ((y0 &&& (255 : Int32))).toNatClampNeg) := inb_of hT2.2.1 (own_255 _)
    have S22 : ∀ t, Steps p.tables e below (T20.setTop (mkF m 46 #[rv a0_, iv (1 : Int32), iv (y0 &&& (255 : Int32)), iv (3 : Int32), iv (y1 &&& (255 : Int32)), .unset] [(.int (own_lo (y0 &&& (255 : Int32)))), (.int (y1 &&& (255 : Int32)))])) t → Steps p.tables e below (s₁.setTop (entryFrame m #[(.ref a0_), (.int (1 : Int32))] 6)) t := by
      intro t k
      refine S4 t ?_
      show Steps p.tables e below (T2.setTop (mkF m 14 #[rv a0_, iv (1 : Int32), iv (y0 &&& (255 : Int32)), iv (3 : Int32), .unset, .unset] [])) _
      refine XS.iloadN X2.here hx rfl (hb hby d2_14) rfl ?_
      show Steps p.tables e below (T2.setTop (mkF m 15 #[rv a0_, iv (1 : Int32), iv (y0 &&& (255 : Int32)), iv (3 : Int32), .unset, .unset] [(.int (3 : Int32))])) _
      refine XS.ifNo X2.here hx rfl (hb hby d2_15) rfl ((if0 _ _).trans (feq (by decide : ¬ ((3 : Int32) = (0 : Int32)))).1) ?_
      show Steps p.tables e below (T2.setTop (mkF m 18 #[rv a0_, iv (1 : Int32), iv (y0 &&& (255 : Int32)), iv (3 : Int32), .unset, .unset] [])) _
      refine XS.iloadN X2.here hx rfl (hb hby d2_18) rfl ?_
      show Steps p.tables e below (T2.setTop (mkF m 19 #[rv a0_, iv (1 : Int32), iv (y0 &&& (255 : Int32)), iv (3 : Int32), .unset, .unset] [(.int (1 : Int32))])) _
      refine XS.iloadN X2.here hx rfl (hb hby d2_19) rfl ?_
      show Steps p.tables e below (T2.setTop (mkF m 20 #[rv a0_, iv (1 : Int32), iv (y0 &&& (255 : Int32)), iv (3 : Int32), .unset, .unset] [(.int (3 : Int32)), (.int (1 : Int32))])) _
      refine XS.iadd X2.here hx rfl (hb hby d2_20) rfl ?_
      show Steps p.tables e below (T2.setTop (mkF m 21 #[rv a0_, iv (1 : Int32), iv (y0 &&& (255 : Int32)), iv (3 : Int32), .unset, .unset] [(.int (4 : Int32))])) _
      refine XS.aloadN X2.here hx rfl (hb hby d2_21) rfl rfl ?_
      show Steps p.tables e below (T2.setTop (mkF m 22 #[rv a0_, iv (1 : Int32), iv (y0 &&& (255 : Int32)), iv (3 : Int32), .unset, .unset] [(.ref a0_), (.int (4 : Int32))])) _
      refine X2.arraylength hx (by rw [e2]; exact Ar18.1) (State.isArrayOf_alike hZ.alike Ar18.2.1) (g := (mkF m 22 #[rv a0_, iv (1 : Int32), iv (y0 &&& (255 : Int32)), iv (3 : Int32), .unset, .unset] [(.ref a0_), (.int (4 : Int32))])) rfl rfl (hb hby d2_22) _ ?_
      rw [len_of Sa18 Na18]
      show Steps p.tables e below (T2.setTop (mkF m 23 #[rv a0_, iv (1 : Int32), iv (y0 &&& (255 : Int32)), iv (3 : Int32), .unset, .unset] [(.int (4 : Int32)), (.int (4 : Int32))])) _
      refine XS.icmpYes X2.here hx rfl (pc0 := 23) (pc' := 28) rfl (hb hby d2_23) rfl (flt (by decide : ¬ ((4 : Int32) < (4 : Int32)))).2.2.2 (by decide) (by decide) ?_
      show Steps p.tables e below (T2.setTop (mkF m 28 #[rv a0_, iv (1 : Int32), iv (y0 &&& (255 : Int32)), iv (3 : Int32), .unset, .unset] [])) _
      refine XS.aloadN X2.here hx rfl (hb hby d2_28) rfl rfl ?_
      show Steps p.tables e below (T2.setTop (mkF m 29 #[rv a0_, iv (1 : Int32), iv (y0 &&& (255 : Int32)), iv (3 : Int32), .unset, .unset] [(.ref a0_)])) _
      refine XS.iloadN X2.here hx rfl (hb hby d2_29) rfl ?_
      show Steps p.tables e below (T2.setTop (mkF m 30 #[rv a0_, iv (1 : Int32), iv (y0 &&& (255 : Int32)), iv (3 : Int32), .unset, .unset] [(.int (1 : Int32)), (.ref a0_)])) _
      refine XS.iconst X2.here hx rfl (hb hby d2_30) ?_
      show Steps p.tables e below (T2.setTop (mkF m 31 #[rv a0_, iv (1 : Int32), iv (y0 &&& (255 : Int32)), iv (3 : Int32), .unset, .unset] [(.int (1 : Int32)), (.int (1 : Int32)), (.ref a0_)])) _
      refine XS.iadd X2.here hx rfl (hb hby d2_31) rfl ?_
      show Steps p.tables e below (T2.setTop (mkF m 32 #[rv a0_, iv (1 : Int32), iv (y0 &&& (255 : Int32)), iv (3 : Int32), .unset, .unset] [(.int (2 : Int32)), (.ref a0_)])) _
      refine X2.baloadBytes hx (j := (2 : Int32)) (v := (.int y1)) (by rw [e2]; exact Ar19.1) (State.isArrayOf_alike hZ.alike Ar19.2.1) Ar19.2.2 hin19 (Has.at Ha19 hin19 rfl) (g := (mkF m 32 #[rv a0_, iv (1 : Int32), iv (y0 &&& (255 : Int32)), iv (3 : Int32), .unset, .unset] [(.int (2 : Int32)), (.ref a0_)])) rfl rfl (hb hby d2_32) _ ?_
      show Steps p.tables e below (T2.setTop (mkF m 33 #[rv a0_, iv (1 : Int32), iv (y0 &&& (255 : Int32)), iv (3 : Int32), .unset, .unset] [(.int y1)])) _
      refine XS.sipush X2.here hx rfl (hb hby d2_33) ?_
      show Steps p.tables e below (T2.setTop (mkF m 36 #[rv a0_, iv (1 : Int32), iv (y0 &&& (255 : Int32)), iv (3 : Int32), .unset, .unset] [(.int (255 : Int32)), (.int y1)])) _
      refine XS.iand X2.here hx rfl (hb hby d2_36) rfl ?_
      show Steps p.tables e below (T2.setTop (mkF m 37 #[rv a0_, iv (1 : Int32), iv (y0 &&& (255 : Int32)), iv (3 : Int32), .unset, .unset] [(.int (y1 &&& (255 : Int32)))])) _
      refine XS.istore X2.here hx rfl (hb hby d2_37) rfl (l' := #[rv a0_, iv (1 : Int32), iv (y0 &&& (255 : Int32)), iv (3 : Int32), iv (y1 &&& (255 : Int32)), .unset]) rfl ?_
      show Steps p.tables e below (T2.setTop (mkF m 39 #[rv a0_, iv (1 : Int32), iv (y0 &&& (255 : Int32)), iv (3 : Int32), iv (y1 &&& (255 : Int32)), .unset] [])) _
      refine XS.iload X2.here hx rfl (hb hby d2_39) rfl ?_
      show Steps p.tables e below (T2.setTop (mkF m 41 #[rv a0_, iv (1 : Int32), iv (y0 &&& (255 : Int32)), iv (3 : Int32), iv (y1 &&& (255 : Int32)), .unset] [(.int (y1 &&& (255 : Int32)))])) _
      refine st20 _ ?_
      show Steps p.tables e below (T20.setTop (mkF m 44 #[rv a0_, iv (1 : Int32), iv (y0 &&& (255 : Int32)), iv (3 : Int32), iv (y1 &&& (255 : Int32)), .unset] [(.ref sa), (.int (y1 &&& (255 : Int32)))])) _
      refine XS.iloadN X20.here hx rfl (hb hby d2_44) rfl ?_
      show Steps p.tables e below (T20.setTop (mkF m 45 #[rv a0_, iv (1 : Int32), iv (y0 &&& (255 : Int32)), iv (3 : Int32), iv (y1 &&& (255 : Int32)), .unset] [(.int (y0 &&& (255 : Int32))), (.ref sa), (.int (y1 &&& (255 : Int32)))])) _
      refine X20.iaload hx (j := (y0 &&& (255 : Int32))) (v := (.int (own_lo (y0 &&& (255 : Int32))))) (by rw [e20]; exact (hT2.1.ext hO.2).1) (State.isArrayOf_alike hZ.alike hT2.1.2.1) hT2.1.2.2 hin21 (hT2.2.2 _ hin21) (g := (mkF m 45 #[rv a0_, iv (1 : Int32), iv (y0 &&& (255 : Int32)), iv (3 : Int32), iv (y1 &&& (255 : Int32)), .unset] [(.int (y0 &&& (255 : Int32))), (.ref sa), (.int (y1 &&& (255 : Int32)))])) rfl rfl (hb hby d2_45) _ ?_
      exact k
    by_cases hc23 : (y1 &&& (255 : Int32)) < (own_lo (y0 &&& (255 : Int32)))
    · skip
      obtain ⟨fs, hr, hrun, hended, hW, hsame⟩ := X20.leave (v := some (.int (0 : Int32))) (fun h => by rw [Bd.returns] at h; cases h)
      refine ⟨_, _, S22 _ ?_, hrun, hended, _, _, rfl, ?_, ⟨_, rfl⟩, hW, hsame.mono (by decide) (by decide)⟩
      · skip
        show Steps p.tables e below (T20.setTop (mkF m 46 #[rv a0_, iv (1 : Int32), iv (y0 &&& (255 : Int32)), iv (3 : Int32), iv (y1 &&& (255 : Int32)), .unset] [(.int (own_lo (y0 &&& (255 : Int32)))), (.int (y1 &&& (255 : Int32)))])) _
        refine XS.icmpYes X20.here hx rfl (pc0 := 46) (pc' := 59) rfl (hb hby d2_46) rfl (tlt hc23).1 (by decide) (by decide) ?_
        show Steps p.tables e below (T20.setTop (mkF m 59 #[rv a0_, iv (1 : Int32), iv (y0 &&& (255 : Int32)), iv (3 : Int32), iv (y1 &&& (255 : Int32)), .unset] [])) _
        refine XS.iconst X20.here hx rfl (hb hby d2_59) ?_
        show Steps p.tables e below (T20.setTop (mkF m 60 #[rv a0_, iv (1 : Int32), iv (y0 &&& (255 : Int32)), iv (3 : Int32), iv (y1 &&& (255 : Int32)), .unset] [(.int (0 : Int32))])) _
        exact retI X20 hx Bd.returns (hb hby d2_60) hr
      · show QSL13 Z a0_ kk z0 y0 y1 y2 la lc sa sc ta tc h0 n0 _ T20.heap _
        rw [e20]
        exact ⟨(by unfold own_sl3; rw [if_neg hL5, if_neg hL6, if_pos hL17, if_pos hc23]), N0, rfl⟩
    · skip
      obtain ⟨T24, X24, e24, st24⟩ := getS2 X20 hx hZ hown (host := "") (Or.inl (hw _ (List.mem_of_getElem? (i := 16) rfl))) Via.refl e20 (hS3.ext hO.2) (g := (mkF m 51 #[rv a0_, iv (1 : Int32), iv (y0 &&& (255 : Int32)), iv (3 : Int32), iv (y1 &&& (255 : Int32)), .unset] [(.int (y1 &&& (255 : Int32)))])) rfl (hb hby d2_51)
      have hin25 : ¬ ((y0 &&& (255 : Int32)) < 0 ∨ tc.slots.size ≤ ((y0 &&& (255 : Int32))).toNatClampNeg) := inb_of hT3.2.1 (own_255 _)
      have S26 : ∀ t, Steps p.tables e below (T24.setTop (mkF m 56 #[rv a0_, iv (1 : Int32), iv (y0 &&& (255 : Int32)), iv (3 : Int32), iv (y1 &&& (255 : Int32)), .unset] [(.int (own_hi (y0 &&& (255 : Int32)))), (.int (y1 &&& (255 : Int32)))])) t → Steps p.tables e below (s₁.setTop (entryFrame m #[(.ref a0_), (.int (1 : Int32))] 6)) t := by
        intro t k
        refine S22 t ?_
        show Steps p.tables e below (T20.setTop (mkF m 46 #[rv a0_, iv (1 : Int32), iv (y0 &&& (255 : Int32)), iv (3 : Int32), iv (y1 &&& (255 : Int32)), .unset] [(.int (own_lo (y0 &&& (255 : Int32)))), (.int (y1 &&& (255 : Int32)))])) _
        refine XS.icmpNo X20.here hx rfl (hb hby d2_46) rfl (flt hc23).1 ?_
        show Steps p.tables e below (T20.setTop (mkF m 49 #[rv a0_, iv (1 : Int32), iv (y0 &&& (255 : Int32)), iv (3 : Int32), iv (y1 &&& (255 : Int32)), .unset] [])) _
        refine XS.iload X20.here hx rfl (hb hby d2_49) rfl ?_
        show Steps p.tables e below (T20.setTop (mkF m 51 #[rv a0_, iv (1 : Int32), iv (y0 &&& (255 : Int32)), iv (3 : Int32), iv (y1 &&& (255 : Int32)), .unset] [(.int (y1 &&& (255 : Int32)))])) _
        refine st24 _ ?_
        show Steps p.tables e below (T24.setTop (mkF m 54 #[rv a0_, iv (1 : Int32), iv (y0 &&& (255 : Int32)), iv (3 : Int32), iv (y1 &&& (255 : Int32)), .unset] [(.ref ta), (.int (y1 &&& (255 : Int32)))])) _
        refine XS.iloadN X24.here hx rfl (hb hby d2_54) rfl ?_
        show Steps p.tables e below (T24.setTop (mkF m 55 #[rv a0_, iv (1 : Int32), iv (y0 &&& (255 : Int32)), iv (3 : Int32), iv (y1 &&& (255 : Int32)), .unset] [(.int (y0 &&& (255 : Int32))), (.ref ta), (.int (y1 &&& (255 : Int32)))])) _
        refine X24.iaload hx (j := (y0 &&& (255 : Int32))) (v := (.int (own_hi (y0 &&& (255 : Int32))))) (by rw [e24]; exact (hT3.1.ext hO.2).1) (State.isArrayOf_alike hZ.alike hT3.1.2.1) hT3.1.2.2 hin25 (hT3.2.2 _ hin25) (g := (mkF m 55 #[rv a0_, iv (1 : Int32), iv (y0 &&& (255 : Int32)), iv (3 : Int32), iv (y1 &&& (255 : Int32)), .unset] [(.int (y0 &&& (255 : Int32))), (.ref ta), (.int (y1 &&& (255 : Int32)))])) rfl rfl (hb hby d2_55) _ ?_
        exact k
      by_cases hc27 : (own_hi (y0 &&& (255 : Int32))) < (y1 &&& (255 : Int32))
      · skip
        obtain ⟨fs, hr, hrun, hended, hW, hsame⟩ := X24.leave (v := some (.int (0 : Int32))) (fun h => by rw [Bd.returns] at h; cases h)
        refine ⟨_, _, S26 _ ?_, hrun, hended, _, _, rfl, ?_, ⟨_, rfl⟩, hW, hsame.mono (by decide) (by decide)⟩
        · skip
          show Steps p.tables e below (T24.setTop (mkF m 56 #[rv a0_, iv (1 : Int32), iv (y0 &&& (255 : Int32)), iv (3 : Int32), iv (y1 &&& (255 : Int32)), .unset] [(.int (own_hi (y0 &&& (255 : Int32)))), (.int (y1 &&& (255 : Int32)))])) _
          refine XS.icmpNo X24.here hx rfl (hb hby d2_56) rfl (tlt hc27).2.2.2 ?_
          show Steps p.tables e below (T24.setTop (mkF m 59 #[rv a0_, iv (1 : Int32), iv (y0 &&& (255 : Int32)), iv (3 : Int32), iv (y1 &&& (255 : Int32)), .unset] [])) _
          refine XS.iconst X24.here hx rfl (hb hby d2_59) ?_
          show Steps p.tables e below (T24.setTop (mkF m 60 #[rv a0_, iv (1 : Int32), iv (y0 &&& (255 : Int32)), iv (3 : Int32), iv (y1 &&& (255 : Int32)), .unset] [(.int (0 : Int32))])) _
          exact retI X24 hx Bd.returns (hb hby d2_60) hr
        · show QSL13 Z a0_ kk z0 y0 y1 y2 la lc sa sc ta tc h0 n0 _ T24.heap _
          rw [e24]
          exact ⟨(by unfold own_sl3; rw [if_neg hL5, if_neg hL6, if_pos hL17, if_neg hc23, if_pos hc27]), N0, rfl⟩
      · skip
        obtain ⟨cl28, Ar28, qa28, Sa28, Na28, Ha28, Ga28⟩ := id V0
        have hin28 : ¬ ((3 : Int32) < 0 ∨ cl28.slots.size ≤ ((3 : Int32)).toNatClampNeg) := inb_of Sa28 ⟨by decide, by decide⟩
        have S29 : ∀ t, Steps p.tables e below (T24.setTop (mkF m 85 #[rv a0_, iv (1 : Int32), iv (y0 &&& (255 : Int32)), iv (3 : Int32), iv (y1 &&& (255 : Int32)), iv (3 : Int32)] [(.int (128 : Int32)), (.int (y2 &&& (192 : Int32)))])) t → Steps p.tables e below (s₁.setTop (entryFrame m #[(.ref a0_), (.int (1 : Int32))] 6)) t := by
          intro t k
          refine S26 t ?_
          show Steps p.tables e below (T24.setTop (mkF m 56 #[rv a0_, iv (1 : Int32), iv (y0 &&& (255 : Int32)), iv (3 : Int32), iv (y1 &&& (255 : Int32)), .unset] [(.int (own_hi (y0 &&& (255 : Int32)))), (.int (y1 &&& (255 : Int32)))])) _
          refine XS.icmpYes X24.here hx rfl (pc0 := 56) (pc' := 61) rfl (hb hby d2_56) rfl (flt hc27).2.2.2 (by decide) (by decide) ?_
          show Steps p.tables e below (T24.setTop (mkF m 61 #[rv a0_, iv (1 : Int32), iv (y0 &&& (255 : Int32)), iv (3 : Int32), iv (y1 &&& (255 : Int32)), .unset] [])) _
          refine XS.iloadN X24.here hx rfl (hb hby d2_61) rfl ?_
          show Steps p.tables e below (T24.setTop (mkF m 62 #[rv a0_, iv (1 : Int32), iv (y0 &&& (255 : Int32)), iv (3 : Int32), iv (y1 &&& (255 : Int32)), .unset] [(.int (1 : Int32))])) _
          refine XS.iconst X24.here hx rfl (hb hby d2_62) ?_
          show Steps p.tables e below (T24.setTop (mkF m 63 #[rv a0_, iv (1 : Int32), iv (y0 &&& (255 : Int32)), iv (3 : Int32), iv (y1 &&& (255 : Int32)), .unset] [(.int (2 : Int32)), (.int (1 : Int32))])) _
          refine XS.iadd X24.here hx rfl (hb hby d2_63) rfl ?_
          show Steps p.tables e below (T24.setTop (mkF m 64 #[rv a0_, iv (1 : Int32), iv (y0 &&& (255 : Int32)), iv (3 : Int32), iv (y1 &&& (255 : Int32)), .unset] [(.int (3 : Int32))])) _
          refine XS.istore X24.here hx rfl (hb hby d2_64) rfl (l' := #[rv a0_, iv (1 : Int32), iv (y0 &&& (255 : Int32)), iv (3 : Int32), iv (y1 &&& (255 : Int32)), iv (3 : Int32)]) rfl ?_
          show Steps p.tables e below (T24.setTop (mkF m 66 #[rv a0_, iv (1 : Int32), iv (y0 &&& (255 : Int32)), iv (3 : Int32), iv (y1 &&& (255 : Int32)), iv (3 : Int32)] [])) _
          refine XS.iload X24.here hx rfl (hb hby d2_66) rfl ?_
          show Steps p.tables e below (T24.setTop (mkF m 68 #[rv a0_, iv (1 : Int32), iv (y0 &&& (255 : Int32)), iv (3 : Int32), iv (y1 &&& (255 : Int32)), iv (3 : Int32)] [(.int (3 : Int32))])) _
          refine XS.iloadN X24.here hx rfl (hb hby d2_68) rfl ?_
          show Steps p.tables e below (T24.setTop (mkF m 69 #[rv a0_, iv (1 : Int32), iv (y0 &&& (255 : Int32)), iv (3 : Int32), iv (y1 &&& (255 : Int32)), iv (3 : Int32)] [(.int (1 : Int32)), (.int (3 : Int32))])) _
          refine XS.iloadN X24.here hx rfl (hb hby d2_69) rfl ?_
          show Steps p.tables e below (T24.setTop (mkF m 70 #[rv a0_, iv (1 : Int32), iv (y0 &&& (255 : Int32)), iv (3 : Int32), iv (y1 &&& (255 : Int32)), iv (3 : Int32)] [(.int (3 : Int32)), (.int (1 : Int32)), (.int (3 : Int32))])) _
          refine XS.iadd X24.here hx rfl (hb hby d2_70) rfl ?_
          show Steps p.tables e below (T24.setTop (mkF m 71 #[rv a0_, iv (1 : Int32), iv (y0 &&& (255 : Int32)), iv (3 : Int32), iv (y1 &&& (255 : Int32)), iv (3 : Int32)] [(.int (4 : Int32)), (.int (3 : Int32))])) _
          refine XS.icmpNo X24.here hx rfl (hb hby d2_71) rfl (tlt (by decide : (3 : Int32) < (4 : Int32))).2.1 ?_
          show Steps p.tables e below (T24.setTop (mkF m 74 #[rv a0_, iv (1 : Int32), iv (y0 &&& (255 : Int32)), iv (3 : Int32), iv (y1 &&& (255 : Int32)), iv (3 : Int32)] [])) _
          refine XS.aloadN X24.here hx rfl (hb hby d2_74) rfl rfl ?_
          show Steps p.tables e below (T24.setTop (mkF m 75 #[rv a0_, iv (1 : Int32), iv (y0 &&& (255 : Int32)), iv (3 : Int32), iv (y1 &&& (255 : Int32)), iv (3 : Int32)] [(.ref a0_)])) _
          refine XS.iload X24.here hx rfl (hb hby d2_75) rfl ?_
          show Steps p.tables e below (T24.setTop (mkF m 77 #[rv a0_, iv (1 : Int32), iv (y0 &&& (255 : Int32)), iv (3 : Int32), iv (y1 &&& (255 : Int32)), iv (3 : Int32)] [(.int (3 : Int32)), (.ref a0_)])) _
          refine X24.baloadBytes hx (j := (3 : Int32)) (v := (.int y2)) (by rw [e24]; exact Ar28.1) (State.isArrayOf_alike hZ.alike Ar28.2.1) Ar28.2.2 hin28 (Has.at Ha28 hin28 rfl) (g := (mkF m 77 #[rv a0_, iv (1 : Int32), iv (y0 &&& (255 : Int32)), iv (3 : Int32), iv (y1 &&& (255 : Int32)), iv (3 : Int32)] [(.int (3 : Int32)), (.ref a0_)])) rfl rfl (hb hby d2_77) _ ?_
          show Steps p.tables e below (T24.setTop (mkF m 78 #[rv a0_, iv (1 : Int32), iv (y0 &&& (255 : Int32)), iv (3 : Int32), iv (y1 &&& (255 : Int32)), iv (3 : Int32)] [(.int y2)])) _
          refine XS.sipush X24.here hx rfl (hb hby d2_78) ?_
          show Steps p.tables e below (T24.setTop (mkF m 81 #[rv a0_, iv (1 : Int32), iv (y0 &&& (255 : Int32)), iv (3 : Int32), iv (y1 &&& (255 : Int32)), iv (3 : Int32)] [(.int (192 : Int32)), (.int y2)])) _
          refine XS.iand X24.here hx rfl (hb hby d2_81) rfl ?_
          show Steps p.tables e below (T24.setTop (mkF m 82 #[rv a0_, iv (1 : Int32), iv (y0 &&& (255 : Int32)), iv (3 : Int32), iv (y1 &&& (255 : Int32)), iv (3 : Int32)] [(.int (y2 &&& (192 : Int32)))])) _
          refine XS.sipush X24.here hx rfl (hb hby d2_82) ?_
          exact k
        by_cases hc30 : (y2 &&& (192 : Int32)) = (128 : Int32)
        · skip
          obtain ⟨fs, hr, hrun, hended, hW, hsame⟩ := X24.leave (v := some (.int (3 : Int32))) (fun h => by rw [Bd.returns] at h; cases h)
          refine ⟨_, _, S29 _ ?_, hrun, hended, _, _, rfl, ?_, ⟨_, rfl⟩, hW, hsame.mono (by decide) (by decide)⟩
          · skip
            show Steps p.tables e below (T24.setTop (mkF m 85 #[rv a0_, iv (1 : Int32), iv (y0 &&& (255 : Int32)), iv (3 : Int32), iv (y1 &&& (255 : Int32)), iv (3 : Int32)] [(.int (128 : Int32)), (.int (y2 &&& (192 : Int32)))])) _
            refine XS.icmpYes X24.here hx rfl (pc0 := 85) (pc' := 90) rfl (hb hby d2_85) rfl (teq hc30).1 (by decide) (by decide) ?_
            show Steps p.tables e below (T24.setTop (mkF m 90 #[rv a0_, iv (1 : Int32), iv (y0 &&& (255 : Int32)), iv (3 : Int32), iv (y1 &&& (255 : Int32)), iv (3 : Int32)] [])) _
            refine XS.iinc X24.here hx rfl (hb hby d2_90) rfl (l' := #[rv a0_, iv (1 : Int32), iv (y0 &&& (255 : Int32)), iv (3 : Int32), iv (y1 &&& (255 : Int32)), iv (4 : Int32)]) rfl ?_
            show Steps p.tables e below (T24.setTop (mkF m 93 #[rv a0_, iv (1 : Int32), iv (y0 &&& (255 : Int32)), iv (3 : Int32), iv (y1 &&& (255 : Int32)), iv (4 : Int32)] [])) _
            refine XS.goto X24.here hx rfl (pc0 := 93) (pc' := 66) rfl (hb hby d2_93) (by decide) (by decide) ?_
            show Steps p.tables e below (T24.setTop (mkF m 66 #[rv a0_, iv (1 : Int32), iv (y0 &&& (255 : Int32)), iv (3 : Int32), iv (y1 &&& (255 : Int32)), iv (4 : Int32)] [])) _
            refine XS.iload X24.here hx rfl (hb hby d2_66) rfl ?_
            show Steps p.tables e below (T24.setTop (mkF m 68 #[rv a0_, iv (1 : Int32), iv (y0 &&& (255 : Int32)), iv (3 : Int32), iv (y1 &&& (255 : Int32)), iv (4 : Int32)] [(.int (4 : Int32))])) _
            refine XS.iloadN X24.here hx rfl (hb hby d2_68) rfl ?_
            show Steps p.tables e below (T24.setTop (mkF m 69 #[rv a0_, iv (1 : Int32), iv (y0 &&& (255 : Int32)), iv (3 : Int32), iv (y1 &&& (255 : Int32)), iv (4 : Int32)] [(.int (1 : Int32)), (.int (4 : Int32))])) _
            refine XS.iloadN X24.here hx rfl (hb hby d2_69) rfl ?_
            show Steps p.tables e below (T24.setTop (mkF m 70 #[rv a0_, iv (1 : Int32), iv (y0 &&& (255 : Int32)), iv (3 : Int32), iv (y1 &&& (255 : Int32)), iv (4 : Int32)] [(.int (3 : Int32)), (.int (1 : Int32)), (.int (4 : Int32))])) _
            refine XS.iadd X24.here hx rfl (hb hby d2_70) rfl ?_
            show Steps p.tables e below (T24.setTop (mkF m 71 #[rv a0_, iv (1 : Int32), iv (y0 &&& (255 : Int32)), iv (3 : Int32), iv (y1 &&& (255 : Int32)), iv (4 : Int32)] [(.int (4 : Int32)), (.int (4 : Int32))])) _
            refine XS.icmpYes X24.here hx rfl (pc0 := 71) (pc' := 96) rfl (hb hby d2_71) rfl (flt (by decide : ¬ ((4 : Int32) < (4 : Int32)))).2.1 (by decide) (by decide) ?_
            show Steps p.tables e below (T24.setTop (mkF m 96 #[rv a0_, iv (1 : Int32), iv (y0 &&& (255 : Int32)), iv (3 : Int32), iv (y1 &&& (255 : Int32)), iv (4 : Int32)] [])) _
            refine XS.iloadN X24.here hx rfl (hb hby d2_96) rfl ?_
            show Steps p.tables e below (T24.setTop (mkF m 97 #[rv a0_, iv (1 : Int32), iv (y0 &&& (255 : Int32)), iv (3 : Int32), iv (y1 &&& (255 : Int32)), iv (4 : Int32)] [(.int (3 : Int32))])) _
            exact retI X24 hx Bd.returns (hb hby d2_97) hr
          · show QSL13 Z a0_ kk z0 y0 y1 y2 la lc sa sc ta tc h0 n0 _ T24.heap _
            rw [e24]
            exact ⟨(by unfold own_sl3; rw [if_neg hL5, if_neg hL6, if_pos hL17, if_neg hc23, if_neg hc27, if_pos hc30]), N0, rfl⟩
        · skip
          obtain ⟨fs, hr, hrun, hended, hW, hsame⟩ := X24.leave (v := some (.int (0 : Int32))) (fun h => by rw [Bd.returns] at h; cases h)
          refine ⟨_, _, S29 _ ?_, hrun, hended, _, _, rfl, ?_, ⟨_, rfl⟩, hW, hsame.mono (by decide) (by decide)⟩
          · skip
            show Steps p.tables e below (T24.setTop (mkF m 85 #[rv a0_, iv (1 : Int32), iv (y0 &&& (255 : Int32)), iv (3 : Int32), iv (y1 &&& (255 : Int32)), iv (3 : Int32)] [(.int (128 : Int32)), (.int (y2 &&& (192 : Int32)))])) _
            refine XS.icmpNo X24.here hx rfl (hb hby d2_85) rfl (feq hc30).1 ?_
            show Steps p.tables e below (T24.setTop (mkF m 88 #[rv a0_, iv (1 : Int32), iv (y0 &&& (255 : Int32)), iv (3 : Int32), iv (y1 &&& (255 : Int32)), iv (3 : Int32)] [])) _
            refine XS.iconst X24.here hx rfl (hb hby d2_88) ?_
            show Steps p.tables e below (T24.setTop (mkF m 89 #[rv a0_, iv (1 : Int32), iv (y0 &&& (255 : Int32)), iv (3 : Int32), iv (y1 &&& (255 : Int32)), iv (3 : Int32)] [(.int (0 : Int32))])) _
            exact retI X24 hx Bd.returns (hb hby d2_89) hr
          · show QSL13 Z a0_ kk z0 y0 y1 y2 la lc sa sc ta tc h0 n0 _ T24.heap _
            rw [e24]
            exact ⟨(by unfold own_sl3; rw [if_neg hL5, if_neg hL6, if_pos hL17, if_neg hc23, if_neg hc27, if_neg hc30]), N0, rfl⟩
  have hL31 := own_L4 _ hL5 hL6 hL17
  rw [hL31] at S4
  obtain ⟨cl32, Ar32, qa32, Sa32, Na32, Ha32, Ga32⟩ := id V0
  obtain ⟨fs, hr, hrun, hended, hW, hsame⟩ := X2.leave (v := some (.int (0 : Int32))) (fun h => by rw [Bd.returns] at h; cases h)
  refine ⟨_, _, S4 _ ?_, hrun, hended, _, _, rfl, ?_, ⟨_, rfl⟩, hW, hsame.mono (by decide) (by decide)⟩
  · skip
    show Steps p.tables e below (T2.setTop (mkF m 14 #[rv a0_, iv (1 : Int32), iv (y0 &&& (255 : Int32)), iv (4 : Int32), .unset, .unset] [])) _
    refine XS.iloadN X2.here hx rfl (hb hby d2_14) rfl ?_
    show Steps p.tables e below (T2.setTop (mkF m 15 #[rv a0_, iv (1 : Int32), iv (y0 &&& (255 : Int32)), iv (4 : Int32), .unset, .unset] [(.int (4 : Int32))])) _
    refine XS.ifNo X2.here hx rfl (hb hby d2_15) rfl ((if0 _ _).trans (feq (by decide : ¬ ((4 : Int32) = (0 : Int32)))).1) ?_
    show Steps p.tables e below (T2.setTop (mkF m 18 #[rv a0_, iv (1 : Int32), iv (y0 &&& (255 : Int32)), iv (4 : Int32), .unset, .unset] [])) _
    refine XS.iloadN X2.here hx rfl (hb hby d2_18) rfl ?_
    show Steps p.tables e below (T2.setTop (mkF m 19 #[rv a0_, iv (1 : Int32), iv (y0 &&& (255 : Int32)), iv (4 : Int32), .unset, .unset] [(.int (1 : Int32))])) _
    refine XS.iloadN X2.here hx rfl (hb hby d2_19) rfl ?_
    show Steps p.tables e below (T2.setTop (mkF m 20 #[rv a0_, iv (1 : Int32), iv (y0 &&& (255 : Int32)), iv (4 : Int32), .unset, .unset] [(.int (4 : Int32)), (.int (1 : Int32))])) _
    refine XS.iadd X2.here hx rfl (hb hby d2_20) rfl ?_
    show Steps p.tables e below (T2.setTop (mkF m 21 #[rv a0_, iv (1 : Int32), iv (y0 &&& (255 : Int32)), iv (4 : Int32), .unset, .unset] [(.int (5 : Int32))])) _
    refine XS.aloadN X2.here hx rfl (hb hby d2_21) rfl rfl ?_
    show Steps p.tables e below (T2.setTop (mkF m 22 #[rv a0_, iv (1 : Int32), iv (y0 &&& (255 : Int32)), iv (4 : Int32), .unset, .unset] [(.ref a0_), (.int (5 : Int32))])) _
    refine X2.arraylength hx (by rw [e2]; exact Ar32.1) (State.isArrayOf_alike hZ.alike Ar32.2.1) (g := (mkF m 22 #[rv a0_, iv (1 : Int32), iv (y0 &&& (255 : Int32)), iv (4 : Int32), .unset, .unset] [(.ref a0_), (.int (5 : Int32))])) rfl rfl (hb hby d2_22) _ ?_
    rw [len_of Sa32 Na32]
    show Steps p.tables e below (T2.setTop (mkF m 23 #[rv a0_, iv (1 : Int32), iv (y0 &&& (255 : Int32)), iv (4 : Int32), .unset, .unset] [(.int (4 : Int32)), (.int (5 : Int32))])) _
    refine XS.icmpNo X2.here hx rfl (hb hby d2_23) rfl (tlt (by decide : (4 : Int32) < (5 : Int32))).2.2.2 ?_
    show Steps p.tables e below (T2.setTop (mkF m 26 #[rv a0_, iv (1 : Int32), iv (y0 &&& (255 : Int32)), iv (4 : Int32), .unset, .unset] [])) _
    refine XS.iconst X2.here hx rfl (hb hby d2_26) ?_
    show Steps p.tables e below (T2.setTop (mkF m 27 #[rv a0_, iv (1 : Int32), iv (y0 &&& (255 : Int32)), iv (4 : Int32), .unset, .unset] [(.int (0 : Int32))])) _
    exact retI X2 hx Bd.returns (hb hby d2_27) hr
  · show QSL13 Z a0_ kk z0 y0 y1 y2 la lc sa sc ta tc h0 n0 _ T2.heap _
    rw [e2]
    exact ⟨(by unfold own_sl3; rw [if_neg hL5, if_neg hL6, if_neg hL17]), N0, rfl⟩
def QSL14 (Z : State) (a0_ : Addr) (kk : ClassId) (z0 : Int32) (y0 : Int32) (y1 : Int32) (y2 : Int32) (y3 : Int32) (la : Addr) (lc : Cell) (sa : Addr) (sc : Cell) (ta : Addr) (tc : Cell) (h0 : Heap) (n0 : Nat) (v : Option Value) (h : Heap) (L : List Loc) : Prop := v = some (.int (own_sl4 y0 y1 y2 y3)) ∧ Fr n0 L ∧ h = h0
theorem ef_rmSL14 (m : MethodId) (a0_ : Addr) : entryFrame m #[(.ref a0_), (.int (1 : Int32))] 6 = mkF m 0 #[rv a0_, iv (1 : Int32), .unset, .unset, .unset, .unset] [] := by first | (simp [entryFrame, mkF, argsToLocals, Value.category]; done) | rfl
set_option maxRecDepth 65536 in
set_option maxHeartbeats 40000000 in
theorem rmSL14 (l : Launch) (Z : State) (a0 : Array Value) (hw : ∀ d ∈ tables_1, d.before a0 Z = true) (ws : List Jvm.Cond) (a0_ : Addr) (kk : ClassId) (z0 : Int32) (y0 : Int32) (y1 : Int32) (y2 : Int32) (y3 : Int32) (la : Addr) (lc : Cell) (sa : Addr) (sc : Cell) (ta : Addr) (tc : Cell) (h0 : Heap) (n0 : Nat) (Z0 : n0 ≤ h0.size) (V0 : Arv Z h0 a0_ kk .byte (5 : Int32) [(.int z0), (.int y0), (.int y1), (.int y2), (.int y3)] (.int (0 : Int32))) (hO : Old Z n0 h0) (hS1 : Sta Z Z.heap "com/example/rivanna/rivanna/core/json/Utf8" "LENGTH" "[I" (.ref la)) (hT1 : own_Tab Z la lc own_L) (hS2 : Sta Z Z.heap "com/example/rivanna/rivanna/core/json/Utf8" "SECOND_LOW" "[I" (.ref sa)) (hT2 : own_Tab Z sa sc own_lo) (hS3 : Sta Z Z.heap "com/example/rivanna/rivanna/core/json/Utf8" "SECOND_HIGH" "[I" (.ref ta)) (hT3 : own_Tab Z ta tc own_hi) :
    MetFree l (⟨"com/example/rivanna/rivanna/core/json/Utf8", "sequenceLength", "([BI)I"⟩ : MethodName) (head1 (Jvm.Cond.code (⟨"com/example/rivanna/rivanna/core/json/Utf8", "sequenceLength", "([BI)I"⟩ : MethodName) prog_28_method_3_code 6 (some .int) :: ws) ({ frames := 0, cells := 0, slots := 0, locals := 0 } : Room)) (fun a U => a = #[(.ref a0_), (.int (1 : Int32))] ∧ Z.Warmed39 U.vm ∧ U.heap = h0) (fun _ _ _ _ _ => True) (fun _ U o U' => ∃ v L, o = .returned v ∧ QSL14 Z a0_ kk z0 y0 y1 y2 y3 la lc sa sc ta tc h0 n0 v U'.heap L ∧ FrameEnd U o U' L ({ frames := 0, cells := 0, slots := 0, locals := 0 } : Room).cells ({ frames := 0, cells := 0, slots := 0, locals := 0 } : Room).slots) := by
  refine MetFree.of_bodySF (plainFor_of_name pn_1) hisR ?_
  intro p e s m args below meth c s₁ Bd hml0 hP hK
  obtain ⟨rfl, hZ, hh⟩ := hP
  have hx := Bd.exec
  have hby := Bd.bytes
  have hml : c.maxLocals = 6 := hml0
  have hown : s.vm.findClass "com/example/rivanna/rivanna/core/json/Utf8" = some m.cls := findClass_of_methodNamed Bd.named
  have hnm := (name_of_methodNamed Bd.named Bd.method).1
  have X0 : Stand p l e ({ frames := 0, cells := 0, slots := 0, locals := 0 } : Room) s m #[(.ref a0_), (.int (1 : Int32))] below meth c s₁ [] 0 0 := Stand.of_body Bd
  have e0 : s₁.heap = h0 := by rw [← hh, Bd.state]; rfl
  have N0 := Fr.nil n0
  have S0 : ∀ t, Steps p.tables e below (s₁.setTop (mkF m 0 #[rv a0_, iv (1 : Int32), .unset, .unset, .unset, .unset] [])) t → Steps p.tables e below (s₁.setTop (entryFrame m #[(.ref a0_), (.int (1 : Int32))] 6)) t := fun t k => castTop (ef_rmSL14 m a0_) k
  obtain ⟨cl1, Ar1, qa1, Sa1, Na1, Ha1, Ga1⟩ := id V0
  have hin1 : ¬ ((1 : Int32) < 0 ∨ cl1.slots.size ≤ ((1 : Int32)).toNatClampNeg) := inb_of Sa1 ⟨by decide, by decide⟩
  obtain ⟨T2, X2, e2, st2⟩ := getS2 X0 hx hZ hown (host := "") (Or.inl (hw _ (List.mem_of_getElem? (i := 9) rfl))) Via.refl e0 (hS1.ext hO.2) (g := (mkF m 8 #[rv a0_, iv (1 : Int32), iv (y0 &&& (255 : Int32)), .unset, .unset, .unset] [])) rfl (hb hby d2_8)
  have hin3 : ¬ ((y0 &&& (255 : Int32)) < 0 ∨ lc.slots.size ≤ ((y0 &&& (255 : Int32))).toNatClampNeg) := inb_of hT1.2.1 (own_255 _)
  have S4 : ∀ t, Steps p.tables e below (T2.setTop (mkF m 14 #[rv a0_, iv (1 : Int32), iv (y0 &&& (255 : Int32)), iv (own_L (y0 &&& (255 : Int32))), .unset, .unset] [])) t → Steps p.tables e below (s₁.setTop (entryFrame m #[(.ref a0_), (.int (1 : Int32))] 6)) t := by
    intro t k
    refine S0 t ?_
    show Steps p.tables e below (s₁.setTop (mkF m 0 #[rv a0_, iv (1 : Int32), .unset, .unset, .unset, .unset] [])) _
    refine XS.aloadN X0.here hx rfl (hb hby d2_0) rfl rfl ?_
    show Steps p.tables e below (s₁.setTop (mkF m 1 #[rv a0_, iv (1 : Int32), .unset, .unset, .unset, .unset] [(.ref a0_)])) _
    refine XS.iloadN X0.here hx rfl (hb hby d2_1) rfl ?_
    show Steps p.tables e below (s₁.setTop (mkF m 2 #[rv a0_, iv (1 : Int32), .unset, .unset, .unset, .unset] [(.int (1 : Int32)), (.ref a0_)])) _
    refine X0.baloadBytes hx (j := (1 : Int32)) (v := (.int y0)) (by rw [e0]; exact Ar1.1) (State.isArrayOf_alike hZ.alike Ar1.2.1) Ar1.2.2 hin1 (Has.at Ha1 hin1 rfl) (g := (mkF m 2 #[rv a0_, iv (1 : Int32), .unset, .unset, .unset, .unset] [(.int (1 : Int32)), (.ref a0_)])) rfl rfl (hb hby d2_2) _ ?_
    show Steps p.tables e below (s₁.setTop (mkF m 3 #[rv a0_, iv (1 : Int32), .unset, .unset, .unset, .unset] [(.int y0)])) _
    refine XS.sipush X0.here hx rfl (hb hby d2_3) ?_
    show Steps p.tables e below (s₁.setTop (mkF m 6 #[rv a0_, iv (1 : Int32), .unset, .unset, .unset, .unset] [(.int (255 : Int32)), (.int y0)])) _
    refine XS.iand X0.here hx rfl (hb hby d2_6) rfl ?_
    show Steps p.tables e below (s₁.setTop (mkF m 7 #[rv a0_, iv (1 : Int32), .unset, .unset, .unset, .unset] [(.int (y0 &&& (255 : Int32)))])) _
    refine XS.istoreN X0.here hx rfl (hb hby d2_7) rfl (l' := #[rv a0_, iv (1 : Int32), iv (y0 &&& (255 : Int32)), .unset, .unset, .unset]) rfl ?_
    show Steps p.tables e below (s₁.setTop (mkF m 8 #[rv a0_, iv (1 : Int32), iv (y0 &&& (255 : Int32)), .unset, .unset, .unset] [])) _
    refine st2 _ ?_
    show Steps p.tables e below (T2.setTop (mkF m 11 #[rv a0_, iv (1 : Int32), iv (y0 &&& (255 : Int32)), .unset, .unset, .unset] [(.ref la)])) _
    refine XS.iloadN X2.here hx rfl (hb hby d2_11) rfl ?_
    show Steps p.tables e below (T2.setTop (mkF m 12 #[rv a0_, iv (1 : Int32), iv (y0 &&& (255 : Int32)), .unset, .unset, .unset] [(.int (y0 &&& (255 : Int32))), (.ref la)])) _
    refine X2.iaload hx (j := (y0 &&& (255 : Int32))) (v := (.int (own_L (y0 &&& (255 : Int32))))) (by rw [e2]; exact (hT1.1.ext hO.2).1) (State.isArrayOf_alike hZ.alike hT1.1.2.1) hT1.1.2.2 hin3 (hT1.2.2 _ hin3) (g := (mkF m 12 #[rv a0_, iv (1 : Int32), iv (y0 &&& (255 : Int32)), .unset, .unset, .unset] [(.int (y0 &&& (255 : Int32))), (.ref la)])) rfl rfl (hb hby d2_12) _ ?_
    show Steps p.tables e below (T2.setTop (mkF m 13 #[rv a0_, iv (1 : Int32), iv (y0 &&& (255 : Int32)), .unset, .unset, .unset] [(.int (own_L (y0 &&& (255 : Int32))))])) _
    refine XS.istoreN X2.here hx rfl (hb hby d2_13) rfl (l' := #[rv a0_, iv (1 : Int32), iv (y0 &&& (255 : Int32)), iv (own_L (y0 &&& (255 : Int32))), .unset, .unset]) rfl ?_
    exact k
  by_cases hL5 : (own_L (y0 &&& (255 : Int32))) = (0 : Int32)
  · skip
    rw [hL5] at S4
    obtain ⟨fs, hr, hrun, hended, hW, hsame⟩ := X2.leave (v := some (.int (0 : Int32))) (fun h => by rw [Bd.returns] at h; cases h)
    refine ⟨_, _, S4 _ ?_, hrun, hended, _, _, rfl, ?_, ⟨_, rfl⟩, hW, hsame.mono (by decide) (by decide)⟩
    · skip
      show Steps p.tables e below (T2.setTop (mkF m 14 #[rv a0_, iv (1 : Int32), iv (y0 &&& (255 : Int32)), iv (0 : Int32), .unset, .unset] [])) _
      refine XS.iloadN X2.here hx rfl (hb hby d2_14) rfl ?_
      show Steps p.tables e below (T2.setTop (mkF m 15 #[rv a0_, iv (1 : Int32), iv (y0 &&& (255 : Int32)), iv (0 : Int32), .unset, .unset] [(.int (0 : Int32))])) _
      refine XS.ifYes X2.here hx rfl (pc0 := 15) (pc' := 26) rfl (hb hby d2_15) rfl ((if0 _ _).trans (teq (by decide : (0 : Int32) = (0 : Int32))).1) (by decide) (by decide) ?_
      show Steps p.tables e below (T2.setTop (mkF m 26 #[rv a0_, iv (1 : Int32), iv (y0 &&& (255 : Int32)), iv (0 : Int32), .unset, .unset] [])) _
      refine XS.iconst X2.here hx rfl (hb hby d2_26) ?_
      show Steps p.tables e below (T2.setTop (mkF m 27 #[rv a0_, iv (1 : Int32), iv (y0 &&& (255 : Int32)), iv (0 : Int32), .unset, .unset] [(.int (0 : Int32))])) _
      exact retI X2 hx Bd.returns (hb hby d2_27) hr
    · show QSL14 Z a0_ kk z0 y0 y1 y2 y3 la lc sa sc ta tc h0 n0 _ T2.heap _
      rw [e2]
      exact ⟨(by unfold own_sl4; rw [if_pos hL5]), N0, rfl⟩
  by_cases hL6 : (own_L (y0 &&& (255 : Int32))) = (2 : Int32)
  · skip
    rw [hL6] at S4
    obtain ⟨cl7, Ar7, qa7, Sa7, Na7, Ha7, Ga7⟩ := id V0
    obtain ⟨cl8, Ar8, qa8, Sa8, Na8, Ha8, Ga8⟩ := id V0
    have hin8 : ¬ ((2 : Int32) < 0 ∨ cl8.slots.size ≤ ((2 : Int32)).toNatClampNeg) := inb_of Sa8 ⟨by decide, by decide⟩
    obtain ⟨T9, X9, e9, st9⟩ := getS2 X2 hx hZ hown (host := "") (Or.inl (hw _ (List.mem_of_getElem? (i := 14) rfl))) Via.refl e2 (hS2.ext hO.2) (g := (mkF m 41 #[rv a0_, iv (1 : Int32), iv (y0 &&& (255 : Int32)), iv (2 : Int32), iv (y1 &&& (255 : Int32)), .unset] [(.int (y1 &&& (255 : Int32)))])) rfl (hb hby d2_41)
    have hin10 : ¬ ((y0 &&& (255 : Int32)) < 0 ∨ sc.slots.size ≤ ((y0 &&& (255 : Int32))).toNatClampNeg) := inb_of hT2.2.1 (own_255 _)
    have S11 : ∀ t, Steps p.tables e below (T9.setTop (mkF m 46 #[rv a0_, iv (1 : Int32), iv (y0 &&& (255 : Int32)), iv (2 : Int32), iv (y1 &&& (255 : Int32)), .unset] [(.int (own_lo (y0 &&& (255 : Int32)))), (.int (y1 &&& (255 : Int32)))])) t → Steps p.tables e below (s₁.setTop (entryFrame m #[(.ref a0_), (.int (1 : Int32))] 6)) t := by
      intro t k
      refine S4 t ?_
      show Steps p.tables e below (T2.setTop (mkF m 14 #[rv a0_, iv (1 : Int32), iv (y0 &&& (255 : Int32)), iv (2 : Int32), .unset, .unset] [])) _
      refine XS.iloadN X2.here hx rfl (hb hby d2_14) rfl ?_
      show Steps p.tables e below (T2.setTop (mkF m 15 #[rv a0_, iv (1 : Int32), iv (y0 &&& (255 : Int32)), iv (2 : Int32), .unset, .unset] [(.int (2 : Int32))])) _
      refine XS.ifNo X2.here hx rfl (hb hby d2_15) rfl ((if0 _ _).trans (feq (by decide : ¬ ((2 : Int32) = (0 : Int32)))).1) ?_
      show Steps p.tables e below (T2.setTop (mkF m 18 #[rv a0_, iv (1 : Int32), iv (y0 &&& (255 : Int32)), iv (2 : Int32), .unset, .unset] [])) _
      refine XS.iloadN X2.here hx rfl (hb hby d2_18) rfl ?_
      show Steps p.tables e below (T2.setTop (mkF m 19 #[rv a0_, iv (1 : Int32), iv (y0 &&& (255 : Int32)), iv (2 : Int32), .unset, .unset] [(.int (1 : Int32))])) _
      refine XS.iloadN X2.here hx rfl (hb hby d2_19) rfl ?_
      show Steps p.tables e below (T2.setTop (mkF m 20 #[rv a0_, iv (1 : Int32), iv (y0 &&& (255 : Int32)), iv (2 : Int32), .unset, .unset] [(.int (2 : Int32)), (.int (1 : Int32))])) _
      refine XS.iadd X2.here hx rfl (hb hby d2_20) rfl ?_
      show Steps p.tables e below (T2.setTop (mkF m 21 #[rv a0_, iv (1 : Int32), iv (y0 &&& (255 : Int32)), iv (2 : Int32), .unset, .unset] [(.int (3 : Int32))])) _
      refine XS.aloadN X2.here hx rfl (hb hby d2_21) rfl rfl ?_
      show Steps p.tables e below (T2.setTop (mkF m 22 #[rv a0_, iv (1 : Int32), iv (y0 &&& (255 : Int32)), iv (2 : Int32), .unset, .unset] [(.ref a0_), (.int (3 : Int32))])) _
      refine X2.arraylength hx (by rw [e2]; exact Ar7.1) (State.isArrayOf_alike hZ.alike Ar7.2.1) (g := (mkF m 22 #[rv a0_, iv (1 : Int32), iv (y0 &&& (255 : Int32)), iv (2 : Int32), .unset, .unset] [(.ref a0_), (.int (3 : Int32))])) rfl rfl (hb hby d2_22) _ ?_
      rw [len_of Sa7 Na7]
      show Steps p.tables e below (T2.setTop (mkF m 23 #[rv a0_, iv (1 : Int32), iv (y0 &&& (255 : Int32)), iv (2 : Int32), .unset, .unset] [(.int (5 : Int32)), (.int (3 : Int32))])) _
      refine XS.icmpYes X2.here hx rfl (pc0 := 23) (pc' := 28) rfl (hb hby d2_23) rfl (flt (by decide : ¬ ((5 : Int32) < (3 : Int32)))).2.2.2 (by decide) (by decide) ?_
      show Steps p.tables e below (T2.setTop (mkF m 28 #[rv a0_, iv (1 : Int32), iv (y0 &&& (255 : Int32)), iv (2 : Int32), .unset, .unset] [])) _
      refine XS.aloadN X2.here hx rfl (hb hby d2_28) rfl rfl ?_
      show Steps p.tables e below (T2.setTop (mkF m 29 #[rv a0_, iv (1 : Int32), iv (y0 &&& (255 : Int32)), iv (2 : Int32), .unset, .unset] [(.ref a0_)])) _
      refine XS.iloadN X2.here hx rfl (hb hby d2_29) rfl ?_
      show Steps p.tables e below (T2.setTop (mkF m 30 #[rv a0_, iv (1 : Int32), iv (y0 &&& (255 : Int32)), iv (2 : Int32), .unset, .unset] [(.int (1 : Int32)), (.ref a0_)])) _
      refine XS.iconst X2.here hx rfl (hb hby d2_30) ?_
      show Steps p.tables e below (T2.setTop (mkF m 31 #[rv a0_, iv (1 : Int32), iv (y0 &&& (255 : Int32)), iv (2 : Int32), .unset, .unset] [(.int (1 : Int32)), (.int (1 : Int32)), (.ref a0_)])) _
      refine XS.iadd X2.here hx rfl (hb hby d2_31) rfl ?_
      show Steps p.tables e below (T2.setTop (mkF m 32 #[rv a0_, iv (1 : Int32), iv (y0 &&& (255 : Int32)), iv (2 : Int32), .unset, .unset] [(.int (2 : Int32)), (.ref a0_)])) _
      refine X2.baloadBytes hx (j := (2 : Int32)) (v := (.int y1)) (by rw [e2]; exact Ar8.1) (State.isArrayOf_alike hZ.alike Ar8.2.1) Ar8.2.2 hin8 (Has.at Ha8 hin8 rfl) (g := (mkF m 32 #[rv a0_, iv (1 : Int32), iv (y0 &&& (255 : Int32)), iv (2 : Int32), .unset, .unset] [(.int (2 : Int32)), (.ref a0_)])) rfl rfl (hb hby d2_32) _ ?_
      show Steps p.tables e below (T2.setTop (mkF m 33 #[rv a0_, iv (1 : Int32), iv (y0 &&& (255 : Int32)), iv (2 : Int32), .unset, .unset] [(.int y1)])) _
      refine XS.sipush X2.here hx rfl (hb hby d2_33) ?_
      show Steps p.tables e below (T2.setTop (mkF m 36 #[rv a0_, iv (1 : Int32), iv (y0 &&& (255 : Int32)), iv (2 : Int32), .unset, .unset] [(.int (255 : Int32)), (.int y1)])) _
      refine XS.iand X2.here hx rfl (hb hby d2_36) rfl ?_
      show Steps p.tables e below (T2.setTop (mkF m 37 #[rv a0_, iv (1 : Int32), iv (y0 &&& (255 : Int32)), iv (2 : Int32), .unset, .unset] [(.int (y1 &&& (255 : Int32)))])) _
      refine XS.istore X2.here hx rfl (hb hby d2_37) rfl (l' := #[rv a0_, iv (1 : Int32), iv (y0 &&& (255 : Int32)), iv (2 : Int32), iv (y1 &&& (255 : Int32)), .unset]) rfl ?_
      show Steps p.tables e below (T2.setTop (mkF m 39 #[rv a0_, iv (1 : Int32), iv (y0 &&& (255 : Int32)), iv (2 : Int32), iv (y1 &&& (255 : Int32)), .unset] [])) _
      refine XS.iload X2.here hx rfl (hb hby d2_39) rfl ?_
      show Steps p.tables e below (T2.setTop (mkF m 41 #[rv a0_, iv (1 : Int32), iv (y0 &&& (255 : Int32)), iv (2 : Int32), iv (y1 &&& (255 : Int32)), .unset] [(.int (y1 &&& (255 : Int32)))])) _
      refine st9 _ ?_
      show Steps p.tables e below (T9.setTop (mkF m 44 #[rv a0_, iv (1 : Int32), iv (y0 &&& (255 : Int32)), iv (2 : Int32), iv (y1 &&& (255 : Int32)), .unset] [(.ref sa), (.int (y1 &&& (255 : Int32)))])) _
      refine XS.iloadN X9.here hx rfl (hb hby d2_44) rfl ?_
      show Steps p.tables e below (T9.setTop (mkF m 45 #[rv a0_, iv (1 : Int32), iv (y0 &&& (255 : Int32)), iv (2 : Int32), iv (y1 &&& (255 : Int32)), .unset] [(.int (y0 &&& (255 : Int32))), (.ref sa), (.int (y1 &&& (255 : Int32)))])) _
      refine X9.iaload hx (j := (y0 &&& (255 : Int32))) (v := (.int (own_lo (y0 &&& (255 : Int32))))) (by rw [e9]; exact (hT2.1.ext hO.2).1) (State.isArrayOf_alike hZ.alike hT2.1.2.1) hT2.1.2.2 hin10 (hT2.2.2 _ hin10) (g := (mkF m 45 #[rv a0_, iv (1 : Int32), iv (y0 &&& (255 : Int32)), iv (2 : Int32), iv (y1 &&& (255 : Int32)), .unset] [(.int (y0 &&& (255 : Int32))), (.ref sa), (.int (y1 &&& (255 : Int32)))])) rfl rfl (hb hby d2_45) _ ?_
      exact k
    by_cases hc12 : (y1 &&& (255 : Int32)) < (own_lo (y0 &&& (255 : Int32)))
    · skip
      obtain ⟨fs, hr, hrun, hended, hW, hsame⟩ := X9.leave (v := some (.int (0 : Int32))) (fun h => by rw [Bd.returns] at h; cases h)
      refine ⟨_, _, S11 _ ?_, hrun, hended, _, _, rfl, ?_, ⟨_, rfl⟩, hW, hsame.mono (by decide) (by decide)⟩
      · skip
        show Steps p.tables e below (T9.setTop (mkF m 46 #[rv a0_, iv (1 : Int32), iv (y0 &&& (255 : Int32)), iv (2 : Int32), iv (y1 &&& (255 : Int32)), .unset] [(.int (own_lo (y0 &&& (255 : Int32)))), (.int (y1 &&& (255 : Int32)))])) _
        refine XS.icmpYes X9.here hx rfl (pc0 := 46) (pc' := 59) rfl (hb hby d2_46) rfl (tlt hc12).1 (by decide) (by decide) ?_
        show Steps p.tables e below (T9.setTop (mkF m 59 #[rv a0_, iv (1 : Int32), iv (y0 &&& (255 : Int32)), iv (2 : Int32), iv (y1 &&& (255 : Int32)), .unset] [])) _
        refine XS.iconst X9.here hx rfl (hb hby d2_59) ?_
        show Steps p.tables e below (T9.setTop (mkF m 60 #[rv a0_, iv (1 : Int32), iv (y0 &&& (255 : Int32)), iv (2 : Int32), iv (y1 &&& (255 : Int32)), .unset] [(.int (0 : Int32))])) _
        exact retI X9 hx Bd.returns (hb hby d2_60) hr
      · show QSL14 Z a0_ kk z0 y0 y1 y2 y3 la lc sa sc ta tc h0 n0 _ T9.heap _
        rw [e9]
        exact ⟨(by unfold own_sl4; rw [if_neg hL5, if_pos hL6, if_pos hc12]), N0, rfl⟩
    · skip
      obtain ⟨T13, X13, e13, st13⟩ := getS2 X9 hx hZ hown (host := "") (Or.inl (hw _ (List.mem_of_getElem? (i := 16) rfl))) Via.refl e9 (hS3.ext hO.2) (g := (mkF m 51 #[rv a0_, iv (1 : Int32), iv (y0 &&& (255 : Int32)), iv (2 : Int32), iv (y1 &&& (255 : Int32)), .unset] [(.int (y1 &&& (255 : Int32)))])) rfl (hb hby d2_51)
      have hin14 : ¬ ((y0 &&& (255 : Int32)) < 0 ∨ tc.slots.size ≤ ((y0 &&& (255 : Int32))).toNatClampNeg) := inb_of hT3.2.1 (own_255 _)
      have S15 : ∀ t, Steps p.tables e below (T13.setTop (mkF m 56 #[rv a0_, iv (1 : Int32), iv (y0 &&& (255 : Int32)), iv (2 : Int32), iv (y1 &&& (255 : Int32)), .unset] [(.int (own_hi (y0 &&& (255 : Int32)))), (.int (y1 &&& (255 : Int32)))])) t → Steps p.tables e below (s₁.setTop (entryFrame m #[(.ref a0_), (.int (1 : Int32))] 6)) t := by
        intro t k
        refine S11 t ?_
        show Steps p.tables e below (T9.setTop (mkF m 46 #[rv a0_, iv (1 : Int32), iv (y0 &&& (255 : Int32)), iv (2 : Int32), iv (y1 &&& (255 : Int32)), .unset] [(.int (own_lo (y0 &&& (255 : Int32)))), (.int (y1 &&& (255 : Int32)))])) _
        refine XS.icmpNo X9.here hx rfl (hb hby d2_46) rfl (flt hc12).1 ?_
        show Steps p.tables e below (T9.setTop (mkF m 49 #[rv a0_, iv (1 : Int32), iv (y0 &&& (255 : Int32)), iv (2 : Int32), iv (y1 &&& (255 : Int32)), .unset] [])) _
        refine XS.iload X9.here hx rfl (hb hby d2_49) rfl ?_
        show Steps p.tables e below (T9.setTop (mkF m 51 #[rv a0_, iv (1 : Int32), iv (y0 &&& (255 : Int32)), iv (2 : Int32), iv (y1 &&& (255 : Int32)), .unset] [(.int (y1 &&& (255 : Int32)))])) _
        refine st13 _ ?_
        show Steps p.tables e below (T13.setTop (mkF m 54 #[rv a0_, iv (1 : Int32), iv (y0 &&& (255 : Int32)), iv (2 : Int32), iv (y1 &&& (255 : Int32)), .unset] [(.ref ta), (.int (y1 &&& (255 : Int32)))])) _
        refine XS.iloadN X13.here hx rfl (hb hby d2_54) rfl ?_
        show Steps p.tables e below (T13.setTop (mkF m 55 #[rv a0_, iv (1 : Int32), iv (y0 &&& (255 : Int32)), iv (2 : Int32), iv (y1 &&& (255 : Int32)), .unset] [(.int (y0 &&& (255 : Int32))), (.ref ta), (.int (y1 &&& (255 : Int32)))])) _
        refine X13.iaload hx (j := (y0 &&& (255 : Int32))) (v := (.int (own_hi (y0 &&& (255 : Int32))))) (by rw [e13]; exact (hT3.1.ext hO.2).1) (State.isArrayOf_alike hZ.alike hT3.1.2.1) hT3.1.2.2 hin14 (hT3.2.2 _ hin14) (g := (mkF m 55 #[rv a0_, iv (1 : Int32), iv (y0 &&& (255 : Int32)), iv (2 : Int32), iv (y1 &&& (255 : Int32)), .unset] [(.int (y0 &&& (255 : Int32))), (.ref ta), (.int (y1 &&& (255 : Int32)))])) rfl rfl (hb hby d2_55) _ ?_
        exact k
      by_cases hc16 : (own_hi (y0 &&& (255 : Int32))) < (y1 &&& (255 : Int32))
      · skip
        obtain ⟨fs, hr, hrun, hended, hW, hsame⟩ := X13.leave (v := some (.int (0 : Int32))) (fun h => by rw [Bd.returns] at h; cases h)
        refine ⟨_, _, S15 _ ?_, hrun, hended, _, _, rfl, ?_, ⟨_, rfl⟩, hW, hsame.mono (by decide) (by decide)⟩
        · skip
          show Steps p.tables e below (T13.setTop (mkF m 56 #[rv a0_, iv (1 : Int32), iv (y0 &&& (255 : Int32)), iv (2 : Int32), iv (y1 &&& (255 : Int32)), .unset] [(.int (own_hi (y0 &&& (255 : Int32)))), (.int (y1 &&& (255 : Int32)))])) _
          refine XS.icmpNo X13.here hx rfl (hb hby d2_56) rfl (tlt hc16).2.2.2 ?_
          show Steps p.tables e below (T13.setTop (mkF m 59 #[rv a0_, iv (1 : Int32), iv (y0 &&& (255 : Int32)), iv (2 : Int32), iv (y1 &&& (255 : Int32)), .unset] [])) _
          refine XS.iconst X13.here hx rfl (hb hby d2_59) ?_
          show Steps p.tables e below (T13.setTop (mkF m 60 #[rv a0_, iv (1 : Int32), iv (y0 &&& (255 : Int32)), iv (2 : Int32), iv (y1 &&& (255 : Int32)), .unset] [(.int (0 : Int32))])) _
          exact retI X13 hx Bd.returns (hb hby d2_60) hr
        · show QSL14 Z a0_ kk z0 y0 y1 y2 y3 la lc sa sc ta tc h0 n0 _ T13.heap _
          rw [e13]
          exact ⟨(by unfold own_sl4; rw [if_neg hL5, if_pos hL6, if_neg hc12, if_pos hc16]), N0, rfl⟩
      · skip
        obtain ⟨fs, hr, hrun, hended, hW, hsame⟩ := X13.leave (v := some (.int (2 : Int32))) (fun h => by rw [Bd.returns] at h; cases h)
        refine ⟨_, _, S15 _ ?_, hrun, hended, _, _, rfl, ?_, ⟨_, rfl⟩, hW, hsame.mono (by decide) (by decide)⟩
        · skip
          show Steps p.tables e below (T13.setTop (mkF m 56 #[rv a0_, iv (1 : Int32), iv (y0 &&& (255 : Int32)), iv (2 : Int32), iv (y1 &&& (255 : Int32)), .unset] [(.int (own_hi (y0 &&& (255 : Int32)))), (.int (y1 &&& (255 : Int32)))])) _
          refine XS.icmpYes X13.here hx rfl (pc0 := 56) (pc' := 61) rfl (hb hby d2_56) rfl (flt hc16).2.2.2 (by decide) (by decide) ?_
          show Steps p.tables e below (T13.setTop (mkF m 61 #[rv a0_, iv (1 : Int32), iv (y0 &&& (255 : Int32)), iv (2 : Int32), iv (y1 &&& (255 : Int32)), .unset] [])) _
          refine XS.iloadN X13.here hx rfl (hb hby d2_61) rfl ?_
          show Steps p.tables e below (T13.setTop (mkF m 62 #[rv a0_, iv (1 : Int32), iv (y0 &&& (255 : Int32)), iv (2 : Int32), iv (y1 &&& (255 : Int32)), .unset] [(.int (1 : Int32))])) _
          refine XS.iconst X13.here hx rfl (hb hby d2_62) ?_
          show Steps p.tables e below (T13.setTop (mkF m 63 #[rv a0_, iv (1 : Int32), iv (y0 &&& (255 : Int32)), iv (2 : Int32), iv (y1 &&& (255 : Int32)), .unset] [(.int (2 : Int32)), (.int (1 : Int32))])) _
          refine XS.iadd X13.here hx rfl (hb hby d2_63) rfl ?_
          show Steps p.tables e below (T13.setTop (mkF m 64 #[rv a0_, iv (1 : Int32), iv (y0 &&& (255 : Int32)), iv (2 : Int32), iv (y1 &&& (255 : Int32)), .unset] [(.int (3 : Int32))])) _
          refine XS.istore X13.here hx rfl (hb hby d2_64) rfl (l' := #[rv a0_, iv (1 : Int32), iv (y0 &&& (255 : Int32)), iv (2 : Int32), iv (y1 &&& (255 : Int32)), iv (3 : Int32)]) rfl ?_
          show Steps p.tables e below (T13.setTop (mkF m 66 #[rv a0_, iv (1 : Int32), iv (y0 &&& (255 : Int32)), iv (2 : Int32), iv (y1 &&& (255 : Int32)), iv (3 : Int32)] [])) _
          refine XS.iload X13.here hx rfl (hb hby d2_66) rfl ?_
          show Steps p.tables e below (T13.setTop (mkF m 68 #[rv a0_, iv (1 : Int32), iv (y0 &&& (255 : Int32)), iv (2 : Int32), iv (y1 &&& (255 : Int32)), iv (3 : Int32)] [(.int (3 : Int32))])) _
          refine XS.iloadN X13.here hx rfl (hb hby d2_68) rfl ?_
          show Steps p.tables e below (T13.setTop (mkF m 69 #[rv a0_, iv (1 : Int32), iv (y0 &&& (255 : Int32)), iv (2 : Int32), iv (y1 &&& (255 : Int32)), iv (3 : Int32)] [(.int (1 : Int32)), (.int (3 : Int32))])) _
          refine XS.iloadN X13.here hx rfl (hb hby d2_69) rfl ?_
          show Steps p.tables e below (T13.setTop (mkF m 70 #[rv a0_, iv (1 : Int32), iv (y0 &&& (255 : Int32)), iv (2 : Int32), iv (y1 &&& (255 : Int32)), iv (3 : Int32)] [(.int (2 : Int32)), (.int (1 : Int32)), (.int (3 : Int32))])) _
          refine XS.iadd X13.here hx rfl (hb hby d2_70) rfl ?_
          show Steps p.tables e below (T13.setTop (mkF m 71 #[rv a0_, iv (1 : Int32), iv (y0 &&& (255 : Int32)), iv (2 : Int32), iv (y1 &&& (255 : Int32)), iv (3 : Int32)] [(.int (3 : Int32)), (.int (3 : Int32))])) _
          refine XS.icmpYes X13.here hx rfl (pc0 := 71) (pc' := 96) rfl (hb hby d2_71) rfl (flt (by decide : ¬ ((3 : Int32) < (3 : Int32)))).2.1 (by decide) (by decide) ?_
          show Steps p.tables e below (T13.setTop (mkF m 96 #[rv a0_, iv (1 : Int32), iv (y0 &&& (255 : Int32)), iv (2 : Int32), iv (y1 &&& (255 : Int32)), iv (3 : Int32)] [])) _
          refine XS.iloadN X13.here hx rfl (hb hby d2_96) rfl ?_
          show Steps p.tables e below (T13.setTop (mkF m 97 #[rv a0_, iv (1 : Int32), iv (y0 &&& (255 : Int32)), iv (2 : Int32), iv (y1 &&& (255 : Int32)), iv (3 : Int32)] [(.int (2 : Int32))])) _
          exact retI X13 hx Bd.returns (hb hby d2_97) hr
        · show QSL14 Z a0_ kk z0 y0 y1 y2 y3 la lc sa sc ta tc h0 n0 _ T13.heap _
          rw [e13]
          exact ⟨(by unfold own_sl4; rw [if_neg hL5, if_pos hL6, if_neg hc12, if_neg hc16]), N0, rfl⟩
  by_cases hL17 : (own_L (y0 &&& (255 : Int32))) = (3 : Int32)
  · skip
    rw [hL17] at S4
    obtain ⟨cl18, Ar18, qa18, Sa18, Na18, Ha18, Ga18⟩ := id V0
    obtain ⟨cl19, Ar19, qa19, Sa19, Na19, Ha19, Ga19⟩ := id V0
    have hin19 : ¬ ((2 : Int32) < 0 ∨ cl19.slots.size ≤ ((2 : Int32)).toNatClampNeg) := inb_of Sa19 ⟨by decide, by decide⟩
    obtain ⟨T20, X20, e20, st20⟩ := getS2 X2 hx hZ hown (host := "") (Or.inl (hw _ (List.mem_of_getElem? (i := 14) rfl))) Via.refl e2 (hS2.ext hO.2) (g := (mkF m 41 #[rv a0_, iv (1 : Int32), iv (y0 &&& (255 : Int32)), iv (3 : Int32), iv (y1 &&& (255 : Int32)), .unset] [(.int (y1 &&& (255 : Int32)))])) rfl (hb hby d2_41)
    have hin21 : ¬ ((y0 &&& (255 : Int32)) < 0 ∨ sc.slots.size ≤ ((y0 &&& (255 : Int32))).toNatClampNeg) := inb_of hT2.2.1 (own_255 _)
    have S22 : ∀ t, Steps p.tables e below (T20.setTop (mkF m 46 #[rv a0_, iv (1 : Int32), iv (y0 &&& (255 : Int32)), iv (3 : Int32), iv (y1 &&& (255 : Int32)), .unset] [(.int (own_lo (y0 &&& (255 : Int32)))), (.int (y1 &&& (255 : Int32)))])) t → Steps p.tables e below (s₁.setTop (entryFrame m #[(.ref a0_), (.int (1 : Int32))] 6)) t := by
      intro t k
      refine S4 t ?_
      show Steps p.tables e below (T2.setTop (mkF m 14 #[rv a0_, iv (1 : Int32), iv (y0 &&& (255 : Int32)), iv (3 : Int32), .unset, .unset] [])) _
      refine XS.iloadN X2.here hx rfl (hb hby d2_14) rfl ?_
      show Steps p.tables e below (T2.setTop (mkF m 15 #[rv a0_, iv (1 : Int32), iv (y0 &&& (255 : Int32)), iv (3 : Int32), .unset, .unset] [(.int (3 : Int32))])) _
      refine XS.ifNo X2.here hx rfl (hb hby d2_15) rfl ((if0 _ _).trans (feq (by decide : ¬ ((3 : Int32) = (0 : Int32)))).1) ?_
      show Steps p.tables e below (T2.setTop (mkF m 18 #[rv a0_, iv (1 : Int32), iv (y0 &&& (255 : Int32)), iv (3 : Int32), .unset, .unset] [])) _
      refine XS.iloadN X2.here hx rfl (hb hby d2_18) rfl ?_
      show Steps p.tables e below (T2.setTop (mkF m 19 #[rv a0_, iv (1 : Int32), iv (y0 &&& (255 : Int32)), iv (3 : Int32), .unset, .unset] [(.int (1 : Int32))])) _
      refine XS.iloadN X2.here hx rfl (hb hby d2_19) rfl ?_
      show Steps p.tables e below (T2.setTop (mkF m 20 #[rv a0_, iv (1 : Int32), iv (y0 &&& (255 : Int32)), iv (3 : Int32), .unset, .unset] [(.int (3 : Int32)), (.int (1 : Int32))])) _
      refine XS.iadd X2.here hx rfl (hb hby d2_20) rfl ?_
      show Steps p.tables e below (T2.setTop (mkF m 21 #[rv a0_, iv (1 : Int32), iv (y0 &&& (255 : Int32)), iv (3 : Int32), .unset, .unset] [(.int (4 : Int32))])) _
      refine XS.aloadN X2.here hx rfl (hb hby d2_21) rfl rfl ?_
      show Steps p.tables e below (T2.setTop (mkF m 22 #[rv a0_, iv (1 : Int32), iv (y0 &&& (255 : Int32)), iv (3 : Int32), .unset, .unset] [(.ref a0_), (.int (4 : Int32))])) _
      refine X2.arraylength hx (by rw [e2]; exact Ar18.1) (State.isArrayOf_alike hZ.alike Ar18.2.1) (g := (mkF m 22 #[rv a0_, iv (1 : Int32), iv (y0 &&& (255 : Int32)), iv (3 : Int32), .unset, .unset] [(.ref a0_), (.int (4 : Int32))])) rfl rfl (hb hby d2_22) _ ?_
      rw [len_of Sa18 Na18]
      show Steps p.tables e below (T2.setTop (mkF m 23 #[rv a0_, iv (1 : Int32), iv (y0 &&& (255 : Int32)), iv (3 : Int32), .unset, .unset] [(.int (5 : Int32)), (.int (4 : Int32))])) _
      refine XS.icmpYes X2.here hx rfl (pc0 := 23) (pc' := 28) rfl (hb hby d2_23) rfl (flt (by decide : ¬ ((5 : Int32) < (4 : Int32)))).2.2.2 (by decide) (by decide) ?_
      show Steps p.tables e below (T2.setTop (mkF m 28 #[rv a0_, iv (1 : Int32), iv (y0 &&& (255 : Int32)), iv (3 : Int32), .unset, .unset] [])) _
      refine XS.aloadN X2.here hx rfl (hb hby d2_28) rfl rfl ?_
      show Steps p.tables e below (T2.setTop (mkF m 29 #[rv a0_, iv (1 : Int32), iv (y0 &&& (255 : Int32)), iv (3 : Int32), .unset, .unset] [(.ref a0_)])) _
      refine XS.iloadN X2.here hx rfl (hb hby d2_29) rfl ?_
      show Steps p.tables e below (T2.setTop (mkF m 30 #[rv a0_, iv (1 : Int32), iv (y0 &&& (255 : Int32)), iv (3 : Int32), .unset, .unset] [(.int (1 : Int32)), (.ref a0_)])) _
      refine XS.iconst X2.here hx rfl (hb hby d2_30) ?_
      show Steps p.tables e below (T2.setTop (mkF m 31 #[rv a0_, iv (1 : Int32), iv (y0 &&& (255 : Int32)), iv (3 : Int32), .unset, .unset] [(.int (1 : Int32)), (.int (1 : Int32)), (.ref a0_)])) _
      refine XS.iadd X2.here hx rfl (hb hby d2_31) rfl ?_
      show Steps p.tables e below (T2.setTop (mkF m 32 #[rv a0_, iv (1 : Int32), iv (y0 &&& (255 : Int32)), iv (3 : Int32), .unset, .unset] [(.int (2 : Int32)), (.ref a0_)])) _
      refine X2.baloadBytes hx (j := (2 : Int32)) (v := (.int y1)) (by rw [e2]; exact Ar19.1) (State.isArrayOf_alike hZ.alike Ar19.2.1) Ar19.2.2 hin19 (Has.at Ha19 hin19 rfl) (g := (mkF m 32 #[rv a0_, iv (1 : Int32), iv (y0 &&& (255 : Int32)), iv (3 : Int32), .unset, .unset] [(.int (2 : Int32)), (.ref a0_)])) rfl rfl (hb hby d2_32) _ ?_
      show Steps p.tables e below (T2.setTop (mkF m 33 #[rv a0_, iv (1 : Int32), iv (y0 &&& (255 : Int32)), iv (3 : Int32), .unset, .unset] [(.int y1)])) _
      refine XS.sipush X2.here hx rfl (hb hby d2_33) ?_
      show Steps p.tables e below (T2.setTop (mkF m 36 #[rv a0_, iv (1 : Int32), iv (y0 &&& (255 : Int32)), iv (3 : Int32), .unset, .unset] [(.int (255 : Int32)), (.int y1)])) _
      refine XS.iand X2.here hx rfl (hb hby d2_36) rfl ?_
      show Steps p.tables e below (T2.setTop (mkF m 37 #[rv a0_, iv (1 : Int32), iv (y0 &&& (255 : Int32)), iv (3 : Int32), .unset, .unset] [(.int (y1 &&& (255 : Int32)))])) _
      refine XS.istore X2.here hx rfl (hb hby d2_37) rfl (l' := #[rv a0_, iv (1 : Int32), iv (y0 &&& (255 : Int32)), iv (3 : Int32), iv (y1 &&& (255 : Int32)), .unset]) rfl ?_
      show Steps p.tables e below (T2.setTop (mkF m 39 #[rv a0_, iv (1 : Int32), iv (y0 &&& (255 : Int32)), iv (3 : Int32), iv (y1 &&& (255 : Int32)), .unset] [])) _
      refine XS.iload X2.here hx rfl (hb hby d2_39) rfl ?_
      show Steps p.tables e below (T2.setTop (mkF m 41 #[rv a0_, iv (1 : Int32), iv (y0 &&& (255 : Int32)), iv (3 : Int32), iv (y1 &&& (255 : Int32)), .unset] [(.int (y1 &&& (255 : Int32)))])) _
      refine st20 _ ?_
      show Steps p.tables e below (T20.setTop (mkF m 44 #[rv a0_, iv (1 : Int32), iv (y0 &&& (255 : Int32)), iv (3 : Int32), iv (y1 &&& (255 : Int32)), .unset] [(.ref sa), (.int (y1 &&& (255 : Int32)))])) _
      refine XS.iloadN X20.here hx rfl (hb hby d2_44) rfl ?_
      show Steps p.tables e below (T20.setTop (mkF m 45 #[rv a0_, iv (1 : Int32), iv (y0 &&& (255 : Int32)), iv (3 : Int32), iv (y1 &&& (255 : Int32)), .unset] [(.int (y0 &&& (255 : Int32))), (.ref sa), (.int (y1 &&& (255 : Int32)))])) _
      refine X20.iaload hx (j := (y0 &&& (255 : Int32))) (v := (.int (own_lo (y0 &&& (255 : Int32))))) (by rw [e20]; exact (hT2.1.ext hO.2).1) (State.isArrayOf_alike hZ.alike hT2.1.2.1) hT2.1.2.2 hin21 (hT2.2.2 _ hin21) (g := (mkF m 45 #[rv a0_, iv (1 : Int32), iv (y0 &&& (255 : Int32)), iv (3 : Int32), iv (y1 &&& (255 : Int32)), .unset] [(.int (y0 &&& (255 : Int32))), (.ref sa), (.int (y1 &&& (255 : Int32)))])) rfl rfl (hb hby d2_45) _ ?_
      exact k
    by_cases hc23 : (y1 &&& (255 : Int32)) < (own_lo (y0 &&& (255 : Int32)))
    · skip
      obtain ⟨fs, hr, hrun, hended, hW, hsame⟩ := X20.leave (v := some (.int (0 : Int32))) (fun h => by rw [Bd.returns] at h; cases h)
      refine ⟨_, _, S22 _ ?_, hrun, hended, _, _, rfl, ?_, ⟨_, rfl⟩, hW, hsame.mono (by decide) (by decide)⟩
      · skip
        show Steps p.tables e below (T20.setTop (mkF m 46 #[rv a0_, iv (1 : Int32), iv (y0 &&& (255 : Int32)), iv (3 : Int32), iv (y1 &&& (255 : Int32)), .unset] [(.int (own_lo (y0 &&& (255 : Int32)))), (.int (y1 &&& (255 : Int32)))])) _
        refine XS.icmpYes X20.here hx rfl (pc0 := 46) (pc' := 59) rfl (hb hby d2_46) rfl (tlt hc23).1 (by decide) (by decide) ?_
        show Steps p.tables e below (T20.setTop (mkF m 59 #[rv a0_, iv (1 : Int32), iv (y0 &&& (255 : Int32)), iv (3 : Int32), iv (y1 &&& (255 : Int32)), .unset] [])) _
        refine XS.iconst X20.here hx rfl (hb hby d2_59) ?_
        show Steps p.tables e below (T20.setTop (mkF m 60 #[rv a0_, iv (1 : Int32), iv (y0 &&& (255 : Int32)), iv (3 : Int32), iv (y1 &&& (255 : Int32)), .unset] [(.int (0 : Int32))])) _
        exact retI X20 hx Bd.returns (hb hby d2_60) hr
      · show QSL14 Z a0_ kk z0 y0 y1 y2 y3 la lc sa sc ta tc h0 n0 _ T20.heap _
        rw [e20]
        exact ⟨(by unfold own_sl4; rw [if_neg hL5, if_neg hL6, if_pos hL17, if_pos hc23]), N0, rfl⟩
    · skip
      obtain ⟨T24, X24, e24, st24⟩ := getS2 X20 hx hZ hown (host := "") (Or.inl (hw _ (List.mem_of_getElem? (i := 16) rfl))) Via.refl e20 (hS3.ext hO.2) (g := (mkF m 51 #[rv a0_, iv (1 : Int32), iv (y0 &&& (255 : Int32)), iv (3 : Int32), iv (y1 &&& (255 : Int32)), .unset] [(.int (y1 &&& (255 : Int32)))])) rfl (hb hby d2_51)
      have hin25 : ¬ ((y0 &&& (255 : Int32)) < 0 ∨ tc.slots.size ≤ ((y0 &&& (255 : Int32))).toNatClampNeg) := inb_of hT3.2.1 (own_255 _)
      have S26 : ∀ t, Steps p.tables e below (T24.setTop (mkF m 56 #[rv a0_, iv (1 : Int32), iv (y0 &&& (255 : Int32)), iv (3 : Int32), iv (y1 &&& (255 : Int32)), .unset] [(.int (own_hi (y0 &&& (255 : Int32)))), (.int (y1 &&& (255 : Int32)))])) t → Steps p.tables e below (s₁.setTop (entryFrame m #[(.ref a0_), (.int (1 : Int32))] 6)) t := by
        intro t k
        refine S22 t ?_
        show Steps p.tables e below (T20.setTop (mkF m 46 #[rv a0_, iv (1 : Int32), iv (y0 &&& (255 : Int32)), iv (3 : Int32), iv (y1 &&& (255 : Int32)), .unset] [(.int (own_lo (y0 &&& (255 : Int32)))), (.int (y1 &&& (255 : Int32)))])) _
        refine XS.icmpNo X20.here hx rfl (hb hby d2_46) rfl (flt hc23).1 ?_
        show Steps p.tables e below (T20.setTop (mkF m 49 #[rv a0_, iv (1 : Int32), iv (y0 &&& (255 : Int32)), iv (3 : Int32), iv (y1 &&& (255 : Int32)), .unset] [])) _
        refine XS.iload X20.here hx rfl (hb hby d2_49) rfl ?_
        show Steps p.tables e below (T20.setTop (mkF m 51 #[rv a0_, iv (1 : Int32), iv (y0 &&& (255 : Int32)), iv (3 : Int32), iv (y1 &&& (255 : Int32)), .unset] [(.int (y1 &&& (255 : Int32)))])) _
        refine st24 _ ?_
        show Steps p.tables e below (T24.setTop (mkF m 54 #[rv a0_, iv (1 : Int32), iv (y0 &&& (255 : Int32)), iv (3 : Int32), iv (y1 &&& (255 : Int32)), .unset] [(.ref ta), (.int (y1 &&& (255 : Int32)))])) _
        refine XS.iloadN X24.here hx rfl (hb hby d2_54) rfl ?_
        show Steps p.tables e below (T24.setTop (mkF m 55 #[rv a0_, iv (1 : Int32), iv (y0 &&& (255 : Int32)), iv (3 : Int32), iv (y1 &&& (255 : Int32)), .unset] [(.int (y0 &&& (255 : Int32))), (.ref ta), (.int (y1 &&& (255 : Int32)))])) _
        refine X24.iaload hx (j := (y0 &&& (255 : Int32))) (v := (.int (own_hi (y0 &&& (255 : Int32))))) (by rw [e24]; exact (hT3.1.ext hO.2).1) (State.isArrayOf_alike hZ.alike hT3.1.2.1) hT3.1.2.2 hin25 (hT3.2.2 _ hin25) (g := (mkF m 55 #[rv a0_, iv (1 : Int32), iv (y0 &&& (255 : Int32)), iv (3 : Int32), iv (y1 &&& (255 : Int32)), .unset] [(.int (y0 &&& (255 : Int32))), (.ref ta), (.int (y1 &&& (255 : Int32)))])) rfl rfl (hb hby d2_55) _ ?_
        exact k
      by_cases hc27 : (own_hi (y0 &&& (255 : Int32))) < (y1 &&& (255 : Int32))
      · skip
        obtain ⟨fs, hr, hrun, hended, hW, hsame⟩ := X24.leave (v := some (.int (0 : Int32))) (fun h => by rw [Bd.returns] at h; cases h)
        refine ⟨_, _, S26 _ ?_, hrun, hended, _, _, rfl, ?_, ⟨_, rfl⟩, hW, hsame.mono (by decide) (by decide)⟩
        · skip
          show Steps p.tables e below (T24.setTop (mkF m 56 #[rv a0_, iv (1 : Int32), iv (y0 &&& (255 : Int32)), iv (3 : Int32), iv (y1 &&& (255 : Int32)), .unset] [(.int (own_hi (y0 &&& (255 : Int32)))), (.int (y1 &&& (255 : Int32)))])) _
          refine XS.icmpNo X24.here hx rfl (hb hby d2_56) rfl (tlt hc27).2.2.2 ?_
          show Steps p.tables e below (T24.setTop (mkF m 59 #[rv a0_, iv (1 : Int32), iv (y0 &&& (255 : Int32)), iv (3 : Int32), iv (y1 &&& (255 : Int32)), .unset] [])) _
          refine XS.iconst X24.here hx rfl (hb hby d2_59) ?_
          show Steps p.tables e below (T24.setTop (mkF m 60 #[rv a0_, iv (1 : Int32), iv (y0 &&& (255 : Int32)), iv (3 : Int32), iv (y1 &&& (255 : Int32)), .unset] [(.int (0 : Int32))])) _
          exact retI X24 hx Bd.returns (hb hby d2_60) hr
        · show QSL14 Z a0_ kk z0 y0 y1 y2 y3 la lc sa sc ta tc h0 n0 _ T24.heap _
          rw [e24]
          exact ⟨(by unfold own_sl4; rw [if_neg hL5, if_neg hL6, if_pos hL17, if_neg hc23, if_pos hc27]), N0, rfl⟩
      · skip
        obtain ⟨cl28, Ar28, qa28, Sa28, Na28, Ha28, Ga28⟩ := id V0
        have hin28 : ¬ ((3 : Int32) < 0 ∨ cl28.slots.size ≤ ((3 : Int32)).toNatClampNeg) := inb_of Sa28 ⟨by decide, by decide⟩
        have S29 : ∀ t, Steps p.tables e below (T24.setTop (mkF m 85 #[rv a0_, iv (1 : Int32), iv (y0 &&& (255 : Int32)), iv (3 : Int32), iv (y1 &&& (255 : Int32)), iv (3 : Int32)] [(.int (128 : Int32)), (.int (y2 &&& (192 : Int32)))])) t → Steps p.tables e below (s₁.setTop (entryFrame m #[(.ref a0_), (.int (1 : Int32))] 6)) t := by
          intro t k
          refine S26 t ?_
          show Steps p.tables e below (T24.setTop (mkF m 56 #[rv a0_, iv (1 : Int32), iv (y0 &&& (255 : Int32)), iv (3 : Int32), iv (y1 &&& (255 : Int32)), .unset] [(.int (own_hi (y0 &&& (255 : Int32)))), (.int (y1 &&& (255 : Int32)))])) _
          refine XS.icmpYes X24.here hx rfl (pc0 := 56) (pc' := 61) rfl (hb hby d2_56) rfl (flt hc27).2.2.2 (by decide) (by decide) ?_
          show Steps p.tables e below (T24.setTop (mkF m 61 #[rv a0_, iv (1 : Int32), iv (y0 &&& (255 : Int32)), iv (3 : Int32), iv (y1 &&& (255 : Int32)), .unset] [])) _
          refine XS.iloadN X24.here hx rfl (hb hby d2_61) rfl ?_
          show Steps p.tables e below (T24.setTop (mkF m 62 #[rv a0_, iv (1 : Int32), iv (y0 &&& (255 : Int32)), iv (3 : Int32), iv (y1 &&& (255 : Int32)), .unset] [(.int (1 : Int32))])) _
          refine XS.iconst X24.here hx rfl (hb hby d2_62) ?_
          show Steps p.tables e below (T24.setTop (mkF m 63 #[rv a0_, iv (1 : Int32), iv (y0 &&& (255 : Int32)), iv (3 : Int32), iv (y1 &&& (255 : Int32)), .unset] [(.int (2 : Int32)), (.int (1 : Int32))])) _
          refine XS.iadd X24.here hx rfl (hb hby d2_63) rfl ?_
          show Steps p.tables e below (T24.setTop (mkF m 64 #[rv a0_, iv (1 : Int32), iv (y0 &&& (255 : Int32)), iv (3 : Int32), iv (y1 &&& (255 : Int32)), .unset] [(.int (3 : Int32))])) _
          refine XS.istore X24.here hx rfl (hb hby d2_64) rfl (l' := #[rv a0_, iv (1 : Int32), iv (y0 &&& (255 : Int32)), iv (3 : Int32), iv (y1 &&& (255 : Int32)), iv (3 : Int32)]) rfl ?_
          show Steps p.tables e below (T24.setTop (mkF m 66 #[rv a0_, iv (1 : Int32), iv (y0 &&& (255 : Int32)), iv (3 : Int32), iv (y1 &&& (255 : Int32)), iv (3 : Int32)] [])) _
          refine XS.iload X24.here hx rfl (hb hby d2_66) rfl ?_
          show Steps p.tables e below (T24.setTop (mkF m 68 #[rv a0_, iv (1 : Int32), iv (y0 &&& (255 : Int32)), iv (3 : Int32), iv (y1 &&& (255 : Int32)), iv (3 : Int32)] [(.int (3 : Int32))])) _
          refine XS.iloadN X24.here hx rfl (hb hby d2_68) rfl ?_
          show Steps p.tables e below (T24.setTop (mkF m 69 #[rv a0_, iv (1 : Int32), iv (y0 &&& (255 : Int32)), iv (3 : Int32), iv (y1 &&& (255 : Int32)), iv (3 : Int32)] [(.int (1 : Int32)), (.int (3 : Int32))])) _
          refine XS.iloadN X24.here hx rfl (hb hby d2_69) rfl ?_
          show Steps p.tables e below (T24.setTop (mkF m 70 #[rv a0_, iv (1 : Int32), iv (y0 &&& (255 : Int32)), iv (3 : Int32), iv (y1 &&& (255 : Int32)), iv (3 : Int32)] [(.int (3 : Int32)), (.int (1 : Int32)), (.int (3 : Int32))])) _
          refine XS.iadd X24.here hx rfl (hb hby d2_70) rfl ?_
          show Steps p.tables e below (T24.setTop (mkF m 71 #[rv a0_, iv (1 : Int32), iv (y0 &&& (255 : Int32)), iv (3 : Int32), iv (y1 &&& (255 : Int32)), iv (3 : Int32)] [(.int (4 : Int32)), (.int (3 : Int32))])) _
          refine XS.icmpNo X24.here hx rfl (hb hby d2_71) rfl (tlt (by decide : (3 : Int32) < (4 : Int32))).2.1 ?_
          show Steps p.tables e below (T24.setTop (mkF m 74 #[rv a0_, iv (1 : Int32), iv (y0 &&& (255 : Int32)), iv (3 : Int32), iv (y1 &&& (255 : Int32)), iv (3 : Int32)] [])) _
          refine XS.aloadN X24.here hx rfl (hb hby d2_74) rfl rfl ?_
          show Steps p.tables e below (T24.setTop (mkF m 75 #[rv a0_, iv (1 : Int32), iv (y0 &&& (255 : Int32)), iv (3 : Int32), iv (y1 &&& (255 : Int32)), iv (3 : Int32)] [(.ref a0_)])) _
          refine XS.iload X24.here hx rfl (hb hby d2_75) rfl ?_
          show Steps p.tables e below (T24.setTop (mkF m 77 #[rv a0_, iv (1 : Int32), iv (y0 &&& (255 : Int32)), iv (3 : Int32), iv (y1 &&& (255 : Int32)), iv (3 : Int32)] [(.int (3 : Int32)), (.ref a0_)])) _
          refine X24.baloadBytes hx (j := (3 : Int32)) (v := (.int y2)) (by rw [e24]; exact Ar28.1) (State.isArrayOf_alike hZ.alike Ar28.2.1) Ar28.2.2 hin28 (Has.at Ha28 hin28 rfl) (g := (mkF m 77 #[rv a0_, iv (1 : Int32), iv (y0 &&& (255 : Int32)), iv (3 : Int32), iv (y1 &&& (255 : Int32)), iv (3 : Int32)] [(.int (3 : Int32)), (.ref a0_)])) rfl rfl (hb hby d2_77) _ ?_
          show Steps p.tables e below (T24.setTop (mkF m 78 #[rv a0_, iv (1 : Int32), iv (y0 &&& (255 : Int32)), iv (3 : Int32), iv (y1 &&& (255 : Int32)), iv (3 : Int32)] [(.int y2)])) _
          refine XS.sipush X24.here hx rfl (hb hby d2_78) ?_
          show Steps p.tables e below (T24.setTop (mkF m 81 #[rv a0_, iv (1 : Int32), iv (y0 &&& (255 : Int32)), iv (3 : Int32), iv (y1 &&& (255 : Int32)), iv (3 : Int32)] [(.int (192 : Int32)), (.int y2)])) _
          refine XS.iand X24.here hx rfl (hb hby d2_81) rfl ?_
          show Steps p.tables e below (T24.setTop (mkF m 82 #[rv a0_, iv (1 : Int32), iv (y0 &&& (255 : Int32)), iv (3 : Int32), iv (y1 &&& (255 : Int32)), iv (3 : Int32)] [(.int (y2 &&& (192 : Int32)))])) _
          refine XS.sipush X24.here hx rfl (hb hby d2_82) ?_
          exact k
        by_cases hc30 : (y2 &&& (192 : Int32)) = (128 : Int32)
        · skip
          obtain ⟨fs, hr, hrun, hended, hW, hsame⟩ := X24.leave (v := some (.int (3 : Int32))) (fun h => by rw [Bd.returns] at h; cases h)
          refine ⟨_, _, S29 _ ?_, hrun, hended, _, _, rfl, ?_, ⟨_, rfl⟩, hW, hsame.mono (by decide) (by decide)⟩
          · skip
            show Steps p.tables e below (T24.setTop (mkF m 85 #[rv a0_, iv (1 : Int32), iv (y0 &&& (255 : Int32)), iv (3 : Int32), iv (y1 &&& (255 : Int32)), iv (3 : Int32)] [(.int (128 : Int32)), (.int (y2 &&& (192 : Int32)))])) _
            refine XS.icmpYes X24.here hx rfl (pc0 := 85) (pc' := 90) rfl (hb hby d2_85) rfl (teq hc30).1 (by decide) (by decide) ?_
            show Steps p.tables e below (T24.setTop (mkF m 90 #[rv a0_, iv (1 : Int32), iv (y0 &&& (255 : Int32)), iv (3 : Int32), iv (y1 &&& (255 : Int32)), iv (3 : Int32)] [])) _
            refine XS.iinc X24.here hx rfl (hb hby d2_90) rfl (l' := #[rv a0_, iv (1 : Int32), iv (y0 &&& (255 : Int32)), iv (3 : Int32), iv (y1 &&& (255 : Int32)), iv (4 : Int32)]) rfl ?_
            show Steps p.tables e below (T24.setTop (mkF m 93 #[rv a0_, iv (1 : Int32), iv (y0 &&& (255 : Int32)), iv (3 : Int32), iv (y1 &&& (255 : Int32)), iv (4 : Int32)] [])) _
            refine XS.goto X24.here hx rfl (pc0 := 93) (pc' := 66) rfl (hb hby d2_93) (by decide) (by decide) ?_
            show Steps p.tables e below (T24.setTop (mkF m 66 #[rv a0_, iv (1 : Int32), iv (y0 &&& (255 : Int32)), iv (3 : Int32), iv (y1 &&& (255 : Int32)), iv (4 : Int32)] [])) _
            refine XS.iload X24.here hx rfl (hb hby d2_66) rfl ?_
            show Steps p.tables e below (T24.setTop (mkF m 68 #[rv a0_, iv (1 : Int32), iv (y0 &&& (255 : Int32)), iv (3 : Int32), iv (y1 &&& (255 : Int32)), iv (4 : Int32)] [(.int (4 : Int32))])) _
            refine XS.iloadN X24.here hx rfl (hb hby d2_68) rfl ?_
            show Steps p.tables e below (T24.setTop (mkF m 69 #[rv a0_, iv (1 : Int32), iv (y0 &&& (255 : Int32)), iv (3 : Int32), iv (y1 &&& (255 : Int32)), iv (4 : Int32)] [(.int (1 : Int32)), (.int (4 : Int32))])) _
            refine XS.iloadN X24.here hx rfl (hb hby d2_69) rfl ?_
            show Steps p.tables e below (T24.setTop (mkF m 70 #[rv a0_, iv (1 : Int32), iv (y0 &&& (255 : Int32)), iv (3 : Int32), iv (y1 &&& (255 : Int32)), iv (4 : Int32)] [(.int (3 : Int32)), (.int (1 : Int32)), (.int (4 : Int32))])) _
            refine XS.iadd X24.here hx rfl (hb hby d2_70) rfl ?_
            show Steps p.tables e below (T24.setTop (mkF m 71 #[rv a0_, iv (1 : Int32), iv (y0 &&& (255 : Int32)), iv (3 : Int32), iv (y1 &&& (255 : Int32)), iv (4 : Int32)] [(.int (4 : Int32)), (.int (4 : Int32))])) _
            refine XS.icmpYes X24.here hx rfl (pc0 := 71) (pc' := 96) rfl (hb hby d2_71) rfl (flt (by decide : ¬ ((4 : Int32) < (4 : Int32)))).2.1 (by decide) (by decide) ?_
            show Steps p.tables e below (T24.setTop (mkF m 96 #[rv a0_, iv (1 : Int32), iv (y0 &&& (255 : Int32)), iv (3 : Int32), iv (y1 &&& (255 : Int32)), iv (4 : Int32)] [])) _
            refine XS.iloadN X24.here hx rfl (hb hby d2_96) rfl ?_
            show Steps p.tables e below (T24.setTop (mkF m 97 #[rv a0_, iv (1 : Int32), iv (y0 &&& (255 : Int32)), iv (3 : Int32), iv (y1 &&& (255 : Int32)), iv (4 : Int32)] [(.int (3 : Int32))])) _
            exact retI X24 hx Bd.returns (hb hby d2_97) hr
          · show QSL14 Z a0_ kk z0 y0 y1 y2 y3 la lc sa sc ta tc h0 n0 _ T24.heap _
            rw [e24]
            exact ⟨(by unfold own_sl4; rw [if_neg hL5, if_neg hL6, if_pos hL17, if_neg hc23, if_neg hc27, if_pos hc30]), N0, rfl⟩
        · skip
          obtain ⟨fs, hr, hrun, hended, hW, hsame⟩ := X24.leave (v := some (.int (0 : Int32))) (fun h => by rw [Bd.returns] at h; cases h)
          refine ⟨_, _, S29 _ ?_, hrun, hended, _, _, rfl, ?_, ⟨_, rfl⟩, hW, hsame.mono (by decide) (by decide)⟩
          · skip
            show Steps p.tables e below (T24.setTop (mkF m 85 #[rv a0_, iv (1 : Int32), iv (y0 &&& (255 : Int32)), iv (3 : Int32), iv (y1 &&& (255 : Int32)), iv (3 : Int32)] [(.int (128 : Int32)), (.int (y2 &&& (192 : Int32)))])) _
            refine XS.icmpNo X24.here hx rfl (hb hby d2_85) rfl (feq hc30).1 ?_
            show Steps p.tables e below (T24.setTop (mkF m 88 #[rv a0_, iv (1 : Int32), iv (y0 &&& (255 : Int32)), iv (3 : Int32), iv (y1 &&& (255 : Int32)), iv (3 : Int32)] [])) _
            refine XS.iconst X24.here hx rfl (hb hby d2_88) ?_
            show Steps p.tables e below (T24.setTop (mkF m 89 #[rv a0_, iv (1 : Int32), iv (y0 &&& (255 : Int32)), iv (3 : Int32), iv (y1 &&& (255 : Int32)), iv (3 : Int32)] [(.int (0 : Int32))])) _
            exact retI X24 hx Bd.returns (hb hby d2_89) hr
          · show QSL14 Z a0_ kk z0 y0 y1 y2 y3 la lc sa sc ta tc h0 n0 _ T24.heap _
            rw [e24]
            exact ⟨(by unfold own_sl4; rw [if_neg hL5, if_neg hL6, if_pos hL17, if_neg hc23, if_neg hc27, if_neg hc30]), N0, rfl⟩
  have hL31 := own_L4 _ hL5 hL6 hL17
  rw [hL31] at S4
  obtain ⟨cl32, Ar32, qa32, Sa32, Na32, Ha32, Ga32⟩ := id V0
  obtain ⟨cl33, Ar33, qa33, Sa33, Na33, Ha33, Ga33⟩ := id V0
  have hin33 : ¬ ((2 : Int32) < 0 ∨ cl33.slots.size ≤ ((2 : Int32)).toNatClampNeg) := inb_of Sa33 ⟨by decide, by decide⟩
  obtain ⟨T34, X34, e34, st34⟩ := getS2 X2 hx hZ hown (host := "") (Or.inl (hw _ (List.mem_of_getElem? (i := 14) rfl))) Via.refl e2 (hS2.ext hO.2) (g := (mkF m 41 #[rv a0_, iv (1 : Int32), iv (y0 &&& (255 : Int32)), iv (4 : Int32), iv (y1 &&& (255 : Int32)), .unset] [(.int (y1 &&& (255 : Int32)))])) rfl (hb hby d2_41)
  have hin35 : ¬ ((y0 &&& (255 : Int32)) < 0 ∨ sc.slots.size ≤ ((y0 &&& (255 : Int32))).toNatClampNeg) := inb_of hT2.2.1 (own_255 _)
  have S36 : ∀ t, Steps p.tables e below (T34.setTop (mkF m 46 #[rv a0_, iv (1 : Int32), iv (y0 &&& (255 : Int32)), iv (4 : Int32), iv (y1 &&& (255 : Int32)), .unset] [(.int (own_lo (y0 &&& (255 : Int32)))), (.int (y1 &&& (255 : Int32)))])) t → Steps p.tables e below (s₁.setTop (entryFrame m #[(.ref a0_), (.int (1 : Int32))] 6)) t := by
    intro t k
    refine S4 t ?_
    show Steps p.tables e below (T2.setTop (mkF m 14 #[rv a0_, iv (1 : Int32), iv (y0 &&& (255 : Int32)), iv (4 : Int32), .unset, .unset] [])) _
    refine XS.iloadN X2.here hx rfl (hb hby d2_14) rfl ?_
    show Steps p.tables e below (T2.setTop (mkF m 15 #[rv a0_, iv (1 : Int32), iv (y0 &&& (255 : Int32)), iv (4 : Int32), .unset, .unset] [(.int (4 : Int32))])) _
    refine XS.ifNo X2.here hx rfl (hb hby d2_15) rfl ((if0 _ _).trans (feq (by decide : ¬ ((4 : Int32) = (0 : Int32)))).1) ?_
    show Steps p.tables e below (T2.setTop (mkF m 18 #[rv a0_, iv (1 : Int32), iv (y0 &&& (255 : Int32)), iv (4 : Int32), .unset, .unset] [])) _
    refine XS.iloadN X2.here hx rfl (hb hby d2_18) rfl ?_
    show Steps p.tables e below (T2.setTop (mkF m 19 #[rv a0_, iv (1 : Int32), iv (y0 &&& (255 : Int32)), iv (4 : Int32), .unset, .unset] [(.int (1 : Int32))])) _
    refine XS.iloadN X2.here hx rfl (hb hby d2_19) rfl ?_
    show Steps p.tables e below (T2.setTop (mkF m 20 #[rv a0_, iv (1 : Int32), iv (y0 &&& (255 : Int32)), iv (4 : Int32), .unset, .unset] [(.int (4 : Int32)), (.int (1 : Int32))])) _
    refine XS.iadd X2.here hx rfl (hb hby d2_20) rfl ?_
    show Steps p.tables e below (T2.setTop (mkF m 21 #[rv a0_, iv (1 : Int32), iv (y0 &&& (255 : Int32)), iv (4 : Int32), .unset, .unset] [(.int (5 : Int32))])) _
    refine XS.aloadN X2.here hx rfl (hb hby d2_21) rfl rfl ?_
    show Steps p.tables e below (T2.setTop (mkF m 22 #[rv a0_, iv (1 : Int32), iv (y0 &&& (255 : Int32)), iv (4 : Int32), .unset, .unset] [(.ref a0_), (.int (5 : Int32))])) _
    refine X2.arraylength hx (by rw [e2]; exact Ar32.1) (State.isArrayOf_alike hZ.alike Ar32.2.1) (g := (mkF m 22 #[rv a0_, iv (1 : Int32), iv (y0 &&& (255 : Int32)), iv (4 : Int32), .unset, .unset] [(.ref a0_), (.int (5 : Int32))])) rfl rfl (hb hby d2_22) _ ?_
    rw [len_of Sa32 Na32]
    show Steps p.tables e below (T2.setTop (mkF m 23 #[rv a0_, iv (1 : Int32), iv (y0 &&& (255 : Int32)), iv (4 : Int32), .unset, .unset] [(.int (5 : Int32)), (.int (5 : Int32))])) _
    refine XS.icmpYes X2.here hx rfl (pc0 := 23) (pc' := 28) rfl (hb hby d2_23) rfl (flt (by decide : ¬ ((5 : Int32) < (5 : Int32)))).2.2.2 (by decide) (by decide) ?_
    show Steps p.tables e below (T2.setTop (mkF m 28 #[rv a0_, iv (1 : Int32), iv (y0 &&& (255 : Int32)), iv (4 : Int32), .unset, .unset] [])) _
    refine XS.aloadN X2.here hx rfl (hb hby d2_28) rfl rfl ?_
    show Steps p.tables e below (T2.setTop (mkF m 29 #[rv a0_, iv (1 : Int32), iv (y0 &&& (255 : Int32)), iv (4 : Int32), .unset, .unset] [(.ref a0_)])) _
    refine XS.iloadN X2.here hx rfl (hb hby d2_29) rfl ?_
    show Steps p.tables e below (T2.setTop (mkF m 30 #[rv a0_, iv (1 : Int32), iv (y0 &&& (255 : Int32)), iv (4 : Int32), .unset, .unset] [(.int (1 : Int32)), (.ref a0_)])) _
    refine XS.iconst X2.here hx rfl (hb hby d2_30) ?_
    show Steps p.tables e below (T2.setTop (mkF m 31 #[rv a0_, iv (1 : Int32), iv (y0 &&& (255 : Int32)), iv (4 : Int32), .unset, .unset] [(.int (1 : Int32)), (.int (1 : Int32)), (.ref a0_)])) _
    refine XS.iadd X2.here hx rfl (hb hby d2_31) rfl ?_
    show Steps p.tables e below (T2.setTop (mkF m 32 #[rv a0_, iv (1 : Int32), iv (y0 &&& (255 : Int32)), iv (4 : Int32), .unset, .unset] [(.int (2 : Int32)), (.ref a0_)])) _
    refine X2.baloadBytes hx (j := (2 : Int32)) (v := (.int y1)) (by rw [e2]; exact Ar33.1) (State.isArrayOf_alike hZ.alike Ar33.2.1) Ar33.2.2 hin33 (Has.at Ha33 hin33 rfl) (g := (mkF m 32 #[rv a0_, iv (1 : Int32), iv (y0 &&& (255 : Int32)), iv (4 : Int32), .unset, .unset] [(.int (2 : Int32)), (.ref a0_)])) rfl rfl (hb hby d2_32) _ ?_
    show Steps p.tables e below (T2.setTop (mkF m 33 #[rv a0_, iv (1 : Int32), iv (y0 &&& (255 : Int32)), iv (4 : Int32), .unset, .unset] [(.int y1)])) _
    refine XS.sipush X2.here hx rfl (hb hby d2_33) ?_
    show Steps p.tables e below (T2.setTop (mkF m 36 #[rv a0_, iv (1 : Int32), iv (y0 &&& (255 : Int32)), iv (4 : Int32), .unset, .unset] [(.int (255 : Int32)), (.int y1)])) _
    refine XS.iand X2.here hx rfl (hb hby d2_36) rfl ?_
    show Steps p.tables e below (T2.setTop (mkF m 37 #[rv a0_, iv (1 : Int32), iv (y0 &&& (255 : Int32)), iv (4 : Int32), .unset, .unset] [(.int (y1 &&& (255 : Int32)))])) _
    refine XS.istore X2.here hx rfl (hb hby d2_37) rfl (l' := #[rv a0_, iv (1 : Int32), iv (y0 &&& (255 : Int32)), iv (4 : Int32), iv (y1 &&& (255 : Int32)), .unset]) rfl ?_
    show Steps p.tables e below (T2.setTop (mkF m 39 #[rv a0_, iv (1 : Int32), iv (y0 &&& (255 : Int32)), iv (4 : Int32), iv (y1 &&& (255 : Int32)), .unset] [])) _
    refine XS.iload X2.here hx rfl (hb hby d2_39) rfl ?_
    show Steps p.tables e below (T2.setTop (mkF m 41 #[rv a0_, iv (1 : Int32), iv (y0 &&& (255 : Int32)), iv (4 : Int32), iv (y1 &&& (255 : Int32)), .unset] [(.int (y1 &&& (255 : Int32)))])) _
    refine st34 _ ?_
    show Steps p.tables e below (T34.setTop (mkF m 44 #[rv a0_, iv (1 : Int32), iv (y0 &&& (255 : Int32)), iv (4 : Int32), iv (y1 &&& (255 : Int32)), .unset] [(.ref sa), (.int (y1 &&& (255 : Int32)))])) _
    refine XS.iloadN X34.here hx rfl (hb hby d2_44) rfl ?_
    show Steps p.tables e below (T34.setTop (mkF m 45 #[rv a0_, iv (1 : Int32), iv (y0 &&& (255 : Int32)), iv (4 : Int32), iv (y1 &&& (255 : Int32)), .unset] [(.int (y0 &&& (255 : Int32))), (.ref sa), (.int (y1 &&& (255 : Int32)))])) _
    refine X34.iaload hx (j := (y0 &&& (255 : Int32))) (v := (.int (own_lo (y0 &&& (255 : Int32))))) (by rw [e34]; exact (hT2.1.ext hO.2).1) (State.isArrayOf_alike hZ.alike hT2.1.2.1) hT2.1.2.2 hin35 (hT2.2.2 _ hin35) (g := (mkF m 45 #[rv a0_, iv (1 : Int32), iv (y0 &&& (255 : Int32)), iv (4 : Int32), iv (y1 &&& (255 : Int32)), .unset] [(.int (y0 &&& (255 : Int32))), (.ref sa), (.int (y1 &&& (255 : Int32)))])) rfl rfl (hb hby d2_45) _ ?_
    exact k
  by_cases hc37 : (y1 &&& (255 : Int32)) < (own_lo (y0 &&& (255 : Int32)))
  · skip
    obtain ⟨fs, hr, hrun, hended, hW, hsame⟩ := X34.leave (v := some (.int (0 : Int32))) (fun h => by rw [Bd.returns] at h; cases h)
    refine ⟨_, _, S36 _ ?_, hrun, hended, _, _, rfl, ?_, ⟨_, rfl⟩, hW, hsame.mono (by decide) (by decide)⟩
    · skip
      show Steps p.tables e below (T34.setTop (mkF m 46 #[rv a0_, iv (1 : Int32), iv (y0 &&& (255 : Int32)), iv (4 : Int32), iv (y1 &&& (255 : Int32)), .unset] [(.int (own_lo (y0 &&& (255 : Int32)))), (.int (y1 &&& (255 : Int32)))])) _
      refine XS.icmpYes X34.here hx rfl (pc0 := 46) (pc' := 59) rfl (hb hby d2_46) rfl (tlt hc37).1 (by decide) (by decide) ?_
      show Steps p.tables e below (T34.setTop (mkF m 59 #[rv a0_, iv (1 : Int32), iv (y0 &&& (255 : Int32)), iv (4 : Int32), iv (y1 &&& (255 : Int32)), .unset] [])) _
      refine XS.iconst X34.here hx rfl (hb hby d2_59) ?_
      show Steps p.tables e below (T34.setTop (mkF m 60 #[rv a0_, iv (1 : Int32), iv (y0 &&& (255 : Int32)), iv (4 : Int32), iv (y1 &&& (255 : Int32)), .unset] [(.int (0 : Int32))])) _
      exact retI X34 hx Bd.returns (hb hby d2_60) hr
    · show QSL14 Z a0_ kk z0 y0 y1 y2 y3 la lc sa sc ta tc h0 n0 _ T34.heap _
      rw [e34]
      exact ⟨(by unfold own_sl4; rw [if_neg hL5, if_neg hL6, if_neg hL17, if_pos hc37]), N0, rfl⟩
  · skip
    obtain ⟨T38, X38, e38, st38⟩ := getS2 X34 hx hZ hown (host := "") (Or.inl (hw _ (List.mem_of_getElem? (i := 16) rfl))) Via.refl e34 (hS3.ext hO.2) (g := (mkF m 51 #[rv a0_, iv (1 : Int32), iv (y0 &&& (255 : Int32)), iv (4 : Int32), iv (y1 &&& (255 : Int32)), .unset] [(.int (y1 &&& (255 : Int32)))])) rfl (hb hby d2_51)
    have hin39 : ¬ ((y0 &&& (255 : Int32)) < 0 ∨ tc.slots.size ≤ ((y0 &&& (255 : Int32))).toNatClampNeg) := inb_of hT3.2.1 (own_255 _)
    have S40 : ∀ t, Steps p.tables e below (T38.setTop (mkF m 56 #[rv a0_, iv (1 : Int32), iv (y0 &&& (255 : Int32)), iv (4 : Int32), iv (y1 &&& (255 : Int32)), .unset] [(.int (own_hi (y0 &&& (255 : Int32)))), (.int (y1 &&& (255 : Int32)))])) t → Steps p.tables e below (s₁.setTop (entryFrame m #[(.ref a0_), (.int (1 : Int32))] 6)) t := by
      intro t k
      refine S36 t ?_
      show Steps p.tables e below (T34.setTop (mkF m 46 #[rv a0_, iv (1 : Int32), iv (y0 &&& (255 : Int32)), iv (4 : Int32), iv (y1 &&& (255 : Int32)), .unset] [(.int (own_lo (y0 &&& (255 : Int32)))), (.int (y1 &&& (255 : Int32)))])) _
      refine XS.icmpNo X34.here hx rfl (hb hby d2_46) rfl (flt hc37).1 ?_
      show Steps p.tables e below (T34.setTop (mkF m 49 #[rv a0_, iv (1 : Int32), iv (y0 &&& (255 : Int32)), iv (4 : Int32), iv (y1 &&& (255 : Int32)), .unset] [])) _
      refine XS.iload X34.here hx rfl (hb hby d2_49) rfl ?_
      show Steps p.tables e below (T34.setTop (mkF m 51 #[rv a0_, iv (1 : Int32), iv (y0 &&& (255 : Int32)), iv (4 : Int32), iv (y1 &&& (255 : Int32)), .unset] [(.int (y1 &&& (255 : Int32)))])) _
      refine st38 _ ?_
      show Steps p.tables e below (T38.setTop (mkF m 54 #[rv a0_, iv (1 : Int32), iv (y0 &&& (255 : Int32)), iv (4 : Int32), iv (y1 &&& (255 : Int32)), .unset] [(.ref ta), (.int (y1 &&& (255 : Int32)))])) _
      refine XS.iloadN X38.here hx rfl (hb hby d2_54) rfl ?_
      show Steps p.tables e below (T38.setTop (mkF m 55 #[rv a0_, iv (1 : Int32), iv (y0 &&& (255 : Int32)), iv (4 : Int32), iv (y1 &&& (255 : Int32)), .unset] [(.int (y0 &&& (255 : Int32))), (.ref ta), (.int (y1 &&& (255 : Int32)))])) _
      refine X38.iaload hx (j := (y0 &&& (255 : Int32))) (v := (.int (own_hi (y0 &&& (255 : Int32))))) (by rw [e38]; exact (hT3.1.ext hO.2).1) (State.isArrayOf_alike hZ.alike hT3.1.2.1) hT3.1.2.2 hin39 (hT3.2.2 _ hin39) (g := (mkF m 55 #[rv a0_, iv (1 : Int32), iv (y0 &&& (255 : Int32)), iv (4 : Int32), iv (y1 &&& (255 : Int32)), .unset] [(.int (y0 &&& (255 : Int32))), (.ref ta), (.int (y1 &&& (255 : Int32)))])) rfl rfl (hb hby d2_55) _ ?_
      exact k
    by_cases hc41 : (own_hi (y0 &&& (255 : Int32))) < (y1 &&& (255 : Int32))
    · skip
      obtain ⟨fs, hr, hrun, hended, hW, hsame⟩ := X38.leave (v := some (.int (0 : Int32))) (fun h => by rw [Bd.returns] at h; cases h)
      refine ⟨_, _, S40 _ ?_, hrun, hended, _, _, rfl, ?_, ⟨_, rfl⟩, hW, hsame.mono (by decide) (by decide)⟩
      · skip
        show Steps p.tables e below (T38.setTop (mkF m 56 #[rv a0_, iv (1 : Int32), iv (y0 &&& (255 : Int32)), iv (4 : Int32), iv (y1 &&& (255 : Int32)), .unset] [(.int (own_hi (y0 &&& (255 : Int32)))), (.int (y1 &&& (255 : Int32)))])) _
        refine XS.icmpNo X38.here hx rfl (hb hby d2_56) rfl (tlt hc41).2.2.2 ?_
        show Steps p.tables e below (T38.setTop (mkF m 59 #[rv a0_, iv (1 : Int32), iv (y0 &&& (255 : Int32)), iv (4 : Int32), iv (y1 &&& (255 : Int32)), .unset] [])) _
        refine XS.iconst X38.here hx rfl (hb hby d2_59) ?_
        show Steps p.tables e below (T38.setTop (mkF m 60 #[rv a0_, iv (1 : Int32), iv (y0 &&& (255 : Int32)), iv (4 : Int32), iv (y1 &&& (255 : Int32)), .unset] [(.int (0 : Int32))])) _
        exact retI X38 hx Bd.returns (hb hby d2_60) hr
      · show QSL14 Z a0_ kk z0 y0 y1 y2 y3 la lc sa sc ta tc h0 n0 _ T38.heap _
        rw [e38]
        exact ⟨(by unfold own_sl4; rw [if_neg hL5, if_neg hL6, if_neg hL17, if_neg hc37, if_pos hc41]), N0, rfl⟩
    · skip
      obtain ⟨cl42, Ar42, qa42, Sa42, Na42, Ha42, Ga42⟩ := id V0
      have hin42 : ¬ ((3 : Int32) < 0 ∨ cl42.slots.size ≤ ((3 : Int32)).toNatClampNeg) := inb_of Sa42 ⟨by decide, by decide⟩
      have S43 : ∀ t, Steps p.tables e below (T38.setTop (mkF m 85 #[rv a0_, iv (1 : Int32), iv (y0 &&& (255 : Int32)), iv (4 : Int32), iv (y1 &&& (255 : Int32)), iv (3 : Int32)] [(.int (128 : Int32)), (.int (y2 &&& (192 : Int32)))])) t → Steps p.tables e below (s₁.setTop (entryFrame m #[(.ref a0_), (.int (1 : Int32))] 6)) t := by
        intro t k
        refine S40 t ?_
        show Steps p.tables e below (T38.setTop (mkF m 56 #[rv a0_, iv (1 : Int32), iv (y0 &&& (255 : Int32)), iv (4 : Int32), iv (y1 &&& (255 : Int32)), .unset] [(.int (own_hi (y0 &&& (255 : Int32)))), (.int (y1 &&& (255 : Int32)))])) _
        refine XS.icmpYes X38.here hx rfl (pc0 := 56) (pc' := 61) rfl (hb hby d2_56) rfl (flt hc41).2.2.2 (by decide) (by decide) ?_
        show Steps p.tables e below (T38.setTop (mkF m 61 #[rv a0_, iv (1 : Int32), iv (y0 &&& (255 : Int32)), iv (4 : Int32), iv (y1 &&& (255 : Int32)), .unset] [])) _
        refine XS.iloadN X38.here hx rfl (hb hby d2_61) rfl ?_
        show Steps p.tables e below (T38.setTop (mkF m 62 #[rv a0_, iv (1 : Int32), iv (y0 &&& (255 : Int32)), iv (4 : Int32), iv (y1 &&& (255 : Int32)), .unset] [(.int (1 : Int32))])) _
        refine XS.iconst X38.here hx rfl (hb hby d2_62) ?_
        show Steps p.tables e below (T38.setTop (mkF m 63 #[rv a0_, iv (1 : Int32), iv (y0 &&& (255 : Int32)), iv (4 : Int32), iv (y1 &&& (255 : Int32)), .unset] [(.int (2 : Int32)), (.int (1 : Int32))])) _
        refine XS.iadd X38.here hx rfl (hb hby d2_63) rfl ?_
        show Steps p.tables e below (T38.setTop (mkF m 64 #[rv a0_, iv (1 : Int32), iv (y0 &&& (255 : Int32)), iv (4 : Int32), iv (y1 &&& (255 : Int32)), .unset] [(.int (3 : Int32))])) _
        refine XS.istore X38.here hx rfl (hb hby d2_64) rfl (l' := #[rv a0_, iv (1 : Int32), iv (y0 &&& (255 : Int32)), iv (4 : Int32), iv (y1 &&& (255 : Int32)), iv (3 : Int32)]) rfl ?_
        show Steps p.tables e below (T38.setTop (mkF m 66 #[rv a0_, iv (1 : Int32), iv (y0 &&& (255 : Int32)), iv (4 : Int32), iv (y1 &&& (255 : Int32)), iv (3 : Int32)] [])) _
        refine XS.iload X38.here hx rfl (hb hby d2_66) rfl ?_
        show Steps p.tables e below (T38.setTop (mkF m 68 #[rv a0_, iv (1 : Int32), iv (y0 &&& (255 : Int32)), iv (4 : Int32), iv (y1 &&& (255 : Int32)), iv (3 : Int32)] [(.int (3 : Int32))])) _
        refine XS.iloadN X38.here hx rfl (hb hby d2_68) rfl ?_
        show Steps p.tables e below (T38.setTop (mkF m 69 #[rv a0_, iv (1 : Int32), iv (y0 &&& (255 : Int32)), iv (4 : Int32), iv (y1 &&& (255 : Int32)), iv (3 : Int32)] [(.int (1 : Int32)), (.int (3 : Int32))])) _
        refine XS.iloadN X38.here hx rfl (hb hby d2_69) rfl ?_
        show Steps p.tables e below (T38.setTop (mkF m 70 #[rv a0_, iv (1 : Int32), iv (y0 &&& (255 : Int32)), iv (4 : Int32), iv (y1 &&& (255 : Int32)), iv (3 : Int32)] [(.int (4 : Int32)), (.int (1 : Int32)), (.int (3 : Int32))])) _
        refine XS.iadd X38.here hx rfl (hb hby d2_70) rfl ?_
        show Steps p.tables e below (T38.setTop (mkF m 71 #[rv a0_, iv (1 : Int32), iv (y0 &&& (255 : Int32)), iv (4 : Int32), iv (y1 &&& (255 : Int32)), iv (3 : Int32)] [(.int (5 : Int32)), (.int (3 : Int32))])) _
        refine XS.icmpNo X38.here hx rfl (hb hby d2_71) rfl (tlt (by decide : (3 : Int32) < (5 : Int32))).2.1 ?_
        show Steps p.tables e below (T38.setTop (mkF m 74 #[rv a0_, iv (1 : Int32), iv (y0 &&& (255 : Int32)), iv (4 : Int32), iv (y1 &&& (255 : Int32)), iv (3 : Int32)] [])) _
        refine XS.aloadN X38.here hx rfl (hb hby d2_74) rfl rfl ?_
        show Steps p.tables e below (T38.setTop (mkF m 75 #[rv a0_, iv (1 : Int32), iv (y0 &&& (255 : Int32)), iv (4 : Int32), iv (y1 &&& (255 : Int32)), iv (3 : Int32)] [(.ref a0_)])) _
        refine XS.iload X38.here hx rfl (hb hby d2_75) rfl ?_
        show Steps p.tables e below (T38.setTop (mkF m 77 #[rv a0_, iv (1 : Int32), iv (y0 &&& (255 : Int32)), iv (4 : Int32), iv (y1 &&& (255 : Int32)), iv (3 : Int32)] [(.int (3 : Int32)), (.ref a0_)])) _
        refine X38.baloadBytes hx (j := (3 : Int32)) (v := (.int y2)) (by rw [e38]; exact Ar42.1) (State.isArrayOf_alike hZ.alike Ar42.2.1) Ar42.2.2 hin42 (Has.at Ha42 hin42 rfl) (g := (mkF m 77 #[rv a0_, iv (1 : Int32), iv (y0 &&& (255 : Int32)), iv (4 : Int32), iv (y1 &&& (255 : Int32)), iv (3 : Int32)] [(.int (3 : Int32)), (.ref a0_)])) rfl rfl (hb hby d2_77) _ ?_
        show Steps p.tables e below (T38.setTop (mkF m 78 #[rv a0_, iv (1 : Int32), iv (y0 &&& (255 : Int32)), iv (4 : Int32), iv (y1 &&& (255 : Int32)), iv (3 : Int32)] [(.int y2)])) _
        refine XS.sipush X38.here hx rfl (hb hby d2_78) ?_
        show Steps p.tables e below (T38.setTop (mkF m 81 #[rv a0_, iv (1 : Int32), iv (y0 &&& (255 : Int32)), iv (4 : Int32), iv (y1 &&& (255 : Int32)), iv (3 : Int32)] [(.int (192 : Int32)), (.int y2)])) _
        refine XS.iand X38.here hx rfl (hb hby d2_81) rfl ?_
        show Steps p.tables e below (T38.setTop (mkF m 82 #[rv a0_, iv (1 : Int32), iv (y0 &&& (255 : Int32)), iv (4 : Int32), iv (y1 &&& (255 : Int32)), iv (3 : Int32)] [(.int (y2 &&& (192 : Int32)))])) _
        refine XS.sipush X38.here hx rfl (hb hby d2_82) ?_
        exact k
      by_cases hc44 : (y2 &&& (192 : Int32)) = (128 : Int32)
      · skip
        obtain ⟨cl45, Ar45, qa45, Sa45, Na45, Ha45, Ga45⟩ := id V0
        have hin45 : ¬ ((4 : Int32) < 0 ∨ cl45.slots.size ≤ ((4 : Int32)).toNatClampNeg) := inb_of Sa45 ⟨by decide, by decide⟩
        have S46 : ∀ t, Steps p.tables e below (T38.setTop (mkF m 85 #[rv a0_, iv (1 : Int32), iv (y0 &&& (255 : Int32)), iv (4 : Int32), iv (y1 &&& (255 : Int32)), iv (4 : Int32)] [(.int (128 : Int32)), (.int (y3 &&& (192 : Int32)))])) t → Steps p.tables e below (s₁.setTop (entryFrame m #[(.ref a0_), (.int (1 : Int32))] 6)) t := by
          intro t k
          refine S43 t ?_
          show Steps p.tables e below (T38.setTop (mkF m 85 #[rv a0_, iv (1 : Int32), iv (y0 &&& (255 : Int32)), iv (4 : Int32), iv (y1 &&& (255 : Int32)), iv (3 : Int32)] [(.int (128 : Int32)), (.int (y2 &&& (192 : Int32)))])) _
          refine XS.icmpYes X38.here hx rfl (pc0 := 85) (pc' := 90) rfl (hb hby d2_85) rfl (teq hc44).1 (by decide) (by decide) ?_
          show Steps p.tables e below (T38.setTop (mkF m 90 #[rv a0_, iv (1 : Int32), iv (y0 &&& (255 : Int32)), iv (4 : Int32), iv (y1 &&& (255 : Int32)), iv (3 : Int32)] [])) _
          refine XS.iinc X38.here hx rfl (hb hby d2_90) rfl (l' := #[rv a0_, iv (1 : Int32), iv (y0 &&& (255 : Int32)), iv (4 : Int32), iv (y1 &&& (255 : Int32)), iv (4 : Int32)]) rfl ?_
          show Steps p.tables e below (T38.setTop (mkF m 93 #[rv a0_, iv (1 : Int32), iv (y0 &&& (255 : Int32)), iv (4 : Int32), iv (y1 &&& (255 : Int32)), iv (4 : Int32)] [])) _
          refine XS.goto X38.here hx rfl (pc0 := 93) (pc' := 66) rfl (hb hby d2_93) (by decide) (by decide) ?_
          show Steps p.tables e below (T38.setTop (mkF m 66 #[rv a0_, iv (1 : Int32), iv (y0 &&& (255 : Int32)), iv (4 : Int32), iv (y1 &&& (255 : Int32)), iv (4 : Int32)] [])) _
          refine XS.iload X38.here hx rfl (hb hby d2_66) rfl ?_
          show Steps p.tables e below (T38.setTop (mkF m 68 #[rv a0_, iv (1 : Int32), iv (y0 &&& (255 : Int32)), iv (4 : Int32), iv (y1 &&& (255 : Int32)), iv (4 : Int32)] [(.int (4 : Int32))])) _
          refine XS.iloadN X38.here hx rfl (hb hby d2_68) rfl ?_
          show Steps p.tables e below (T38.setTop (mkF m 69 #[rv a0_, iv (1 : Int32), iv (y0 &&& (255 : Int32)), iv (4 : Int32), iv (y1 &&& (255 : Int32)), iv (4 : Int32)] [(.int (1 : Int32)), (.int (4 : Int32))])) _
          refine XS.iloadN X38.here hx rfl (hb hby d2_69) rfl ?_
          show Steps p.tables e below (T38.setTop (mkF m 70 #[rv a0_, iv (1 : Int32), iv (y0 &&& (255 : Int32)), iv (4 : Int32), iv (y1 &&& (255 : Int32)), iv (4 : Int32)] [(.int (4 : Int32)), (.int (1 : Int32)), (.int (4 : Int32))])) _
          refine XS.iadd X38.here hx rfl (hb hby d2_70) rfl ?_
          show Steps p.tables e below (T38.setTop (mkF m 71 #[rv a0_, iv (1 : Int32), iv (y0 &&& (255 : Int32)), iv (4 : Int32), iv (y1 &&& (255 : Int32)), iv (4 : Int32)] [(.int (5 : Int32)), (.int (4 : Int32))])) _
          refine XS.icmpNo X38.here hx rfl (hb hby d2_71) rfl (tlt (by decide : (4 : Int32) < (5 : Int32))).2.1 ?_
          show Steps p.tables e below (T38.setTop (mkF m 74 #[rv a0_, iv (1 : Int32), iv (y0 &&& (255 : Int32)), iv (4 : Int32), iv (y1 &&& (255 : Int32)), iv (4 : Int32)] [])) _
          refine XS.aloadN X38.here hx rfl (hb hby d2_74) rfl rfl ?_
          show Steps p.tables e below (T38.setTop (mkF m 75 #[rv a0_, iv (1 : Int32), iv (y0 &&& (255 : Int32)), iv (4 : Int32), iv (y1 &&& (255 : Int32)), iv (4 : Int32)] [(.ref a0_)])) _
          refine XS.iload X38.here hx rfl (hb hby d2_75) rfl ?_
          show Steps p.tables e below (T38.setTop (mkF m 77 #[rv a0_, iv (1 : Int32), iv (y0 &&& (255 : Int32)), iv (4 : Int32), iv (y1 &&& (255 : Int32)), iv (4 : Int32)] [(.int (4 : Int32)), (.ref a0_)])) _
          refine X38.baloadBytes hx (j := (4 : Int32)) (v := (.int y3)) (by rw [e38]; exact Ar45.1) (State.isArrayOf_alike hZ.alike Ar45.2.1) Ar45.2.2 hin45 (Has.at Ha45 hin45 rfl) (g := (mkF m 77 #[rv a0_, iv (1 : Int32), iv (y0 &&& (255 : Int32)), iv (4 : Int32), iv (y1 &&& (255 : Int32)), iv (4 : Int32)] [(.int (4 : Int32)), (.ref a0_)])) rfl rfl (hb hby d2_77) _ ?_
          show Steps p.tables e below (T38.setTop (mkF m 78 #[rv a0_, iv (1 : Int32), iv (y0 &&& (255 : Int32)), iv (4 : Int32), iv (y1 &&& (255 : Int32)), iv (4 : Int32)] [(.int y3)])) _
          refine XS.sipush X38.here hx rfl (hb hby d2_78) ?_
          show Steps p.tables e below (T38.setTop (mkF m 81 #[rv a0_, iv (1 : Int32), iv (y0 &&& (255 : Int32)), iv (4 : Int32), iv (y1 &&& (255 : Int32)), iv (4 : Int32)] [(.int (192 : Int32)), (.int y3)])) _
          refine XS.iand X38.here hx rfl (hb hby d2_81) rfl ?_
          show Steps p.tables e below (T38.setTop (mkF m 82 #[rv a0_, iv (1 : Int32), iv (y0 &&& (255 : Int32)), iv (4 : Int32), iv (y1 &&& (255 : Int32)), iv (4 : Int32)] [(.int (y3 &&& (192 : Int32)))])) _
          refine XS.sipush X38.here hx rfl (hb hby d2_82) ?_
          exact k
        by_cases hc47 : (y3 &&& (192 : Int32)) = (128 : Int32)
        · skip
          obtain ⟨fs, hr, hrun, hended, hW, hsame⟩ := X38.leave (v := some (.int (4 : Int32))) (fun h => by rw [Bd.returns] at h; cases h)
          refine ⟨_, _, S46 _ ?_, hrun, hended, _, _, rfl, ?_, ⟨_, rfl⟩, hW, hsame.mono (by decide) (by decide)⟩
          · skip
            show Steps p.tables e below (T38.setTop (mkF m 85 #[rv a0_, iv (1 : Int32), iv (y0 &&& (255 : Int32)), iv (4 : Int32), iv (y1 &&& (255 : Int32)), iv (4 : Int32)] [(.int (128 : Int32)), (.int (y3 &&& (192 : Int32)))])) _
            refine XS.icmpYes X38.here hx rfl (pc0 := 85) (pc' := 90) rfl (hb hby d2_85) rfl (teq hc47).1 (by decide) (by decide) ?_
            show Steps p.tables e below (T38.setTop (mkF m 90 #[rv a0_, iv (1 : Int32), iv (y0 &&& (255 : Int32)), iv (4 : Int32), iv (y1 &&& (255 : Int32)), iv (4 : Int32)] [])) _
            refine XS.iinc X38.here hx rfl (hb hby d2_90) rfl (l' := #[rv a0_, iv (1 : Int32), iv (y0 &&& (255 : Int32)), iv (4 : Int32), iv (y1 &&& (255 : Int32)), iv (5 : Int32)]) rfl ?_
            show Steps p.tables e below (T38.setTop (mkF m 93 #[rv a0_, iv (1 : Int32), iv (y0 &&& (255 : Int32)), iv (4 : Int32), iv (y1 &&& (255 : Int32)), iv (5 : Int32)] [])) _
            refine XS.goto X38.here hx rfl (pc0 := 93) (pc' := 66) rfl (hb hby d2_93) (by decide) (by decide) ?_
            show Steps p.tables e below (T38.setTop (mkF m 66 #[rv a0_, iv (1 : Int32), iv (y0 &&& (255 : Int32)), iv (4 : Int32), iv (y1 &&& (255 : Int32)), iv (5 : Int32)] [])) _
            refine XS.iload X38.here hx rfl (hb hby d2_66) rfl ?_
            show Steps p.tables e below (T38.setTop (mkF m 68 #[rv a0_, iv (1 : Int32), iv (y0 &&& (255 : Int32)), iv (4 : Int32), iv (y1 &&& (255 : Int32)), iv (5 : Int32)] [(.int (5 : Int32))])) _
            refine XS.iloadN X38.here hx rfl (hb hby d2_68) rfl ?_
            show Steps p.tables e below (T38.setTop (mkF m 69 #[rv a0_, iv (1 : Int32), iv (y0 &&& (255 : Int32)), iv (4 : Int32), iv (y1 &&& (255 : Int32)), iv (5 : Int32)] [(.int (1 : Int32)), (.int (5 : Int32))])) _
            refine XS.iloadN X38.here hx rfl (hb hby d2_69) rfl ?_
            show Steps p.tables e below (T38.setTop (mkF m 70 #[rv a0_, iv (1 : Int32), iv (y0 &&& (255 : Int32)), iv (4 : Int32), iv (y1 &&& (255 : Int32)), iv (5 : Int32)] [(.int (4 : Int32)), (.int (1 : Int32)), (.int (5 : Int32))])) _
            refine XS.iadd X38.here hx rfl (hb hby d2_70) rfl ?_
            show Steps p.tables e below (T38.setTop (mkF m 71 #[rv a0_, iv (1 : Int32), iv (y0 &&& (255 : Int32)), iv (4 : Int32), iv (y1 &&& (255 : Int32)), iv (5 : Int32)] [(.int (5 : Int32)), (.int (5 : Int32))])) _
            refine XS.icmpYes X38.here hx rfl (pc0 := 71) (pc' := 96) rfl (hb hby d2_71) rfl (flt (by decide : ¬ ((5 : Int32) < (5 : Int32)))).2.1 (by decide) (by decide) ?_
            show Steps p.tables e below (T38.setTop (mkF m 96 #[rv a0_, iv (1 : Int32), iv (y0 &&& (255 : Int32)), iv (4 : Int32), iv (y1 &&& (255 : Int32)), iv (5 : Int32)] [])) _
            refine XS.iloadN X38.here hx rfl (hb hby d2_96) rfl ?_
            show Steps p.tables e below (T38.setTop (mkF m 97 #[rv a0_, iv (1 : Int32), iv (y0 &&& (255 : Int32)), iv (4 : Int32), iv (y1 &&& (255 : Int32)), iv (5 : Int32)] [(.int (4 : Int32))])) _
            exact retI X38 hx Bd.returns (hb hby d2_97) hr
          · show QSL14 Z a0_ kk z0 y0 y1 y2 y3 la lc sa sc ta tc h0 n0 _ T38.heap _
            rw [e38]
            exact ⟨(by unfold own_sl4; rw [if_neg hL5, if_neg hL6, if_neg hL17, if_neg hc37, if_neg hc41, if_pos hc44, if_pos hc47]), N0, rfl⟩
        · skip
          obtain ⟨fs, hr, hrun, hended, hW, hsame⟩ := X38.leave (v := some (.int (0 : Int32))) (fun h => by rw [Bd.returns] at h; cases h)
          refine ⟨_, _, S46 _ ?_, hrun, hended, _, _, rfl, ?_, ⟨_, rfl⟩, hW, hsame.mono (by decide) (by decide)⟩
          · skip
            show Steps p.tables e below (T38.setTop (mkF m 85 #[rv a0_, iv (1 : Int32), iv (y0 &&& (255 : Int32)), iv (4 : Int32), iv (y1 &&& (255 : Int32)), iv (4 : Int32)] [(.int (128 : Int32)), (.int (y3 &&& (192 : Int32)))])) _
            refine XS.icmpNo X38.here hx rfl (hb hby d2_85) rfl (feq hc47).1 ?_
            show Steps p.tables e below (T38.setTop (mkF m 88 #[rv a0_, iv (1 : Int32), iv (y0 &&& (255 : Int32)), iv (4 : Int32), iv (y1 &&& (255 : Int32)), iv (4 : Int32)] [])) _
            refine XS.iconst X38.here hx rfl (hb hby d2_88) ?_
            show Steps p.tables e below (T38.setTop (mkF m 89 #[rv a0_, iv (1 : Int32), iv (y0 &&& (255 : Int32)), iv (4 : Int32), iv (y1 &&& (255 : Int32)), iv (4 : Int32)] [(.int (0 : Int32))])) _
            exact retI X38 hx Bd.returns (hb hby d2_89) hr
          · show QSL14 Z a0_ kk z0 y0 y1 y2 y3 la lc sa sc ta tc h0 n0 _ T38.heap _
            rw [e38]
            exact ⟨(by unfold own_sl4; rw [if_neg hL5, if_neg hL6, if_neg hL17, if_neg hc37, if_neg hc41, if_pos hc44, if_neg hc47]), N0, rfl⟩
      · skip
        obtain ⟨fs, hr, hrun, hended, hW, hsame⟩ := X38.leave (v := some (.int (0 : Int32))) (fun h => by rw [Bd.returns] at h; cases h)
        refine ⟨_, _, S43 _ ?_, hrun, hended, _, _, rfl, ?_, ⟨_, rfl⟩, hW, hsame.mono (by decide) (by decide)⟩
        · skip
          show Steps p.tables e below (T38.setTop (mkF m 85 #[rv a0_, iv (1 : Int32), iv (y0 &&& (255 : Int32)), iv (4 : Int32), iv (y1 &&& (255 : Int32)), iv (3 : Int32)] [(.int (128 : Int32)), (.int (y2 &&& (192 : Int32)))])) _
          refine XS.icmpNo X38.here hx rfl (hb hby d2_85) rfl (feq hc44).1 ?_
          show Steps p.tables e below (T38.setTop (mkF m 88 #[rv a0_, iv (1 : Int32), iv (y0 &&& (255 : Int32)), iv (4 : Int32), iv (y1 &&& (255 : Int32)), iv (3 : Int32)] [])) _
          refine XS.iconst X38.here hx rfl (hb hby d2_88) ?_
          show Steps p.tables e below (T38.setTop (mkF m 89 #[rv a0_, iv (1 : Int32), iv (y0 &&& (255 : Int32)), iv (4 : Int32), iv (y1 &&& (255 : Int32)), iv (3 : Int32)] [(.int (0 : Int32))])) _
          exact retI X38 hx Bd.returns (hb hby d2_89) hr
        · show QSL14 Z a0_ kk z0 y0 y1 y2 y3 la lc sa sc ta tc h0 n0 _ T38.heap _
          rw [e38]
          exact ⟨(by unfold own_sl4; rw [if_neg hL5, if_neg hL6, if_neg hL17, if_neg hc37, if_neg hc41, if_neg hc44]), N0, rfl⟩
theorem own_all {p : Int32 → Prop} (h : ∀ k : Fin 256, p (Int32.ofNat k.val)) (x : Int32) (h0 : 0 ≤ x.toInt) (h1 : x.toInt < 256) : p x := by
  have e : x = Int32.ofNat x.toInt.toNat := by
    apply Int32.toInt_inj.mp
    rw [Int32.toInt_ofNat_of_lt (by omega)]; omega
  rw [e]
  exact h ⟨x.toInt.toNat, by omega⟩
def own_bits (x : Int32) : Prop := ((x &&& (128 : Int32)) = (0 : Int32) ↔ x.toInt < 128) ∧ ((x &&& (224 : Int32)) = (192 : Int32) ↔ 192 ≤ x.toInt ∧ x.toInt < 224) ∧ ((x &&& (240 : Int32)) = (224 : Int32) ↔ 224 ≤ x.toInt ∧ x.toInt < 240) ∧ ((x &&& (248 : Int32)) = (240 : Int32) ↔ 240 ≤ x.toInt ∧ x.toInt < 248) ∧ ((x &&& (192 : Int32)) = (128 : Int32) ↔ 128 ≤ x.toInt ∧ x.toInt < 192)
instance (x : Int32) : Decidable (own_bits x) := by unfold own_bits; infer_instance
theorem own_bits_all : ∀ k : Fin 256, own_bits (Int32.ofNat k.val) := by decide +kernel
theorem own_tn (x : Int32) : (x.toBitVec.toNat : Int) = x.toInt % 4294967296 := by
  have hc : x.toInt = x.toBitVec.toInt := rfl
  rw [hc, BitVec.toInt_eq_toNat_cond]
  have := x.toBitVec.isLt
  split <;> omega
theorem own_or (x y : Int32) (k : Nat) (hk : k ≤ 20) (q : Int) (hq : x.toInt = q * 2 ^ k) (hx : 0 ≤ x.toInt) (hy : 0 ≤ y.toInt) (hy' : y.toInt < 2 ^ k) (hs : x.toInt + y.toInt < 2 ^ 31) : (x ||| y).toInt = x.toInt + y.toInt := by
  have ex := own_tn x
  have ey := own_tn y
  have hxl := x.toInt_lt
  have hyl := y.toInt_lt
  have hp : (0 : Int) < 2 ^ k := Int.pow_pos (by decide)
  have hq0 : 0 ≤ q := by
    by_cases h : 0 ≤ q
    · exact h
    · have : q * 2 ^ k < 0 := Int.mul_neg_of_neg_of_pos (by omega) hp
      omega
  have exN : x.toBitVec.toNat = q.toNat <<< k := by
    rw [Nat.shiftLeft_eq]
    have e2 : ((q.toNat * 2 ^ k : Nat) : Int) = q * 2 ^ k := by
      rw [Int.natCast_mul, Int.natCast_pow, Int.toNat_of_nonneg hq0]; rfl
    omega
  have hyN : y.toBitVec.toNat < 2 ^ k := by
    have e2 : ((2 ^ k : Nat) : Int) = (2 : Int) ^ k := by rw [Int.natCast_pow]; rfl
    omega
  have e : (x ||| y).toBitVec.toNat = x.toBitVec.toNat + y.toBitVec.toNat := by
    show (x.toBitVec ||| y.toBitVec).toNat = _
    rw [BitVec.toNat_or, exN, Nat.shiftLeft_add_eq_or_of_lt hyN]
  have hd : (x ||| y).toInt = (x ||| y).toBitVec.toInt := rfl
  rw [hd, BitVec.toInt_eq_toNat_cond, e, if_pos (by omega)]
  omega
def own_spec (a b c d n : Int) : Int32 := if 194 ≤ a ∧ a < 224 ∧ 2 ≤ n ∧ 128 ≤ b ∧ b < 192 then 2 else if 224 ≤ a ∧ a < 240 ∧ 3 ≤ n ∧ 128 ≤ b ∧ b < 192 ∧ 128 ≤ c ∧ c < 192 ∧ (a = 224 → 160 ≤ b) ∧ (a = 237 → b < 160) then 3 else if 240 ≤ a ∧ a < 245 ∧ 4 ≤ n ∧ 128 ≤ b ∧ b < 192 ∧ 128 ≤ c ∧ c < 192 ∧ 128 ≤ d ∧ d < 192 ∧ (a = 240 → 144 ≤ b) ∧ (a = 244 → b < 144) then 4 else 0
theorem own_specT {a b c d n : Int} {k : Int32} (h : (k = 2 ∧ (194 ≤ a ∧ a < 224 ∧ 2 ≤ n ∧ 128 ≤ b ∧ b < 192)) ∨ (k = 3 ∧ (224 ≤ a ∧ a < 240 ∧ 3 ≤ n ∧ 128 ≤ b ∧ b < 192 ∧ 128 ≤ c ∧ c < 192 ∧ (a = 224 → 160 ≤ b) ∧ (a = 237 → b < 160))) ∨ (k = 4 ∧ (240 ≤ a ∧ a < 245 ∧ 4 ≤ n ∧ 128 ≤ b ∧ b < 192 ∧ 128 ≤ c ∧ c < 192 ∧ 128 ≤ d ∧ d < 192 ∧ (a = 240 → 144 ≤ b) ∧ (a = 244 → b < 144))) ∨ (k = 0 ∧ ¬ (194 ≤ a ∧ a < 224 ∧ 2 ≤ n ∧ 128 ≤ b ∧ b < 192) ∧ ¬ (224 ≤ a ∧ a < 240 ∧ 3 ≤ n ∧ 128 ≤ b ∧ b < 192 ∧ 128 ≤ c ∧ c < 192 ∧ (a = 224 → 160 ≤ b) ∧ (a = 237 → b < 160)) ∧ ¬ (240 ≤ a ∧ a < 245 ∧ 4 ≤ n ∧ 128 ≤ b ∧ b < 192 ∧ 128 ≤ c ∧ c < 192 ∧ 128 ≤ d ∧ d < 192 ∧ (a = 240 → 144 ≤ b) ∧ (a = 244 → b < 144)))) : k = own_spec a b c d n := by
  unfold own_spec
  rcases h with ⟨rfl, h⟩ | ⟨rfl, h⟩ | ⟨rfl, h⟩ | ⟨rfl, h1, h2, h3⟩
  · rw [if_pos h]
  · rw [if_neg (by omega), if_pos h]
  · rw [if_neg (by omega), if_neg (by omega), if_pos h]
  · rw [if_neg h1, if_neg h2, if_neg h3]
set_option maxHeartbeats 4000000 in
theorem own_exS (a b c d n : Int32) (ha : 0 ≤ a.toInt ∧ a.toInt < 256) (hb : 0 ≤ b.toInt ∧ b.toInt < 256) (hc : 0 ≤ c.toInt ∧ c.toInt < 256) (hd : 0 ≤ d.toInt ∧ d.toInt < 256) : own_ex a b c d n = own_spec a.toInt b.toInt c.toInt d.toInt n.toInt := by
  have A := own_all (p := own_bits) own_bits_all a ha.1 ha.2
  have B := own_all (p := own_bits) own_bits_all b hb.1 hb.2
  have Cc := own_all (p := own_bits) own_bits_all c hc.1 hc.2
  have Dd := own_all (p := own_bits) own_bits_all d hd.1 hd.2
  obtain ⟨A1, A2, A3, A4, -⟩ := A
  obtain ⟨-, -, -, -, B5⟩ := B
  obtain ⟨-, -, -, -, C5⟩ := Cc
  obtain ⟨-, -, -, -, D5⟩ := Dd
  have ct : ∀ u : Int32, own_ct u = (0 : Int32) ↔ ¬ (u &&& (192 : Int32)) = (128 : Int32) := fun u => by
    unfold own_ct; split <;> simp_all
  have m31 := Jvm.Kit.i32_mask a 31 (k := 5) (by decide) (by decide)
  have m15 := Jvm.Kit.i32_mask a 15 (k := 4) (by decide) (by decide)
  have m7 := Jvm.Kit.i32_mask a 7 (k := 3) (by decide) (by decide)
  have mb := Jvm.Kit.i32_mask b 63 (k := 6) (by decide) (by decide)
  have mc := Jvm.Kit.i32_mask c 63 (k := 6) (by decide) (by decide)
  have md := Jvm.Kit.i32_mask d 63 (k := 6) (by decide) (by decide)
  have s1 : ((a &&& (31 : Int32)) <<< ((6 : Int32) &&& 31)).toInt = (a &&& (31 : Int32)).toInt * 2 ^ 6 := Jvm.Kit.i32_shl _ _ (by decide) (by omega) (by omega)
  have p1 : (((a &&& (31 : Int32)) <<< ((6 : Int32) &&& 31)) ||| (b &&& (63 : Int32))).toInt = a.toInt % 32 * 64 + b.toInt % 64 := by
    rw [own_or _ _ 6 (by decide) _ s1 (by omega) (by omega) (by omega) (by omega)]; omega
  have s2 : ((a &&& (15 : Int32)) <<< ((12 : Int32) &&& 31)).toInt = (a &&& (15 : Int32)).toInt * 2 ^ 12 := Jvm.Kit.i32_shl _ _ (by decide) (by omega) (by omega)
  have s3 : ((b &&& (63 : Int32)) <<< ((6 : Int32) &&& 31)).toInt = (b &&& (63 : Int32)).toInt * 2 ^ 6 := Jvm.Kit.i32_shl _ _ (by decide) (by omega) (by omega)
  have p2 : ((((a &&& (15 : Int32)) <<< ((12 : Int32) &&& 31)) ||| ((b &&& (63 : Int32)) <<< ((6 : Int32) &&& 31)))).toInt = a.toInt % 16 * 4096 + b.toInt % 64 * 64 := by
    rw [own_or _ _ 12 (by decide) _ s2 (by omega) (by omega) (by omega) (by omega)]; omega
  have p3 : ((((a &&& (15 : Int32)) <<< ((12 : Int32) &&& 31)) ||| ((b &&& (63 : Int32)) <<< ((6 : Int32) &&& 31))) ||| (c &&& (63 : Int32))).toInt = a.toInt % 16 * 4096 + b.toInt % 64 * 64 + c.toInt % 64 := by
    rw [own_or _ _ 6 (by decide) (a.toInt % 16 * 64 + b.toInt % 64) (by rw [p2]; omega) (by omega) (by omega) (by omega) (by omega)]; omega
  have s4 : ((a &&& (7 : Int32)) <<< ((18 : Int32) &&& 31)).toInt = (a &&& (7 : Int32)).toInt * 2 ^ 18 := Jvm.Kit.i32_shl _ _ (by decide) (by omega) (by omega)
  have s5 : ((b &&& (63 : Int32)) <<< ((12 : Int32) &&& 31)).toInt = (b &&& (63 : Int32)).toInt * 2 ^ 12 := Jvm.Kit.i32_shl _ _ (by decide) (by omega) (by omega)
  have s6 : ((c &&& (63 : Int32)) <<< ((6 : Int32) &&& 31)).toInt = (c &&& (63 : Int32)).toInt * 2 ^ 6 := Jvm.Kit.i32_shl _ _ (by decide) (by omega) (by omega)
  have p4 : (((a &&& (7 : Int32)) <<< ((18 : Int32) &&& 31)) ||| ((b &&& (63 : Int32)) <<< ((12 : Int32) &&& 31))).toInt = a.toInt % 8 * 262144 + b.toInt % 64 * 4096 := by
    rw [own_or _ _ 18 (by decide) _ s4 (by omega) (by omega) (by omega) (by omega)]; omega
  have p5 : ((((a &&& (7 : Int32)) <<< ((18 : Int32) &&& 31)) ||| ((b &&& (63 : Int32)) <<< ((12 : Int32) &&& 31))) ||| ((c &&& (63 : Int32)) <<< ((6 : Int32) &&& 31))).toInt = a.toInt % 8 * 262144 + b.toInt % 64 * 4096 + c.toInt % 64 * 64 := by
    rw [own_or _ _ 12 (by decide) (a.toInt % 8 * 64 + b.toInt % 64) (by rw [p4]; omega) (by omega) (by omega) (by omega) (by omega)]; omega
  have p6 : (((((a &&& (7 : Int32)) <<< ((18 : Int32) &&& 31)) ||| ((b &&& (63 : Int32)) <<< ((12 : Int32) &&& 31))) ||| ((c &&& (63 : Int32)) <<< ((6 : Int32) &&& 31))) ||| (d &&& (63 : Int32))).toInt = a.toInt % 8 * 262144 + b.toInt % 64 * 4096 + c.toInt % 64 * 64 + d.toInt % 64 := by
    rw [own_or _ _ 6 (by decide) (a.toInt % 8 * 4096 + b.toInt % 64 * 64 + c.toInt % 64) (by rw [p5]; omega) (by omega) (by omega) (by omega) (by omega)]; omega
  unfold own_ex
  simp only [A1, A2, A3, A4, ct, B5, C5, D5, Int32.lt_iff_toInt_lt, p1, p3, p6, Int32.reduceToInt]
  clear A1 A2 A3 A4 B5 C5 D5 ct m31 m15 m7 mb mc md s1 p1 s2 s3 p2 p3 s4 s5 s6 p4 p5 p6
  generalize a.toInt = a at *
  generalize b.toInt = b at *
  generalize c.toInt = c at *
  generalize d.toInt = d at *
  generalize n.toInt = n at *
  repeat' split
  all_goals apply own_specT
  all_goals first
    | exact Or.inr (Or.inr (Or.inr ⟨rfl, by omega, by omega, by omega⟩))
    | exact Or.inl ⟨rfl, by omega⟩
    | exact Or.inr (Or.inl ⟨rfl, by omega⟩)
    | exact Or.inr (Or.inr (Or.inl ⟨rfl, by omega⟩))
theorem own_LS (x : Int32) : own_L x = if x.toInt < 194 then 0 else if x.toInt < 224 then 2 else if x.toInt < 240 then 3 else if x.toInt < 245 then 4 else 0 := by
  unfold own_L; simp only [Int32.lt_iff_toInt_lt, Int32.reduceToInt]
theorem own_loS (x : Int32) : (own_lo x).toInt = if x.toInt < 194 then 0 else if x.toInt < 224 then 128 else if x.toInt < 225 then 160 else if x.toInt < 240 then 128 else if x.toInt < 241 then 144 else if x.toInt < 245 then 128 else 0 := by
  unfold own_lo; simp only [Int32.lt_iff_toInt_lt, Int32.reduceToInt]
  repeat' split
  all_goals rfl
theorem own_hiS (x : Int32) : (own_hi x).toInt = if x.toInt < 194 then 0 else if x.toInt < 237 then 191 else if x.toInt < 238 then 159 else if x.toInt < 244 then 191 else if x.toInt < 245 then 143 else 0 := by
  unfold own_hi; simp only [Int32.lt_iff_toInt_lt, Int32.reduceToInt]
  repeat' split
  all_goals rfl
theorem own_b2i (y : Int32) : y.toInt8.toInt32.toInt = y.toInt.bmod 256 := by
  rw [Int8.toInt_toInt32, Int32.toInt_toInt8]
theorem own_t (y : Int32) : ((y.toInt8.toInt32) &&& (255 : Int32)) = (y &&& (255 : Int32)) := by
  apply Int32.toInt_inj.mp
  rw [Jvm.Kit.i32_mask _ 255 (k := 8) (by decide) (by decide), Jvm.Kit.i32_mask y 255 (k := 8) (by decide) (by decide), own_b2i, Int.bmod_def]; split <;> omega
theorem own_rng (x : Int32) : 0 ≤ (x &&& (255 : Int32)).toInt ∧ (x &&& (255 : Int32)).toInt < 256 := by
  have h := Jvm.Kit.i32_mask x 255 (k := 8) (by decide) (by decide)
  omega
theorem own_c192 (y : Int32) : ((y.toInt8.toInt32) &&& (192 : Int32)) = (128 : Int32) ↔ 128 ≤ (y &&& (255 : Int32)).toInt ∧ (y &&& (255 : Int32)).toInt < 192 := by
  have e : ((y.toInt8.toInt32) &&& (192 : Int32)) = ((y &&& (255 : Int32)) &&& (192 : Int32)) := by
    rw [← own_t, Int32.and_assoc]; rfl
  rw [e]
  exact (own_all (p := own_bits) own_bits_all _ (own_rng y).1 (own_rng y).2).2.2.2.2
theorem own_st (x : Int32) : (x &&& (1 : Int32)) = (0 : Int32) ∨ (x &&& (1 : Int32)) = (1 : Int32) := by
  have h := Jvm.Kit.i32_mask x 1 (k := 1) (by decide) (by decide)
  simp only [← Int32.toInt_inj, h, Int32.reduceToInt]; omega
theorem own_av (x : Int32) : ((1 : Int32) + (((x.toUInt32 >>> ((1 : Int32) &&& 31).toUInt32).toInt32) &&& (3 : Int32))) = (1 : Int32) ∨ ((1 : Int32) + (((x.toUInt32 >>> ((1 : Int32) &&& 31).toUInt32).toInt32) &&& (3 : Int32))) = (2 : Int32) ∨ ((1 : Int32) + (((x.toUInt32 >>> ((1 : Int32) &&& 31).toUInt32).toInt32) &&& (3 : Int32))) = (3 : Int32) ∨ ((1 : Int32) + (((x.toUInt32 >>> ((1 : Int32) &&& 31).toUInt32).toInt32) &&& (3 : Int32))) = (4 : Int32) := by
  generalize ((x.toUInt32 >>> ((1 : Int32) &&& 31).toUInt32).toInt32) = z
  have h := Jvm.Kit.i32_mask z 3 (k := 2) (by decide) (by decide)
  have q : ((1 : Int32) + (z &&& (3 : Int32))).toInt = (1 : Int32).toInt + (z &&& (3 : Int32)).toInt := Jvm.Kit.i32_add (by simp only [Int32.reduceToInt]; omega) (by simp only [Int32.reduceToInt]; omega)
  simp only [← Int32.toInt_inj, q, h, Int32.reduceToInt]; omega
set_option maxHeartbeats 4000000 in
theorem own_slS1 (y0 y1 y2 y3 a b c d : Int32) (ha : 0 ≤ a.toInt ∧ a.toInt < 256) (hb : 0 ≤ b.toInt ∧ b.toInt < 256) (hc : 0 ≤ c.toInt ∧ c.toInt < 256) (hd : 0 ≤ d.toInt ∧ d.toInt < 256) (e0 : (y0 &&& (255 : Int32)) = a) (e1 : (y1 &&& (255 : Int32)) = b) (e2 : (y2 &&& (192 : Int32)) = (128 : Int32) ↔ 128 ≤ c.toInt ∧ c.toInt < 192) (e3 : (y3 &&& (192 : Int32)) = (128 : Int32) ↔ 128 ≤ d.toInt ∧ d.toInt < 192) : own_sl1 y0 = own_spec a.toInt b.toInt c.toInt d.toInt 1 := by
  have k0 : ∀ x : Int32, own_L x = (0 : Int32) ↔ (x.toInt < 194 ∨ 245 ≤ x.toInt) := fun x => by
    rw [own_LS]; repeat' split
    all_goals simp
    all_goals omega
  have k2 : ∀ x : Int32, own_L x = (2 : Int32) ↔ (194 ≤ x.toInt ∧ x.toInt < 224) := fun x => by
    rw [own_LS]; repeat' split
    all_goals simp
    all_goals omega
  have k3 : ∀ x : Int32, own_L x = (3 : Int32) ↔ (224 ≤ x.toInt ∧ x.toInt < 240) := fun x => by
    rw [own_LS]; repeat' split
    all_goals simp
    all_goals omega
  have L := own_loS a
  have H := own_hiS a
  unfold own_sl1
  simp only [e0, e1, e2, e3, k0, k2, k3, Int32.lt_iff_toInt_lt]
  clear k0 k2 k3 e0 e1 e2 e3
  generalize (own_lo a).toInt = lo at *
  generalize (own_hi a).toInt = hi at *
  generalize a.toInt = a at *
  generalize b.toInt = b at *
  generalize c.toInt = c at *
  generalize d.toInt = d at *
  repeat' split
  all_goals apply own_specT
  all_goals first
    | exact Or.inr (Or.inr (Or.inr ⟨rfl, by omega, by omega, by omega⟩))
    | exact Or.inl ⟨rfl, by omega⟩
    | exact Or.inr (Or.inl ⟨rfl, by omega⟩)
    | exact Or.inr (Or.inr (Or.inl ⟨rfl, by omega⟩))
theorem own_plain1 (b0 b1 b2 b3 : Int32) : own_sl1 (b0.toInt8.toInt32) = own_ex (b0 &&& (255 : Int32)) (b1 &&& (255 : Int32)) (b2 &&& (255 : Int32)) (b3 &&& (255 : Int32)) (1 : Int32) := by
  have r := fun x : Int32 => own_rng x
  rw [own_exS _ _ _ _ _ (r _) (r _) (r _) (r _)]
  exact own_slS1 (b0.toInt8.toInt32) (b1.toInt8.toInt32) (b2.toInt8.toInt32) (b3.toInt8.toInt32) _ _ _ _ (r _) (r _) (r _) (r _) (own_t _) (own_t _) (own_c192 _) (own_c192 _)
set_option maxHeartbeats 4000000 in
theorem own_slS2 (y0 y1 y2 y3 a b c d : Int32) (ha : 0 ≤ a.toInt ∧ a.toInt < 256) (hb : 0 ≤ b.toInt ∧ b.toInt < 256) (hc : 0 ≤ c.toInt ∧ c.toInt < 256) (hd : 0 ≤ d.toInt ∧ d.toInt < 256) (e0 : (y0 &&& (255 : Int32)) = a) (e1 : (y1 &&& (255 : Int32)) = b) (e2 : (y2 &&& (192 : Int32)) = (128 : Int32) ↔ 128 ≤ c.toInt ∧ c.toInt < 192) (e3 : (y3 &&& (192 : Int32)) = (128 : Int32) ↔ 128 ≤ d.toInt ∧ d.toInt < 192) : own_sl2 y0 y1 = own_spec a.toInt b.toInt c.toInt d.toInt 2 := by
  have k0 : ∀ x : Int32, own_L x = (0 : Int32) ↔ (x.toInt < 194 ∨ 245 ≤ x.toInt) := fun x => by
    rw [own_LS]; repeat' split
    all_goals simp
    all_goals omega
  have k2 : ∀ x : Int32, own_L x = (2 : Int32) ↔ (194 ≤ x.toInt ∧ x.toInt < 224) := fun x => by
    rw [own_LS]; repeat' split
    all_goals simp
    all_goals omega
  have k3 : ∀ x : Int32, own_L x = (3 : Int32) ↔ (224 ≤ x.toInt ∧ x.toInt < 240) := fun x => by
    rw [own_LS]; repeat' split
    all_goals simp
    all_goals omega
  have L := own_loS a
  have H := own_hiS a
  unfold own_sl2
  simp only [e0, e1, e2, e3, k0, k2, k3, Int32.lt_iff_toInt_lt]
  clear k0 k2 k3 e0 e1 e2 e3
  generalize (own_lo a).toInt = lo at *
  generalize (own_hi a).toInt = hi at *
  generalize a.toInt = a at *
  generalize b.toInt = b at *
  generalize c.toInt = c at *
  generalize d.toInt = d at *
  repeat' split
  all_goals apply own_specT
  all_goals first
    | exact Or.inr (Or.inr (Or.inr ⟨rfl, by omega, by omega, by omega⟩))
    | exact Or.inl ⟨rfl, by omega⟩
    | exact Or.inr (Or.inl ⟨rfl, by omega⟩)
    | exact Or.inr (Or.inr (Or.inl ⟨rfl, by omega⟩))
theorem own_plain2 (b0 b1 b2 b3 : Int32) : own_sl2 (b0.toInt8.toInt32) (b1.toInt8.toInt32) = own_ex (b0 &&& (255 : Int32)) (b1 &&& (255 : Int32)) (b2 &&& (255 : Int32)) (b3 &&& (255 : Int32)) (2 : Int32) := by
  have r := fun x : Int32 => own_rng x
  rw [own_exS _ _ _ _ _ (r _) (r _) (r _) (r _)]
  exact own_slS2 (b0.toInt8.toInt32) (b1.toInt8.toInt32) (b2.toInt8.toInt32) (b3.toInt8.toInt32) _ _ _ _ (r _) (r _) (r _) (r _) (own_t _) (own_t _) (own_c192 _) (own_c192 _)
set_option maxHeartbeats 4000000 in
theorem own_slS3 (y0 y1 y2 y3 a b c d : Int32) (ha : 0 ≤ a.toInt ∧ a.toInt < 256) (hb : 0 ≤ b.toInt ∧ b.toInt < 256) (hc : 0 ≤ c.toInt ∧ c.toInt < 256) (hd : 0 ≤ d.toInt ∧ d.toInt < 256) (e0 : (y0 &&& (255 : Int32)) = a) (e1 : (y1 &&& (255 : Int32)) = b) (e2 : (y2 &&& (192 : Int32)) = (128 : Int32) ↔ 128 ≤ c.toInt ∧ c.toInt < 192) (e3 : (y3 &&& (192 : Int32)) = (128 : Int32) ↔ 128 ≤ d.toInt ∧ d.toInt < 192) : own_sl3 y0 y1 y2 = own_spec a.toInt b.toInt c.toInt d.toInt 3 := by
  have k0 : ∀ x : Int32, own_L x = (0 : Int32) ↔ (x.toInt < 194 ∨ 245 ≤ x.toInt) := fun x => by
    rw [own_LS]; repeat' split
    all_goals simp
    all_goals omega
  have k2 : ∀ x : Int32, own_L x = (2 : Int32) ↔ (194 ≤ x.toInt ∧ x.toInt < 224) := fun x => by
    rw [own_LS]; repeat' split
    all_goals simp
    all_goals omega
  have k3 : ∀ x : Int32, own_L x = (3 : Int32) ↔ (224 ≤ x.toInt ∧ x.toInt < 240) := fun x => by
    rw [own_LS]; repeat' split
    all_goals simp
    all_goals omega
  have L := own_loS a
  have H := own_hiS a
  unfold own_sl3
  simp only [e0, e1, e2, e3, k0, k2, k3, Int32.lt_iff_toInt_lt]
  clear k0 k2 k3 e0 e1 e2 e3
  generalize (own_lo a).toInt = lo at *
  generalize (own_hi a).toInt = hi at *
  generalize a.toInt = a at *
  generalize b.toInt = b at *
  generalize c.toInt = c at *
  generalize d.toInt = d at *
  repeat' split
  all_goals apply own_specT
  all_goals first
    | exact Or.inr (Or.inr (Or.inr ⟨rfl, by omega, by omega, by omega⟩))
    | exact Or.inl ⟨rfl, by omega⟩
    | exact Or.inr (Or.inl ⟨rfl, by omega⟩)
    | exact Or.inr (Or.inr (Or.inl ⟨rfl, by omega⟩))
theorem own_plain3 (b0 b1 b2 b3 : Int32) : own_sl3 (b0.toInt8.toInt32) (b1.toInt8.toInt32) (b2.toInt8.toInt32) = own_ex (b0 &&& (255 : Int32)) (b1 &&& (255 : Int32)) (b2 &&& (255 : Int32)) (b3 &&& (255 : Int32)) (3 : Int32) := by
  have r := fun x : Int32 => own_rng x
  rw [own_exS _ _ _ _ _ (r _) (r _) (r _) (r _)]
  exact own_slS3 (b0.toInt8.toInt32) (b1.toInt8.toInt32) (b2.toInt8.toInt32) (b3.toInt8.toInt32) _ _ _ _ (r _) (r _) (r _) (r _) (own_t _) (own_t _) (own_c192 _) (own_c192 _)
set_option maxHeartbeats 4000000 in
theorem own_slS4 (y0 y1 y2 y3 a b c d : Int32) (ha : 0 ≤ a.toInt ∧ a.toInt < 256) (hb : 0 ≤ b.toInt ∧ b.toInt < 256) (hc : 0 ≤ c.toInt ∧ c.toInt < 256) (hd : 0 ≤ d.toInt ∧ d.toInt < 256) (e0 : (y0 &&& (255 : Int32)) = a) (e1 : (y1 &&& (255 : Int32)) = b) (e2 : (y2 &&& (192 : Int32)) = (128 : Int32) ↔ 128 ≤ c.toInt ∧ c.toInt < 192) (e3 : (y3 &&& (192 : Int32)) = (128 : Int32) ↔ 128 ≤ d.toInt ∧ d.toInt < 192) : own_sl4 y0 y1 y2 y3 = own_spec a.toInt b.toInt c.toInt d.toInt 4 := by
  have k0 : ∀ x : Int32, own_L x = (0 : Int32) ↔ (x.toInt < 194 ∨ 245 ≤ x.toInt) := fun x => by
    rw [own_LS]; repeat' split
    all_goals simp
    all_goals omega
  have k2 : ∀ x : Int32, own_L x = (2 : Int32) ↔ (194 ≤ x.toInt ∧ x.toInt < 224) := fun x => by
    rw [own_LS]; repeat' split
    all_goals simp
    all_goals omega
  have k3 : ∀ x : Int32, own_L x = (3 : Int32) ↔ (224 ≤ x.toInt ∧ x.toInt < 240) := fun x => by
    rw [own_LS]; repeat' split
    all_goals simp
    all_goals omega
  have L := own_loS a
  have H := own_hiS a
  unfold own_sl4
  simp only [e0, e1, e2, e3, k0, k2, k3, Int32.lt_iff_toInt_lt]
  clear k0 k2 k3 e0 e1 e2 e3
  generalize (own_lo a).toInt = lo at *
  generalize (own_hi a).toInt = hi at *
  generalize a.toInt = a at *
  generalize b.toInt = b at *
  generalize c.toInt = c at *
  generalize d.toInt = d at *
  repeat' split
  all_goals apply own_specT
  all_goals first
    | exact Or.inr (Or.inr (Or.inr ⟨rfl, by omega, by omega, by omega⟩))
    | exact Or.inl ⟨rfl, by omega⟩
    | exact Or.inr (Or.inl ⟨rfl, by omega⟩)
    | exact Or.inr (Or.inr (Or.inl ⟨rfl, by omega⟩))
theorem own_plain4 (b0 b1 b2 b3 : Int32) : own_sl4 (b0.toInt8.toInt32) (b1.toInt8.toInt32) (b2.toInt8.toInt32) (b3.toInt8.toInt32) = own_ex (b0 &&& (255 : Int32)) (b1 &&& (255 : Int32)) (b2 &&& (255 : Int32)) (b3 &&& (255 : Int32)) (4 : Int32) := by
  have r := fun x : Int32 => own_rng x
  rw [own_exS _ _ _ _ _ (r _) (r _) (r _) (r _)]
  exact own_slS4 (b0.toInt8.toInt32) (b1.toInt8.toInt32) (b2.toInt8.toInt32) (b3.toInt8.toInt32) _ _ _ _ (r _) (r _) (r _) (r _) (own_t _) (own_t _) (own_c192 _) (own_c192 _)

theorem pd_1 : parseMethodDescriptor "(IIIII)I" = some ⟨[.int, .int, .int, .int, .int], some .int⟩ := by decide +kernel
theorem pd_2 : parseMethodDescriptor "([BI)I" = some ⟨[(.array .byte), .int], some .int⟩ := by decide +kernel
def Q0 (Z : State) (u0 : Int32) (u1 : Int32) (u2 : Int32) (u3 : Int32) (u4 : Int32) (u5 : Int32) (la : Addr) (lc : Cell) (sa : Addr) (sc : Cell) (ta : Addr) (tc : Cell) (h0 : Heap) (n0 : Nat) (v : Option Value) (h : Heap) (L : List Loc) : Prop := v = some (.int 1) ∧ Fr n0 L
theorem ef_rm0 (m : MethodId) (u0 : Int32) (u1 : Int32) (u2 : Int32) (u3 : Int32) (u4 : Int32) (u5 : Int32) : entryFrame m #[(.int u0), (.int u1), (.int u2), (.int u3), (.int u4), (.int u5)] maxLocals = mkF m 0 #[iv u0, iv u1, iv u2, iv u3, iv u4, iv u5, .unset, .unset, .unset, .unset, .unset, .unset, .unset, .unset, .unset] [] := by first | (simp [entryFrame, mkF, argsToLocals, Value.category, maxLocals]; done) | rfl
set_option maxRecDepth 65536 in
set_option maxHeartbeats 40000000 in
theorem rm0 (l : Launch) (Z : State) (a0 : Array Value) (hw : ∀ d ∈ tables_1, d.before a0 Z = true) (ws : List Jvm.Cond) (u0 : Int32) (u1 : Int32) (u2 : Int32) (u3 : Int32) (u4 : Int32) (u5 : Int32) (la : Addr) (lc : Cell) (sa : Addr) (sc : Cell) (ta : Addr) (tc : Cell) (h0 : Heap) (n0 : Nat) (Z0 : n0 ≤ h0.size) (hO : Old Z n0 h0) (hS1 : Sta Z Z.heap "com/example/rivanna/rivanna/core/json/Utf8" "LENGTH" "[I" (.ref la)) (hT1 : own_Tab Z la lc own_L) (hS2 : Sta Z Z.heap "com/example/rivanna/rivanna/core/json/Utf8" "SECOND_LOW" "[I" (.ref sa)) (hT2 : own_Tab Z sa sc own_lo) (hS3 : Sta Z Z.heap "com/example/rivanna/rivanna/core/json/Utf8" "SECOND_HIGH" "[I" (.ref ta)) (hT3 : own_Tab Z ta tc own_hi) :
    MetFree l x (head1 (Jvm.Cond.code x code maxLocals ret :: ws) room_1) (fun a U => a = #[(.int u0), (.int u1), (.int u2), (.int u3), (.int u4), (.int u5)] ∧ Z.Warmed39 U.vm ∧ U.heap = h0) (fun _ _ _ _ _ => True) (fun _ U o U' => ∃ v L, o = .returned v ∧ Q0 Z u0 u1 u2 u3 u4 u5 la lc sa sc ta tc h0 n0 v U'.heap L ∧ FrameEnd U o U' L room_1.cells room_1.slots) := by
  refine MetFree.of_bodySF (plainFor_of_name pn_0) hisR ?_
  intro p e s m args below meth c s₁ Bd hml0 hP hK
  obtain ⟨rfl, hZ, hh⟩ := hP
  have hx := Bd.exec
  have hby := Bd.bytes
  have hml : c.maxLocals = 15 := hml0
  have hown : s.vm.findClass "com/example/rivanna/rivanna/core/json/Utf8SequenceLengthPinLaw" = some m.cls := findClass_of_methodNamed Bd.named
  have hnm := (name_of_methodNamed Bd.named Bd.method).1
  have X0 : Stand p l e room_1 s m #[(.int u0), (.int u1), (.int u2), (.int u3), (.int u4), (.int u5)] below meth c s₁ [] 0 0 := Stand.of_body Bd
  have e0 : s₁.heap = h0 := by rw [← hh, Bd.state]; rfl
  have N0 := Fr.nil n0
  have S0 : ∀ t, Steps p.tables e below (s₁.setTop (mkF m 0 #[iv u0, iv u1, iv u2, iv u3, iv u4, iv u5, .unset, .unset, .unset, .unset, .unset, .unset, .unset, .unset, .unset] [])) t → Steps p.tables e below (s₁.setTop (entryFrame m #[(.int u0), (.int u1), (.int u2), (.int u3), (.int u4), (.int u5)] maxLocals)) t := fun t k => castTop (ef_rm0 m u0 u1 u2 u3 u4 u5) k
  have S1 : ∀ t, Steps p.tables e below (s₁.setTop (mkF m 16 #[iv u0, iv u1, iv u2, iv u3, iv u4, iv u5, iv (u5 &&& (1 : Int32)), iv ((1 : Int32) + (((u5.toUInt32 >>> ((1 : Int32) &&& 31).toUInt32).toInt32) &&& (3 : Int32))), .unset, .unset, .unset, .unset, .unset, .unset, .unset] [])) t → Steps p.tables e below (s₁.setTop (entryFrame m #[(.int u0), (.int u1), (.int u2), (.int u3), (.int u4), (.int u5)] maxLocals)) t := by
    intro t k
    refine S0 t ?_
    show Steps p.tables e below (s₁.setTop (mkF m 0 #[iv u0, iv u1, iv u2, iv u3, iv u4, iv u5, .unset, .unset, .unset, .unset, .unset, .unset, .unset, .unset, .unset] [])) _
    refine XS.iload X0.here hx rfl (hb hby at_0) rfl ?_
    show Steps p.tables e below (s₁.setTop (mkF m 2 #[iv u0, iv u1, iv u2, iv u3, iv u4, iv u5, .unset, .unset, .unset, .unset, .unset, .unset, .unset, .unset, .unset] [(.int u5)])) _
    refine XS.iconst X0.here hx rfl (hb hby at_2) ?_
    show Steps p.tables e below (s₁.setTop (mkF m 3 #[iv u0, iv u1, iv u2, iv u3, iv u4, iv u5, .unset, .unset, .unset, .unset, .unset, .unset, .unset, .unset, .unset] [(.int (1 : Int32)), (.int u5)])) _
    refine XS.iand X0.here hx rfl (hb hby at_3) rfl ?_
    show Steps p.tables e below (s₁.setTop (mkF m 4 #[iv u0, iv u1, iv u2, iv u3, iv u4, iv u5, .unset, .unset, .unset, .unset, .unset, .unset, .unset, .unset, .unset] [(.int (u5 &&& (1 : Int32)))])) _
    refine XS.istore X0.here hx rfl (hb hby at_4) rfl (l' := #[iv u0, iv u1, iv u2, iv u3, iv u4, iv u5, iv (u5 &&& (1 : Int32)), .unset, .unset, .unset, .unset, .unset, .unset, .unset, .unset]) rfl ?_
    show Steps p.tables e below (s₁.setTop (mkF m 6 #[iv u0, iv u1, iv u2, iv u3, iv u4, iv u5, iv (u5 &&& (1 : Int32)), .unset, .unset, .unset, .unset, .unset, .unset, .unset, .unset] [])) _
    refine XS.iconst X0.here hx rfl (hb hby at_6) ?_
    show Steps p.tables e below (s₁.setTop (mkF m 7 #[iv u0, iv u1, iv u2, iv u3, iv u4, iv u5, iv (u5 &&& (1 : Int32)), .unset, .unset, .unset, .unset, .unset, .unset, .unset, .unset] [(.int (1 : Int32))])) _
    refine XS.iload X0.here hx rfl (hb hby at_7) rfl ?_
    show Steps p.tables e below (s₁.setTop (mkF m 9 #[iv u0, iv u1, iv u2, iv u3, iv u4, iv u5, iv (u5 &&& (1 : Int32)), .unset, .unset, .unset, .unset, .unset, .unset, .unset, .unset] [(.int u5), (.int (1 : Int32))])) _
    refine XS.iconst X0.here hx rfl (hb hby at_9) ?_
    show Steps p.tables e below (s₁.setTop (mkF m 10 #[iv u0, iv u1, iv u2, iv u3, iv u4, iv u5, iv (u5 &&& (1 : Int32)), .unset, .unset, .unset, .unset, .unset, .unset, .unset, .unset] [(.int (1 : Int32)), (.int u5), (.int (1 : Int32))])) _
    refine XS.iushr X0.here hx rfl (hb hby at_10) rfl ?_
    show Steps p.tables e below (s₁.setTop (mkF m 11 #[iv u0, iv u1, iv u2, iv u3, iv u4, iv u5, iv (u5 &&& (1 : Int32)), .unset, .unset, .unset, .unset, .unset, .unset, .unset, .unset] [(.int ((u5.toUInt32 >>> ((1 : Int32) &&& 31).toUInt32).toInt32)), (.int (1 : Int32))])) _
    refine XS.iconst X0.here hx rfl (hb hby at_11) ?_
    show Steps p.tables e below (s₁.setTop (mkF m 12 #[iv u0, iv u1, iv u2, iv u3, iv u4, iv u5, iv (u5 &&& (1 : Int32)), .unset, .unset, .unset, .unset, .unset, .unset, .unset, .unset] [(.int (3 : Int32)), (.int ((u5.toUInt32 >>> ((1 : Int32) &&& 31).toUInt32).toInt32)), (.int (1 : Int32))])) _
    refine XS.iand X0.here hx rfl (hb hby at_12) rfl ?_
    show Steps p.tables e below (s₁.setTop (mkF m 13 #[iv u0, iv u1, iv u2, iv u3, iv u4, iv u5, iv (u5 &&& (1 : Int32)), .unset, .unset, .unset, .unset, .unset, .unset, .unset, .unset] [(.int (((u5.toUInt32 >>> ((1 : Int32) &&& 31).toUInt32).toInt32) &&& (3 : Int32))), (.int (1 : Int32))])) _
    refine XS.iadd X0.here hx rfl (hb hby at_13) rfl ?_
    show Steps p.tables e below (s₁.setTop (mkF m 14 #[iv u0, iv u1, iv u2, iv u3, iv u4, iv u5, iv (u5 &&& (1 : Int32)), .unset, .unset, .unset, .unset, .unset, .unset, .unset, .unset] [(.int ((1 : Int32) + (((u5.toUInt32 >>> ((1 : Int32) &&& 31).toUInt32).toInt32) &&& (3 : Int32))))])) _
    refine XS.istore X0.here hx rfl (hb hby at_14) rfl (l' := #[iv u0, iv u1, iv u2, iv u3, iv u4, iv u5, iv (u5 &&& (1 : Int32)), iv ((1 : Int32) + (((u5.toUInt32 >>> ((1 : Int32) &&& 31).toUInt32).toInt32) &&& (3 : Int32))), .unset, .unset, .unset, .unset, .unset, .unset, .unset]) rfl ?_
    exact k
  rcases own_st u5 with hs | hs
  · skip
    rw [hs] at S1
    rcases own_av u5 with hv | hv | hv | hv
    · skip
      rw [hv] at S1
      obtain ⟨T2, h2, k2, X2, e2, E2, A2, st2⟩ := newP X0 hx hZ (hw _ (List.mem_of_getElem? (i := 0) rfl)) e0 (g := (mkF m 25 #[iv u0, iv u1, iv u2, iv u3, iv u4, iv u5, iv (0 : Int32), iv (1 : Int32), iv (1 : Int32), .unset, .unset, .unset, .unset, .unset, .unset] [(.int (1 : Int32))])) rfl (hb hby at_25) rfl (by decide) (cap := 1) (by decide) (by decide) (by decide) (by decide)
      obtain ⟨b2, g2⟩ : ∃ z, z = h0.size := ⟨_, rfl⟩
      rw [← g2] at A2 st2
      have ge_b2 : n0 ≤ b2 := Nat.le_trans Z0 (Nat.le_of_eq g2.symm)
      have Od3 := hO.ext E2
      have V2 : Arv Z h2 b2 k2 .byte (1 : Int32) [(.int (0 : Int32))] (.int (0 : Int32)) := (Arv.new A2 (by decide)).pad (pad_rep [] (.int (0 : Int32)) 1)
      have Z2 : n0 ≤ h2.size := Nat.le_trans Z0 E2.1
      obtain ⟨cl4, Ar4, qa4, Sa4, Na4, Ha4, Ga4⟩ := id V2
      have hin4 : ¬ ((0 : Int32) < 0 ∨ cl4.slots.size ≤ ((0 : Int32)).toNatClampNeg) := inb_of Sa4 ⟨by decide, by decide⟩
      obtain ⟨T5, h5, X5, e5, W5, st5⟩ := stB X2 hx hZ e2 Ar4 (j := (0 : Int32)) hin4 (g := (mkF m 34 #[iv u0, iv u1, iv u2, iv u3, iv u4, iv u5, iv (0 : Int32), iv (1 : Int32), iv (1 : Int32), rv b2, .unset, .unset, .unset, .unset, .unset] [(.int (u0.toInt8.toInt32)), (.int (0 : Int32)), (.ref b2)])) rfl rfl (hb hby at_34)
      rw [own_nb] at W5
      have V5 : Arv Z h5 b2 k2 .byte (1 : Int32) [(.int (u0.toInt8.toInt32))] (.int (0 : Int32)) := Arv.set Ar4 qa4 Sa4 Na4 Ha4 Ga4 (own_fb _) W5 0 rfl (Nat.le_of_ble_eq_true rfl)
      have N5 := Fr.snoc X5 N0 ge_b2
      have Z5 : n0 ≤ h5.size := Nat.le_trans Z2 (Keep.of_wr W5).1
      have Od6 := Od3.wr W5 ge_b2
      obtain ⟨_, _, ⟨T8, L8, k8, n8⟩, -, X8, ⟨Lc8, hQ8, l8, y8, z8⟩, st8⟩ := Jvm.LawKit.callS X5 hx (y := (⟨"com/example/rivanna/rivanna/core/json/Utf8SequenceLengthPinLaw", "expected", "(IIIII)I"⟩ : MethodName)) hown (mvT hZ (hw _ (List.mem_of_getElem? (i := 1) rfl))) (mvT hZ (hw _ (List.mem_of_getElem? (i := 2) rfl))) (mvT hZ (hw _ (List.mem_of_getElem? (i := 3) rfl))) (mvT hZ (hw _ (List.mem_of_getElem? (i := 4) rfl))) (by decide) (backOf (W := 0) (rmEx l Z a0 hw [] (u0 &&& (255 : Int32)) (u1 &&& (255 : Int32)) (u2 &&& (255 : Int32)) (u3 &&& (255 : Int32)) (1 : Int32) h5 n0 Z5) hZ (hw _ (List.mem_of_getElem? (i := 4) rfl)) (hw _ (List.mem_of_getElem? (i := 3) rfl)) (by decide) (by decide)) (g := (mkF m 159 #[iv u0, iv u1, iv u2, iv u3, iv u4, iv u5, iv (0 : Int32), iv (1 : Int32), iv (1 : Int32), rv b2, iv (u0 &&& (255 : Int32)), iv (u1 &&& (255 : Int32)), iv (u2 &&& (255 : Int32)), iv (u3 &&& (255 : Int32)), .unset] [(.int (1 : Int32)), (.int (u3 &&& (255 : Int32))), (.int (u2 &&& (255 : Int32))), (.int (u1 &&& (255 : Int32))), (.int (u0 &&& (255 : Int32)))])) rfl (by rw [hml]; rfl) (argsL := [(.int (u0 &&& (255 : Int32))), (.int (u1 &&& (255 : Int32))), (.int (u2 &&& (255 : Int32))), (.int (u3 &&& (255 : Int32))), (.int (1 : Int32))]) (rest := []) (lenOf pd_1 rfl) rfl (by show 2 * 0 + _ ≤ _; exact Nat.le_of_eq rfl) (hb hby at_159) (fun _ _ => ⟨rfl, e5, (by decide : 1 + 0 ≤ _), (by decide : 1 + 0 ≤ _)⟩)
      dsimp only [Pt.U, Pt.locs, Pt.cells, Pt.slots] at X8 l8 y8 z8 st8 hQ8
      subst y8 z8
      obtain ⟨rfl, Nq8, eq8⟩ := hQ8
      have N8 : Fr n0 L8 := by rw [l8]; exact Fr.app N5 Nq8
      obtain ⟨_, _, ⟨T9, L9, k9, n9⟩, -, X9, ⟨Lc9, hQ9, l9, y9, z9⟩, st9⟩ := Jvm.LawKit.callS X8 hx (y := (⟨"com/example/rivanna/rivanna/core/json/Utf8", "sequenceLength", "([BI)I"⟩ : MethodName)) hown (mvT hZ (hw _ (List.mem_of_getElem? (i := 5) rfl))) (mvT hZ (hw _ (List.mem_of_getElem? (i := 6) rfl))) (mvT hZ (hw _ (List.mem_of_getElem? (i := 7) rfl))) (mvT hZ (hw _ (List.mem_of_getElem? (i := 8) rfl))) (by decide) (backOf (W := 0) (rmSL01 l Z a0 hw [] b2 k2 (u0.toInt8.toInt32) la lc sa sc ta tc h5 n0 Z5 V5 Od6 hS1 hT1 hS2 hT2 hS3 hT3) hZ (hw _ (List.mem_of_getElem? (i := 8) rfl)) (hw _ (List.mem_of_getElem? (i := 7) rfl)) (by decide) (by decide)) (g := (mkF m 168 #[iv u0, iv u1, iv u2, iv u3, iv u4, iv u5, iv (0 : Int32), iv (1 : Int32), iv (1 : Int32), rv b2, iv (u0 &&& (255 : Int32)), iv (u1 &&& (255 : Int32)), iv (u2 &&& (255 : Int32)), iv (u3 &&& (255 : Int32)), iv (own_ex (u0 &&& (255 : Int32)) (u1 &&& (255 : Int32)) (u2 &&& (255 : Int32)) (u3 &&& (255 : Int32)) (1 : Int32))] [(.int (0 : Int32)), (.ref b2)])) rfl (by rw [hml]; rfl) (argsL := [(.ref b2), (.int (0 : Int32))]) (rest := []) (lenOf pd_2 rfl) rfl (by show 2 * 0 + _ ≤ _; exact Nat.le_of_eq rfl) (hb hby at_168) (fun _ _ => ⟨rfl, eq8, (by decide : 1 + 0 ≤ _), (by decide : 1 + 0 ≤ _)⟩)
      dsimp only [Pt.U, Pt.locs, Pt.cells, Pt.slots] at X9 l9 y9 z9 st9 hQ9
      subst y9 z9
      obtain ⟨rfl, Nq9, eq9⟩ := hQ9
      have N9 : Fr n0 L9 := by rw [l9]; exact Fr.app N8 Nq9
      obtain ⟨fs, hr, hrun, hended, hW, hsame⟩ := X9.leave (v := some (.int (1 : Int32))) (fun h => by rw [Bd.returns] at h; cases h)
      refine ⟨_, _, S1 _ ?_, hrun, hended, _, _, rfl, ?_, ⟨_, rfl⟩, hW, hsame.mono (by decide) (by decide)⟩
      · skip
        show Steps p.tables e below (s₁.setTop (mkF m 16 #[iv u0, iv u1, iv u2, iv u3, iv u4, iv u5, iv (0 : Int32), iv (1 : Int32), .unset, .unset, .unset, .unset, .unset, .unset, .unset] [])) _
        refine XS.iload X0.here hx rfl (hb hby at_16) rfl ?_
        show Steps p.tables e below (s₁.setTop (mkF m 18 #[iv u0, iv u1, iv u2, iv u3, iv u4, iv u5, iv (0 : Int32), iv (1 : Int32), .unset, .unset, .unset, .unset, .unset, .unset, .unset] [(.int (0 : Int32))])) _
        refine XS.iload X0.here hx rfl (hb hby at_18) rfl ?_
        show Steps p.tables e below (s₁.setTop (mkF m 20 #[iv u0, iv u1, iv u2, iv u3, iv u4, iv u5, iv (0 : Int32), iv (1 : Int32), .unset, .unset, .unset, .unset, .unset, .unset, .unset] [(.int (1 : Int32)), (.int (0 : Int32))])) _
        refine XS.iadd X0.here hx rfl (hb hby at_20) rfl ?_
        show Steps p.tables e below (s₁.setTop (mkF m 21 #[iv u0, iv u1, iv u2, iv u3, iv u4, iv u5, iv (0 : Int32), iv (1 : Int32), .unset, .unset, .unset, .unset, .unset, .unset, .unset] [(.int (1 : Int32))])) _
        refine XS.istore X0.here hx rfl (hb hby at_21) rfl (l' := #[iv u0, iv u1, iv u2, iv u3, iv u4, iv u5, iv (0 : Int32), iv (1 : Int32), iv (1 : Int32), .unset, .unset, .unset, .unset, .unset, .unset]) rfl ?_
        show Steps p.tables e below (s₁.setTop (mkF m 23 #[iv u0, iv u1, iv u2, iv u3, iv u4, iv u5, iv (0 : Int32), iv (1 : Int32), iv (1 : Int32), .unset, .unset, .unset, .unset, .unset, .unset] [])) _
        refine XS.iload X0.here hx rfl (hb hby at_23) rfl ?_
        show Steps p.tables e below (s₁.setTop (mkF m 25 #[iv u0, iv u1, iv u2, iv u3, iv u4, iv u5, iv (0 : Int32), iv (1 : Int32), iv (1 : Int32), .unset, .unset, .unset, .unset, .unset, .unset] [(.int (1 : Int32))])) _
        refine st2 _ ?_
        show Steps p.tables e below (T2.setTop (mkF m 27 #[iv u0, iv u1, iv u2, iv u3, iv u4, iv u5, iv (0 : Int32), iv (1 : Int32), iv (1 : Int32), .unset, .unset, .unset, .unset, .unset, .unset] [(.ref b2)])) _
        refine XS.astore X2.here hx rfl (hb hby at_27) rfl rfl (l' := #[iv u0, iv u1, iv u2, iv u3, iv u4, iv u5, iv (0 : Int32), iv (1 : Int32), iv (1 : Int32), rv b2, .unset, .unset, .unset, .unset, .unset]) rfl ?_
        show Steps p.tables e below (T2.setTop (mkF m 29 #[iv u0, iv u1, iv u2, iv u3, iv u4, iv u5, iv (0 : Int32), iv (1 : Int32), iv (1 : Int32), rv b2, .unset, .unset, .unset, .unset, .unset] [])) _
        refine XS.aload X2.here hx rfl (hb hby at_29) rfl rfl ?_
        show Steps p.tables e below (T2.setTop (mkF m 31 #[iv u0, iv u1, iv u2, iv u3, iv u4, iv u5, iv (0 : Int32), iv (1 : Int32), iv (1 : Int32), rv b2, .unset, .unset, .unset, .unset, .unset] [(.ref b2)])) _
        refine XS.iconst X2.here hx rfl (hb hby at_31) ?_
        show Steps p.tables e below (T2.setTop (mkF m 32 #[iv u0, iv u1, iv u2, iv u3, iv u4, iv u5, iv (0 : Int32), iv (1 : Int32), iv (1 : Int32), rv b2, .unset, .unset, .unset, .unset, .unset] [(.int (0 : Int32)), (.ref b2)])) _
        refine XS.iloadN X2.here hx rfl (hb hby at_32) rfl ?_
        show Steps p.tables e below (T2.setTop (mkF m 33 #[iv u0, iv u1, iv u2, iv u3, iv u4, iv u5, iv (0 : Int32), iv (1 : Int32), iv (1 : Int32), rv b2, .unset, .unset, .unset, .unset, .unset] [(.int u0), (.int (0 : Int32)), (.ref b2)])) _
        refine XS.i2b X2.here hx rfl (hb hby at_33) rfl ?_
        show Steps p.tables e below (T2.setTop (mkF m 34 #[iv u0, iv u1, iv u2, iv u3, iv u4, iv u5, iv (0 : Int32), iv (1 : Int32), iv (1 : Int32), rv b2, .unset, .unset, .unset, .unset, .unset] [(.int (u0.toInt8.toInt32)), (.int (0 : Int32)), (.ref b2)])) _
        refine st5 _ ?_
        show Steps p.tables e below (T5.setTop (mkF m 35 #[iv u0, iv u1, iv u2, iv u3, iv u4, iv u5, iv (0 : Int32), iv (1 : Int32), iv (1 : Int32), rv b2, .unset, .unset, .unset, .unset, .unset] [])) _
        refine XS.iload X5.here hx rfl (hb hby at_35) rfl ?_
        show Steps p.tables e below (T5.setTop (mkF m 37 #[iv u0, iv u1, iv u2, iv u3, iv u4, iv u5, iv (0 : Int32), iv (1 : Int32), iv (1 : Int32), rv b2, .unset, .unset, .unset, .unset, .unset] [(.int (1 : Int32))])) _
        refine XS.iconst X5.here hx rfl (hb hby at_37) ?_
        show Steps p.tables e below (T5.setTop (mkF m 38 #[iv u0, iv u1, iv u2, iv u3, iv u4, iv u5, iv (0 : Int32), iv (1 : Int32), iv (1 : Int32), rv b2, .unset, .unset, .unset, .unset, .unset] [(.int (1 : Int32)), (.int (1 : Int32))])) _
        refine XS.icmpYes X5.here hx rfl (pc0 := 38) (pc' := 47) rfl (hb hby at_38) rfl (flt (by decide : ¬ ((1 : Int32) < (1 : Int32)))).2.2.2 (by decide) (by decide) ?_
        show Steps p.tables e below (T5.setTop (mkF m 47 #[iv u0, iv u1, iv u2, iv u3, iv u4, iv u5, iv (0 : Int32), iv (1 : Int32), iv (1 : Int32), rv b2, .unset, .unset, .unset, .unset, .unset] [])) _
        refine XS.iload X5.here hx rfl (hb hby at_47) rfl ?_
        show Steps p.tables e below (T5.setTop (mkF m 49 #[iv u0, iv u1, iv u2, iv u3, iv u4, iv u5, iv (0 : Int32), iv (1 : Int32), iv (1 : Int32), rv b2, .unset, .unset, .unset, .unset, .unset] [(.int (1 : Int32))])) _
        refine XS.iconst X5.here hx rfl (hb hby at_49) ?_
        show Steps p.tables e below (T5.setTop (mkF m 50 #[iv u0, iv u1, iv u2, iv u3, iv u4, iv u5, iv (0 : Int32), iv (1 : Int32), iv (1 : Int32), rv b2, .unset, .unset, .unset, .unset, .unset] [(.int (2 : Int32)), (.int (1 : Int32))])) _
        refine XS.icmpYes X5.here hx rfl (pc0 := 50) (pc' := 59) rfl (hb hby at_50) rfl (flt (by decide : ¬ ((2 : Int32) < (1 : Int32)))).2.2.2 (by decide) (by decide) ?_
        show Steps p.tables e below (T5.setTop (mkF m 59 #[iv u0, iv u1, iv u2, iv u3, iv u4, iv u5, iv (0 : Int32), iv (1 : Int32), iv (1 : Int32), rv b2, .unset, .unset, .unset, .unset, .unset] [])) _
        refine XS.iload X5.here hx rfl (hb hby at_59) rfl ?_
        show Steps p.tables e below (T5.setTop (mkF m 61 #[iv u0, iv u1, iv u2, iv u3, iv u4, iv u5, iv (0 : Int32), iv (1 : Int32), iv (1 : Int32), rv b2, .unset, .unset, .unset, .unset, .unset] [(.int (1 : Int32))])) _
        refine XS.iconst X5.here hx rfl (hb hby at_61) ?_
        show Steps p.tables e below (T5.setTop (mkF m 62 #[iv u0, iv u1, iv u2, iv u3, iv u4, iv u5, iv (0 : Int32), iv (1 : Int32), iv (1 : Int32), rv b2, .unset, .unset, .unset, .unset, .unset] [(.int (3 : Int32)), (.int (1 : Int32))])) _
        refine XS.icmpYes X5.here hx rfl (pc0 := 62) (pc' := 71) rfl (hb hby at_62) rfl (flt (by decide : ¬ ((3 : Int32) < (1 : Int32)))).2.2.2 (by decide) (by decide) ?_
        show Steps p.tables e below (T5.setTop (mkF m 71 #[iv u0, iv u1, iv u2, iv u3, iv u4, iv u5, iv (0 : Int32), iv (1 : Int32), iv (1 : Int32), rv b2, .unset, .unset, .unset, .unset, .unset] [])) _
        refine XS.iload X5.here hx rfl (hb hby at_71) rfl ?_
        show Steps p.tables e below (T5.setTop (mkF m 73 #[iv u0, iv u1, iv u2, iv u3, iv u4, iv u5, iv (0 : Int32), iv (1 : Int32), iv (1 : Int32), rv b2, .unset, .unset, .unset, .unset, .unset] [(.int (1 : Int32))])) _
        refine XS.iconst X5.here hx rfl (hb hby at_73) ?_
        show Steps p.tables e below (T5.setTop (mkF m 74 #[iv u0, iv u1, iv u2, iv u3, iv u4, iv u5, iv (0 : Int32), iv (1 : Int32), iv (1 : Int32), rv b2, .unset, .unset, .unset, .unset, .unset] [(.int (4 : Int32)), (.int (1 : Int32))])) _
        refine XS.icmpYes X5.here hx rfl (pc0 := 74) (pc' := 84) rfl (hb hby at_74) rfl (flt (by decide : ¬ ((4 : Int32) < (1 : Int32)))).2.2.2 (by decide) (by decide) ?_
        show Steps p.tables e below (T5.setTop (mkF m 84 #[iv u0, iv u1, iv u2, iv u3, iv u4, iv u5, iv (0 : Int32), iv (1 : Int32), iv (1 : Int32), rv b2, .unset, .unset, .unset, .unset, .unset] [])) _
        refine XS.iload X5.here hx rfl (hb hby at_84) rfl ?_
        show Steps p.tables e below (T5.setTop (mkF m 86 #[iv u0, iv u1, iv u2, iv u3, iv u4, iv u5, iv (0 : Int32), iv (1 : Int32), iv (1 : Int32), rv b2, .unset, .unset, .unset, .unset, .unset] [(.int (0 : Int32))])) _
        refine XS.ifNo X5.here hx rfl (hb hby at_86) rfl ((if0 _ _).trans (teq (by decide : (0 : Int32) = (0 : Int32))).2) ?_
        show Steps p.tables e below (T5.setTop (mkF m 89 #[iv u0, iv u1, iv u2, iv u3, iv u4, iv u5, iv (0 : Int32), iv (1 : Int32), iv (1 : Int32), rv b2, .unset, .unset, .unset, .unset, .unset] [])) _
        refine XS.iloadN X5.here hx rfl (hb hby at_89) rfl ?_
        show Steps p.tables e below (T5.setTop (mkF m 90 #[iv u0, iv u1, iv u2, iv u3, iv u4, iv u5, iv (0 : Int32), iv (1 : Int32), iv (1 : Int32), rv b2, .unset, .unset, .unset, .unset, .unset] [(.int u0)])) _
        refine XS.goto X5.here hx rfl (pc0 := 90) (pc' := 94) rfl (hb hby at_90) (by decide) (by decide) ?_
        show Steps p.tables e below (T5.setTop (mkF m 94 #[iv u0, iv u1, iv u2, iv u3, iv u4, iv u5, iv (0 : Int32), iv (1 : Int32), iv (1 : Int32), rv b2, .unset, .unset, .unset, .unset, .unset] [(.int u0)])) _
        refine XS.sipush X5.here hx rfl (hb hby at_94) ?_
        show Steps p.tables e below (T5.setTop (mkF m 97 #[iv u0, iv u1, iv u2, iv u3, iv u4, iv u5, iv (0 : Int32), iv (1 : Int32), iv (1 : Int32), rv b2, .unset, .unset, .unset, .unset, .unset] [(.int (255 : Int32)), (.int u0)])) _
        refine XS.iand X5.here hx rfl (hb hby at_97) rfl ?_
        show Steps p.tables e below (T5.setTop (mkF m 98 #[iv u0, iv u1, iv u2, iv u3, iv u4, iv u5, iv (0 : Int32), iv (1 : Int32), iv (1 : Int32), rv b2, .unset, .unset, .unset, .unset, .unset] [(.int (u0 &&& (255 : Int32)))])) _
        refine XS.istore X5.here hx rfl (hb hby at_98) rfl (l' := #[iv u0, iv u1, iv u2, iv u3, iv u4, iv u5, iv (0 : Int32), iv (1 : Int32), iv (1 : Int32), rv b2, iv (u0 &&& (255 : Int32)), .unset, .unset, .unset, .unset]) rfl ?_
        show Steps p.tables e below (T5.setTop (mkF m 100 #[iv u0, iv u1, iv u2, iv u3, iv u4, iv u5, iv (0 : Int32), iv (1 : Int32), iv (1 : Int32), rv b2, iv (u0 &&& (255 : Int32)), .unset, .unset, .unset, .unset] [])) _
        refine XS.iload X5.here hx rfl (hb hby at_100) rfl ?_
        show Steps p.tables e below (T5.setTop (mkF m 102 #[iv u0, iv u1, iv u2, iv u3, iv u4, iv u5, iv (0 : Int32), iv (1 : Int32), iv (1 : Int32), rv b2, iv (u0 &&& (255 : Int32)), .unset, .unset, .unset, .unset] [(.int (0 : Int32))])) _
        refine XS.ifNo X5.here hx rfl (hb hby at_102) rfl ((if0 _ _).trans (teq (by decide : (0 : Int32) = (0 : Int32))).2) ?_
        show Steps p.tables e below (T5.setTop (mkF m 105 #[iv u0, iv u1, iv u2, iv u3, iv u4, iv u5, iv (0 : Int32), iv (1 : Int32), iv (1 : Int32), rv b2, iv (u0 &&& (255 : Int32)), .unset, .unset, .unset, .unset] [])) _
        refine XS.iloadN X5.here hx rfl (hb hby at_105) rfl ?_
        show Steps p.tables e below (T5.setTop (mkF m 106 #[iv u0, iv u1, iv u2, iv u3, iv u4, iv u5, iv (0 : Int32), iv (1 : Int32), iv (1 : Int32), rv b2, iv (u0 &&& (255 : Int32)), .unset, .unset, .unset, .unset] [(.int u1)])) _
        refine XS.goto X5.here hx rfl (pc0 := 106) (pc' := 110) rfl (hb hby at_106) (by decide) (by decide) ?_
        show Steps p.tables e below (T5.setTop (mkF m 110 #[iv u0, iv u1, iv u2, iv u3, iv u4, iv u5, iv (0 : Int32), iv (1 : Int32), iv (1 : Int32), rv b2, iv (u0 &&& (255 : Int32)), .unset, .unset, .unset, .unset] [(.int u1)])) _
        refine XS.sipush X5.here hx rfl (hb hby at_110) ?_
        show Steps p.tables e below (T5.setTop (mkF m 113 #[iv u0, iv u1, iv u2, iv u3, iv u4, iv u5, iv (0 : Int32), iv (1 : Int32), iv (1 : Int32), rv b2, iv (u0 &&& (255 : Int32)), .unset, .unset, .unset, .unset] [(.int (255 : Int32)), (.int u1)])) _
        refine XS.iand X5.here hx rfl (hb hby at_113) rfl ?_
        show Steps p.tables e below (T5.setTop (mkF m 114 #[iv u0, iv u1, iv u2, iv u3, iv u4, iv u5, iv (0 : Int32), iv (1 : Int32), iv (1 : Int32), rv b2, iv (u0 &&& (255 : Int32)), .unset, .unset, .unset, .unset] [(.int (u1 &&& (255 : Int32)))])) _
        refine XS.istore X5.here hx rfl (hb hby at_114) rfl (l' := #[iv u0, iv u1, iv u2, iv u3, iv u4, iv u5, iv (0 : Int32), iv (1 : Int32), iv (1 : Int32), rv b2, iv (u0 &&& (255 : Int32)), iv (u1 &&& (255 : Int32)), .unset, .unset, .unset]) rfl ?_
        show Steps p.tables e below (T5.setTop (mkF m 116 #[iv u0, iv u1, iv u2, iv u3, iv u4, iv u5, iv (0 : Int32), iv (1 : Int32), iv (1 : Int32), rv b2, iv (u0 &&& (255 : Int32)), iv (u1 &&& (255 : Int32)), .unset, .unset, .unset] [])) _
        refine XS.iload X5.here hx rfl (hb hby at_116) rfl ?_
        show Steps p.tables e below (T5.setTop (mkF m 118 #[iv u0, iv u1, iv u2, iv u3, iv u4, iv u5, iv (0 : Int32), iv (1 : Int32), iv (1 : Int32), rv b2, iv (u0 &&& (255 : Int32)), iv (u1 &&& (255 : Int32)), .unset, .unset, .unset] [(.int (0 : Int32))])) _
        refine XS.ifNo X5.here hx rfl (hb hby at_118) rfl ((if0 _ _).trans (teq (by decide : (0 : Int32) = (0 : Int32))).2) ?_
        show Steps p.tables e below (T5.setTop (mkF m 121 #[iv u0, iv u1, iv u2, iv u3, iv u4, iv u5, iv (0 : Int32), iv (1 : Int32), iv (1 : Int32), rv b2, iv (u0 &&& (255 : Int32)), iv (u1 &&& (255 : Int32)), .unset, .unset, .unset] [])) _
        refine XS.iloadN X5.here hx rfl (hb hby at_121) rfl ?_
        show Steps p.tables e below (T5.setTop (mkF m 122 #[iv u0, iv u1, iv u2, iv u3, iv u4, iv u5, iv (0 : Int32), iv (1 : Int32), iv (1 : Int32), rv b2, iv (u0 &&& (255 : Int32)), iv (u1 &&& (255 : Int32)), .unset, .unset, .unset] [(.int u2)])) _
        refine XS.goto X5.here hx rfl (pc0 := 122) (pc' := 126) rfl (hb hby at_122) (by decide) (by decide) ?_
        show Steps p.tables e below (T5.setTop (mkF m 126 #[iv u0, iv u1, iv u2, iv u3, iv u4, iv u5, iv (0 : Int32), iv (1 : Int32), iv (1 : Int32), rv b2, iv (u0 &&& (255 : Int32)), iv (u1 &&& (255 : Int32)), .unset, .unset, .unset] [(.int u2)])) _
        refine XS.sipush X5.here hx rfl (hb hby at_126) ?_
        show Steps p.tables e below (T5.setTop (mkF m 129 #[iv u0, iv u1, iv u2, iv u3, iv u4, iv u5, iv (0 : Int32), iv (1 : Int32), iv (1 : Int32), rv b2, iv (u0 &&& (255 : Int32)), iv (u1 &&& (255 : Int32)), .unset, .unset, .unset] [(.int (255 : Int32)), (.int u2)])) _
        refine XS.iand X5.here hx rfl (hb hby at_129) rfl ?_
        show Steps p.tables e below (T5.setTop (mkF m 130 #[iv u0, iv u1, iv u2, iv u3, iv u4, iv u5, iv (0 : Int32), iv (1 : Int32), iv (1 : Int32), rv b2, iv (u0 &&& (255 : Int32)), iv (u1 &&& (255 : Int32)), .unset, .unset, .unset] [(.int (u2 &&& (255 : Int32)))])) _
        refine XS.istore X5.here hx rfl (hb hby at_130) rfl (l' := #[iv u0, iv u1, iv u2, iv u3, iv u4, iv u5, iv (0 : Int32), iv (1 : Int32), iv (1 : Int32), rv b2, iv (u0 &&& (255 : Int32)), iv (u1 &&& (255 : Int32)), iv (u2 &&& (255 : Int32)), .unset, .unset]) rfl ?_
        show Steps p.tables e below (T5.setTop (mkF m 132 #[iv u0, iv u1, iv u2, iv u3, iv u4, iv u5, iv (0 : Int32), iv (1 : Int32), iv (1 : Int32), rv b2, iv (u0 &&& (255 : Int32)), iv (u1 &&& (255 : Int32)), iv (u2 &&& (255 : Int32)), .unset, .unset] [])) _
        refine XS.iload X5.here hx rfl (hb hby at_132) rfl ?_
        show Steps p.tables e below (T5.setTop (mkF m 134 #[iv u0, iv u1, iv u2, iv u3, iv u4, iv u5, iv (0 : Int32), iv (1 : Int32), iv (1 : Int32), rv b2, iv (u0 &&& (255 : Int32)), iv (u1 &&& (255 : Int32)), iv (u2 &&& (255 : Int32)), .unset, .unset] [(.int (0 : Int32))])) _
        refine XS.ifNo X5.here hx rfl (hb hby at_134) rfl ((if0 _ _).trans (teq (by decide : (0 : Int32) = (0 : Int32))).2) ?_
        show Steps p.tables e below (T5.setTop (mkF m 137 #[iv u0, iv u1, iv u2, iv u3, iv u4, iv u5, iv (0 : Int32), iv (1 : Int32), iv (1 : Int32), rv b2, iv (u0 &&& (255 : Int32)), iv (u1 &&& (255 : Int32)), iv (u2 &&& (255 : Int32)), .unset, .unset] [])) _
        refine XS.iloadN X5.here hx rfl (hb hby at_137) rfl ?_
        show Steps p.tables e below (T5.setTop (mkF m 138 #[iv u0, iv u1, iv u2, iv u3, iv u4, iv u5, iv (0 : Int32), iv (1 : Int32), iv (1 : Int32), rv b2, iv (u0 &&& (255 : Int32)), iv (u1 &&& (255 : Int32)), iv (u2 &&& (255 : Int32)), .unset, .unset] [(.int u3)])) _
        refine XS.goto X5.here hx rfl (pc0 := 138) (pc' := 143) rfl (hb hby at_138) (by decide) (by decide) ?_
        show Steps p.tables e below (T5.setTop (mkF m 143 #[iv u0, iv u1, iv u2, iv u3, iv u4, iv u5, iv (0 : Int32), iv (1 : Int32), iv (1 : Int32), rv b2, iv (u0 &&& (255 : Int32)), iv (u1 &&& (255 : Int32)), iv (u2 &&& (255 : Int32)), .unset, .unset] [(.int u3)])) _
        refine XS.sipush X5.here hx rfl (hb hby at_143) ?_
        show Steps p.tables e below (T5.setTop (mkF m 146 #[iv u0, iv u1, iv u2, iv u3, iv u4, iv u5, iv (0 : Int32), iv (1 : Int32), iv (1 : Int32), rv b2, iv (u0 &&& (255 : Int32)), iv (u1 &&& (255 : Int32)), iv (u2 &&& (255 : Int32)), .unset, .unset] [(.int (255 : Int32)), (.int u3)])) _
        refine XS.iand X5.here hx rfl (hb hby at_146) rfl ?_
        show Steps p.tables e below (T5.setTop (mkF m 147 #[iv u0, iv u1, iv u2, iv u3, iv u4, iv u5, iv (0 : Int32), iv (1 : Int32), iv (1 : Int32), rv b2, iv (u0 &&& (255 : Int32)), iv (u1 &&& (255 : Int32)), iv (u2 &&& (255 : Int32)), .unset, .unset] [(.int (u3 &&& (255 : Int32)))])) _
        refine XS.istore X5.here hx rfl (hb hby at_147) rfl (l' := #[iv u0, iv u1, iv u2, iv u3, iv u4, iv u5, iv (0 : Int32), iv (1 : Int32), iv (1 : Int32), rv b2, iv (u0 &&& (255 : Int32)), iv (u1 &&& (255 : Int32)), iv (u2 &&& (255 : Int32)), iv (u3 &&& (255 : Int32)), .unset]) rfl ?_
        show Steps p.tables e below (T5.setTop (mkF m 149 #[iv u0, iv u1, iv u2, iv u3, iv u4, iv u5, iv (0 : Int32), iv (1 : Int32), iv (1 : Int32), rv b2, iv (u0 &&& (255 : Int32)), iv (u1 &&& (255 : Int32)), iv (u2 &&& (255 : Int32)), iv (u3 &&& (255 : Int32)), .unset] [])) _
        refine XS.iload X5.here hx rfl (hb hby at_149) rfl ?_
        show Steps p.tables e below (T5.setTop (mkF m 151 #[iv u0, iv u1, iv u2, iv u3, iv u4, iv u5, iv (0 : Int32), iv (1 : Int32), iv (1 : Int32), rv b2, iv (u0 &&& (255 : Int32)), iv (u1 &&& (255 : Int32)), iv (u2 &&& (255 : Int32)), iv (u3 &&& (255 : Int32)), .unset] [(.int (u0 &&& (255 : Int32)))])) _
        refine XS.iload X5.here hx rfl (hb hby at_151) rfl ?_
        show Steps p.tables e below (T5.setTop (mkF m 153 #[iv u0, iv u1, iv u2, iv u3, iv u4, iv u5, iv (0 : Int32), iv (1 : Int32), iv (1 : Int32), rv b2, iv (u0 &&& (255 : Int32)), iv (u1 &&& (255 : Int32)), iv (u2 &&& (255 : Int32)), iv (u3 &&& (255 : Int32)), .unset] [(.int (u1 &&& (255 : Int32))), (.int (u0 &&& (255 : Int32)))])) _
        refine XS.iload X5.here hx rfl (hb hby at_153) rfl ?_
        show Steps p.tables e below (T5.setTop (mkF m 155 #[iv u0, iv u1, iv u2, iv u3, iv u4, iv u5, iv (0 : Int32), iv (1 : Int32), iv (1 : Int32), rv b2, iv (u0 &&& (255 : Int32)), iv (u1 &&& (255 : Int32)), iv (u2 &&& (255 : Int32)), iv (u3 &&& (255 : Int32)), .unset] [(.int (u2 &&& (255 : Int32))), (.int (u1 &&& (255 : Int32))), (.int (u0 &&& (255 : Int32)))])) _
        refine XS.iload X5.here hx rfl (hb hby at_155) rfl ?_
        show Steps p.tables e below (T5.setTop (mkF m 157 #[iv u0, iv u1, iv u2, iv u3, iv u4, iv u5, iv (0 : Int32), iv (1 : Int32), iv (1 : Int32), rv b2, iv (u0 &&& (255 : Int32)), iv (u1 &&& (255 : Int32)), iv (u2 &&& (255 : Int32)), iv (u3 &&& (255 : Int32)), .unset] [(.int (u3 &&& (255 : Int32))), (.int (u2 &&& (255 : Int32))), (.int (u1 &&& (255 : Int32))), (.int (u0 &&& (255 : Int32)))])) _
        refine XS.iload X5.here hx rfl (hb hby at_157) rfl ?_
        show Steps p.tables e below (T5.setTop (mkF m 159 #[iv u0, iv u1, iv u2, iv u3, iv u4, iv u5, iv (0 : Int32), iv (1 : Int32), iv (1 : Int32), rv b2, iv (u0 &&& (255 : Int32)), iv (u1 &&& (255 : Int32)), iv (u2 &&& (255 : Int32)), iv (u3 &&& (255 : Int32)), .unset] [(.int (1 : Int32)), (.int (u3 &&& (255 : Int32))), (.int (u2 &&& (255 : Int32))), (.int (u1 &&& (255 : Int32))), (.int (u0 &&& (255 : Int32)))])) _
        refine st8 _ ?_
        show Steps p.tables e below (T8.setTop (mkF m 162 #[iv u0, iv u1, iv u2, iv u3, iv u4, iv u5, iv (0 : Int32), iv (1 : Int32), iv (1 : Int32), rv b2, iv (u0 &&& (255 : Int32)), iv (u1 &&& (255 : Int32)), iv (u2 &&& (255 : Int32)), iv (u3 &&& (255 : Int32)), .unset] [(.int (own_ex (u0 &&& (255 : Int32)) (u1 &&& (255 : Int32)) (u2 &&& (255 : Int32)) (u3 &&& (255 : Int32)) (1 : Int32)))])) _
        refine XS.istore X8.here hx rfl (hb hby at_162) rfl (l' := #[iv u0, iv u1, iv u2, iv u3, iv u4, iv u5, iv (0 : Int32), iv (1 : Int32), iv (1 : Int32), rv b2, iv (u0 &&& (255 : Int32)), iv (u1 &&& (255 : Int32)), iv (u2 &&& (255 : Int32)), iv (u3 &&& (255 : Int32)), iv (own_ex (u0 &&& (255 : Int32)) (u1 &&& (255 : Int32)) (u2 &&& (255 : Int32)) (u3 &&& (255 : Int32)) (1 : Int32))]) rfl ?_
        show Steps p.tables e below (T8.setTop (mkF m 164 #[iv u0, iv u1, iv u2, iv u3, iv u4, iv u5, iv (0 : Int32), iv (1 : Int32), iv (1 : Int32), rv b2, iv (u0 &&& (255 : Int32)), iv (u1 &&& (255 : Int32)), iv (u2 &&& (255 : Int32)), iv (u3 &&& (255 : Int32)), iv (own_ex (u0 &&& (255 : Int32)) (u1 &&& (255 : Int32)) (u2 &&& (255 : Int32)) (u3 &&& (255 : Int32)) (1 : Int32))] [])) _
        refine XS.aload X8.here hx rfl (hb hby at_164) rfl rfl ?_
        show Steps p.tables e below (T8.setTop (mkF m 166 #[iv u0, iv u1, iv u2, iv u3, iv u4, iv u5, iv (0 : Int32), iv (1 : Int32), iv (1 : Int32), rv b2, iv (u0 &&& (255 : Int32)), iv (u1 &&& (255 : Int32)), iv (u2 &&& (255 : Int32)), iv (u3 &&& (255 : Int32)), iv (own_ex (u0 &&& (255 : Int32)) (u1 &&& (255 : Int32)) (u2 &&& (255 : Int32)) (u3 &&& (255 : Int32)) (1 : Int32))] [(.ref b2)])) _
        refine XS.iload X8.here hx rfl (hb hby at_166) rfl ?_
        show Steps p.tables e below (T8.setTop (mkF m 168 #[iv u0, iv u1, iv u2, iv u3, iv u4, iv u5, iv (0 : Int32), iv (1 : Int32), iv (1 : Int32), rv b2, iv (u0 &&& (255 : Int32)), iv (u1 &&& (255 : Int32)), iv (u2 &&& (255 : Int32)), iv (u3 &&& (255 : Int32)), iv (own_ex (u0 &&& (255 : Int32)) (u1 &&& (255 : Int32)) (u2 &&& (255 : Int32)) (u3 &&& (255 : Int32)) (1 : Int32))] [(.int (0 : Int32)), (.ref b2)])) _
        refine st9 _ ?_
        show Steps p.tables e below (T9.setTop (mkF m 171 #[iv u0, iv u1, iv u2, iv u3, iv u4, iv u5, iv (0 : Int32), iv (1 : Int32), iv (1 : Int32), rv b2, iv (u0 &&& (255 : Int32)), iv (u1 &&& (255 : Int32)), iv (u2 &&& (255 : Int32)), iv (u3 &&& (255 : Int32)), iv (own_ex (u0 &&& (255 : Int32)) (u1 &&& (255 : Int32)) (u2 &&& (255 : Int32)) (u3 &&& (255 : Int32)) (1 : Int32))] [(.int (own_sl1 (u0.toInt8.toInt32)))])) _
        refine XS.iload X9.here hx rfl (hb hby at_171) rfl ?_
        show Steps p.tables e below (T9.setTop (mkF m 173 #[iv u0, iv u1, iv u2, iv u3, iv u4, iv u5, iv (0 : Int32), iv (1 : Int32), iv (1 : Int32), rv b2, iv (u0 &&& (255 : Int32)), iv (u1 &&& (255 : Int32)), iv (u2 &&& (255 : Int32)), iv (u3 &&& (255 : Int32)), iv (own_ex (u0 &&& (255 : Int32)) (u1 &&& (255 : Int32)) (u2 &&& (255 : Int32)) (u3 &&& (255 : Int32)) (1 : Int32))] [(.int (own_ex (u0 &&& (255 : Int32)) (u1 &&& (255 : Int32)) (u2 &&& (255 : Int32)) (u3 &&& (255 : Int32)) (1 : Int32))), (.int (own_sl1 (u0.toInt8.toInt32)))])) _
        refine XS.icmpNo X9.here hx rfl (hb hby at_173) rfl (teq (own_plain1 _ _ _ _)).2 ?_
        show Steps p.tables e below (T9.setTop (mkF m 176 #[iv u0, iv u1, iv u2, iv u3, iv u4, iv u5, iv (0 : Int32), iv (1 : Int32), iv (1 : Int32), rv b2, iv (u0 &&& (255 : Int32)), iv (u1 &&& (255 : Int32)), iv (u2 &&& (255 : Int32)), iv (u3 &&& (255 : Int32)), iv (own_ex (u0 &&& (255 : Int32)) (u1 &&& (255 : Int32)) (u2 &&& (255 : Int32)) (u3 &&& (255 : Int32)) (1 : Int32))] [])) _
        refine XS.iconst X9.here hx rfl (hb hby at_176) ?_
        show Steps p.tables e below (T9.setTop (mkF m 177 #[iv u0, iv u1, iv u2, iv u3, iv u4, iv u5, iv (0 : Int32), iv (1 : Int32), iv (1 : Int32), rv b2, iv (u0 &&& (255 : Int32)), iv (u1 &&& (255 : Int32)), iv (u2 &&& (255 : Int32)), iv (u3 &&& (255 : Int32)), iv (own_ex (u0 &&& (255 : Int32)) (u1 &&& (255 : Int32)) (u2 &&& (255 : Int32)) (u3 &&& (255 : Int32)) (1 : Int32))] [(.int (1 : Int32))])) _
        refine XS.goto X9.here hx rfl (pc0 := 177) (pc' := 181) rfl (hb hby at_177) (by decide) (by decide) ?_
        show Steps p.tables e below (T9.setTop (mkF m 181 #[iv u0, iv u1, iv u2, iv u3, iv u4, iv u5, iv (0 : Int32), iv (1 : Int32), iv (1 : Int32), rv b2, iv (u0 &&& (255 : Int32)), iv (u1 &&& (255 : Int32)), iv (u2 &&& (255 : Int32)), iv (u3 &&& (255 : Int32)), iv (own_ex (u0 &&& (255 : Int32)) (u1 &&& (255 : Int32)) (u2 &&& (255 : Int32)) (u3 &&& (255 : Int32)) (1 : Int32))] [(.int (1 : Int32))])) _
        exact retN X9 hx (t := .boolean) Bd.returns (by simp) (hb hby at_181) hr
      · show Q0 Z u0 u1 u2 u3 u4 u5 la lc sa sc ta tc h0 n0 _ T9.heap _
        rw [eq9]
        exact ⟨rfl, N9⟩
    · skip
      rw [hv] at S1
      obtain ⟨T10, h10, k10, X10, e10, E10, A10, st10⟩ := newP X0 hx hZ (hw _ (List.mem_of_getElem? (i := 0) rfl)) e0 (g := (mkF m 25 #[iv u0, iv u1, iv u2, iv u3, iv u4, iv u5, iv (0 : Int32), iv (2 : Int32), iv (2 : Int32), .unset, .unset, .unset, .unset, .unset, .unset] [(.int (2 : Int32))])) rfl (hb hby at_25) rfl (by decide) (cap := 2) (by decide) (by decide) (by decide) (by decide)
      obtain ⟨b10, g10⟩ : ∃ z, z = h0.size := ⟨_, rfl⟩
      rw [← g10] at A10 st10
      have ge_b10 : n0 ≤ b10 := Nat.le_trans Z0 (Nat.le_of_eq g10.symm)
      have Od11 := hO.ext E10
      have V10 : Arv Z h10 b10 k10 .byte (2 : Int32) [(.int (0 : Int32)), (.int (0 : Int32))] (.int (0 : Int32)) := (Arv.new A10 (by decide)).pad (pad_rep [] (.int (0 : Int32)) 2)
      have Z10 : n0 ≤ h10.size := Nat.le_trans Z0 E10.1
      obtain ⟨cl12, Ar12, qa12, Sa12, Na12, Ha12, Ga12⟩ := id V10
      have hin12 : ¬ ((0 : Int32) < 0 ∨ cl12.slots.size ≤ ((0 : Int32)).toNatClampNeg) := inb_of Sa12 ⟨by decide, by decide⟩
      obtain ⟨T13, h13, X13, e13, W13, st13⟩ := stB X10 hx hZ e10 Ar12 (j := (0 : Int32)) hin12 (g := (mkF m 34 #[iv u0, iv u1, iv u2, iv u3, iv u4, iv u5, iv (0 : Int32), iv (2 : Int32), iv (2 : Int32), rv b10, .unset, .unset, .unset, .unset, .unset] [(.int (u0.toInt8.toInt32)), (.int (0 : Int32)), (.ref b10)])) rfl rfl (hb hby at_34)
      rw [own_nb] at W13
      have V13 : Arv Z h13 b10 k10 .byte (2 : Int32) [(.int (u0.toInt8.toInt32)), (.int (0 : Int32))] (.int (0 : Int32)) := Arv.set Ar12 qa12 Sa12 Na12 Ha12 Ga12 (own_fb _) W13 0 rfl (Nat.le_of_ble_eq_true rfl)
      have N13 := Fr.snoc X13 N0 ge_b10
      have Z13 : n0 ≤ h13.size := Nat.le_trans Z10 (Keep.of_wr W13).1
      have Od14 := Od11.wr W13 ge_b10
      obtain ⟨cl16, Ar16, qa16, Sa16, Na16, Ha16, Ga16⟩ := id V13
      have hin16 : ¬ ((1 : Int32) < 0 ∨ cl16.slots.size ≤ ((1 : Int32)).toNatClampNeg) := inb_of Sa16 ⟨by decide, by decide⟩
      obtain ⟨T17, h17, X17, e17, W17, st17⟩ := stB X13 hx hZ e13 Ar16 (j := (1 : Int32)) hin16 (g := (mkF m 46 #[iv u0, iv u1, iv u2, iv u3, iv u4, iv u5, iv (0 : Int32), iv (2 : Int32), iv (2 : Int32), rv b10, .unset, .unset, .unset, .unset, .unset] [(.int (u1.toInt8.toInt32)), (.int (1 : Int32)), (.ref b10)])) rfl rfl (hb hby at_46)
      rw [own_nb] at W17
      have V17 : Arv Z h17 b10 k10 .byte (2 : Int32) [(.int (u0.toInt8.toInt32)), (.int (u1.toInt8.toInt32))] (.int (0 : Int32)) := Arv.set Ar16 qa16 Sa16 Na16 Ha16 Ga16 (own_fb _) W17 1 rfl (Nat.le_of_ble_eq_true rfl)
      have N17 := Fr.snoc X17 N13 ge_b10
      have Z17 : n0 ≤ h17.size := Nat.le_trans Z13 (Keep.of_wr W17).1
      have Od18 := Od14.wr W17 ge_b10
      obtain ⟨_, _, ⟨T20, L20, k20, n20⟩, -, X20, ⟨Lc20, hQ20, l20, y20, z20⟩, st20⟩ := Jvm.LawKit.callS X17 hx (y := (⟨"com/example/rivanna/rivanna/core/json/Utf8SequenceLengthPinLaw", "expected", "(IIIII)I"⟩ : MethodName)) hown (mvT hZ (hw _ (List.mem_of_getElem? (i := 1) rfl))) (mvT hZ (hw _ (List.mem_of_getElem? (i := 2) rfl))) (mvT hZ (hw _ (List.mem_of_getElem? (i := 3) rfl))) (mvT hZ (hw _ (List.mem_of_getElem? (i := 4) rfl))) (by decide) (backOf (W := 0) (rmEx l Z a0 hw [] (u0 &&& (255 : Int32)) (u1 &&& (255 : Int32)) (u2 &&& (255 : Int32)) (u3 &&& (255 : Int32)) (2 : Int32) h17 n0 Z17) hZ (hw _ (List.mem_of_getElem? (i := 4) rfl)) (hw _ (List.mem_of_getElem? (i := 3) rfl)) (by decide) (by decide)) (g := (mkF m 159 #[iv u0, iv u1, iv u2, iv u3, iv u4, iv u5, iv (0 : Int32), iv (2 : Int32), iv (2 : Int32), rv b10, iv (u0 &&& (255 : Int32)), iv (u1 &&& (255 : Int32)), iv (u2 &&& (255 : Int32)), iv (u3 &&& (255 : Int32)), .unset] [(.int (2 : Int32)), (.int (u3 &&& (255 : Int32))), (.int (u2 &&& (255 : Int32))), (.int (u1 &&& (255 : Int32))), (.int (u0 &&& (255 : Int32)))])) rfl (by rw [hml]; rfl) (argsL := [(.int (u0 &&& (255 : Int32))), (.int (u1 &&& (255 : Int32))), (.int (u2 &&& (255 : Int32))), (.int (u3 &&& (255 : Int32))), (.int (2 : Int32))]) (rest := []) (lenOf pd_1 rfl) rfl (by show 2 * 0 + _ ≤ _; exact Nat.le_of_eq rfl) (hb hby at_159) (fun _ _ => ⟨rfl, e17, (by decide : 1 + 0 ≤ _), (by decide : 2 + 0 ≤ _)⟩)
      dsimp only [Pt.U, Pt.locs, Pt.cells, Pt.slots] at X20 l20 y20 z20 st20 hQ20
      subst y20 z20
      obtain ⟨rfl, Nq20, eq20⟩ := hQ20
      have N20 : Fr n0 L20 := by rw [l20]; exact Fr.app N17 Nq20
      obtain ⟨_, _, ⟨T21, L21, k21, n21⟩, -, X21, ⟨Lc21, hQ21, l21, y21, z21⟩, st21⟩ := Jvm.LawKit.callS X20 hx (y := (⟨"com/example/rivanna/rivanna/core/json/Utf8", "sequenceLength", "([BI)I"⟩ : MethodName)) hown (mvT hZ (hw _ (List.mem_of_getElem? (i := 5) rfl))) (mvT hZ (hw _ (List.mem_of_getElem? (i := 6) rfl))) (mvT hZ (hw _ (List.mem_of_getElem? (i := 7) rfl))) (mvT hZ (hw _ (List.mem_of_getElem? (i := 8) rfl))) (by decide) (backOf (W := 0) (rmSL02 l Z a0 hw [] b10 k10 (u0.toInt8.toInt32) (u1.toInt8.toInt32) la lc sa sc ta tc h17 n0 Z17 V17 Od18 hS1 hT1 hS2 hT2 hS3 hT3) hZ (hw _ (List.mem_of_getElem? (i := 8) rfl)) (hw _ (List.mem_of_getElem? (i := 7) rfl)) (by decide) (by decide)) (g := (mkF m 168 #[iv u0, iv u1, iv u2, iv u3, iv u4, iv u5, iv (0 : Int32), iv (2 : Int32), iv (2 : Int32), rv b10, iv (u0 &&& (255 : Int32)), iv (u1 &&& (255 : Int32)), iv (u2 &&& (255 : Int32)), iv (u3 &&& (255 : Int32)), iv (own_ex (u0 &&& (255 : Int32)) (u1 &&& (255 : Int32)) (u2 &&& (255 : Int32)) (u3 &&& (255 : Int32)) (2 : Int32))] [(.int (0 : Int32)), (.ref b10)])) rfl (by rw [hml]; rfl) (argsL := [(.ref b10), (.int (0 : Int32))]) (rest := []) (lenOf pd_2 rfl) rfl (by show 2 * 0 + _ ≤ _; exact Nat.le_of_eq rfl) (hb hby at_168) (fun _ _ => ⟨rfl, eq20, (by decide : 1 + 0 ≤ _), (by decide : 2 + 0 ≤ _)⟩)
      dsimp only [Pt.U, Pt.locs, Pt.cells, Pt.slots] at X21 l21 y21 z21 st21 hQ21
      subst y21 z21
      obtain ⟨rfl, Nq21, eq21⟩ := hQ21
      have N21 : Fr n0 L21 := by rw [l21]; exact Fr.app N20 Nq21
      obtain ⟨fs, hr, hrun, hended, hW, hsame⟩ := X21.leave (v := some (.int (1 : Int32))) (fun h => by rw [Bd.returns] at h; cases h)
      refine ⟨_, _, S1 _ ?_, hrun, hended, _, _, rfl, ?_, ⟨_, rfl⟩, hW, hsame.mono (by decide) (by decide)⟩
      · skip
        show Steps p.tables e below (s₁.setTop (mkF m 16 #[iv u0, iv u1, iv u2, iv u3, iv u4, iv u5, iv (0 : Int32), iv (2 : Int32), .unset, .unset, .unset, .unset, .unset, .unset, .unset] [])) _
        refine XS.iload X0.here hx rfl (hb hby at_16) rfl ?_
        show Steps p.tables e below (s₁.setTop (mkF m 18 #[iv u0, iv u1, iv u2, iv u3, iv u4, iv u5, iv (0 : Int32), iv (2 : Int32), .unset, .unset, .unset, .unset, .unset, .unset, .unset] [(.int (0 : Int32))])) _
        refine XS.iload X0.here hx rfl (hb hby at_18) rfl ?_
        show Steps p.tables e below (s₁.setTop (mkF m 20 #[iv u0, iv u1, iv u2, iv u3, iv u4, iv u5, iv (0 : Int32), iv (2 : Int32), .unset, .unset, .unset, .unset, .unset, .unset, .unset] [(.int (2 : Int32)), (.int (0 : Int32))])) _
        refine XS.iadd X0.here hx rfl (hb hby at_20) rfl ?_
        show Steps p.tables e below (s₁.setTop (mkF m 21 #[iv u0, iv u1, iv u2, iv u3, iv u4, iv u5, iv (0 : Int32), iv (2 : Int32), .unset, .unset, .unset, .unset, .unset, .unset, .unset] [(.int (2 : Int32))])) _
        refine XS.istore X0.here hx rfl (hb hby at_21) rfl (l' := #[iv u0, iv u1, iv u2, iv u3, iv u4, iv u5, iv (0 : Int32), iv (2 : Int32), iv (2 : Int32), .unset, .unset, .unset, .unset, .unset, .unset]) rfl ?_
        show Steps p.tables e below (s₁.setTop (mkF m 23 #[iv u0, iv u1, iv u2, iv u3, iv u4, iv u5, iv (0 : Int32), iv (2 : Int32), iv (2 : Int32), .unset, .unset, .unset, .unset, .unset, .unset] [])) _
        refine XS.iload X0.here hx rfl (hb hby at_23) rfl ?_
        show Steps p.tables e below (s₁.setTop (mkF m 25 #[iv u0, iv u1, iv u2, iv u3, iv u4, iv u5, iv (0 : Int32), iv (2 : Int32), iv (2 : Int32), .unset, .unset, .unset, .unset, .unset, .unset] [(.int (2 : Int32))])) _
        refine st10 _ ?_
        show Steps p.tables e below (T10.setTop (mkF m 27 #[iv u0, iv u1, iv u2, iv u3, iv u4, iv u5, iv (0 : Int32), iv (2 : Int32), iv (2 : Int32), .unset, .unset, .unset, .unset, .unset, .unset] [(.ref b10)])) _
        refine XS.astore X10.here hx rfl (hb hby at_27) rfl rfl (l' := #[iv u0, iv u1, iv u2, iv u3, iv u4, iv u5, iv (0 : Int32), iv (2 : Int32), iv (2 : Int32), rv b10, .unset, .unset, .unset, .unset, .unset]) rfl ?_
        show Steps p.tables e below (T10.setTop (mkF m 29 #[iv u0, iv u1, iv u2, iv u3, iv u4, iv u5, iv (0 : Int32), iv (2 : Int32), iv (2 : Int32), rv b10, .unset, .unset, .unset, .unset, .unset] [])) _
        refine XS.aload X10.here hx rfl (hb hby at_29) rfl rfl ?_
        show Steps p.tables e below (T10.setTop (mkF m 31 #[iv u0, iv u1, iv u2, iv u3, iv u4, iv u5, iv (0 : Int32), iv (2 : Int32), iv (2 : Int32), rv b10, .unset, .unset, .unset, .unset, .unset] [(.ref b10)])) _
        refine XS.iconst X10.here hx rfl (hb hby at_31) ?_
        show Steps p.tables e below (T10.setTop (mkF m 32 #[iv u0, iv u1, iv u2, iv u3, iv u4, iv u5, iv (0 : Int32), iv (2 : Int32), iv (2 : Int32), rv b10, .unset, .unset, .unset, .unset, .unset] [(.int (0 : Int32)), (.ref b10)])) _
        refine XS.iloadN X10.here hx rfl (hb hby at_32) rfl ?_
        show Steps p.tables e below (T10.setTop (mkF m 33 #[iv u0, iv u1, iv u2, iv u3, iv u4, iv u5, iv (0 : Int32), iv (2 : Int32), iv (2 : Int32), rv b10, .unset, .unset, .unset, .unset, .unset] [(.int u0), (.int (0 : Int32)), (.ref b10)])) _
        refine XS.i2b X10.here hx rfl (hb hby at_33) rfl ?_
        show Steps p.tables e below (T10.setTop (mkF m 34 #[iv u0, iv u1, iv u2, iv u3, iv u4, iv u5, iv (0 : Int32), iv (2 : Int32), iv (2 : Int32), rv b10, .unset, .unset, .unset, .unset, .unset] [(.int (u0.toInt8.toInt32)), (.int (0 : Int32)), (.ref b10)])) _
        refine st13 _ ?_
        show Steps p.tables e below (T13.setTop (mkF m 35 #[iv u0, iv u1, iv u2, iv u3, iv u4, iv u5, iv (0 : Int32), iv (2 : Int32), iv (2 : Int32), rv b10, .unset, .unset, .unset, .unset, .unset] [])) _
        refine XS.iload X13.here hx rfl (hb hby at_35) rfl ?_
        show Steps p.tables e below (T13.setTop (mkF m 37 #[iv u0, iv u1, iv u2, iv u3, iv u4, iv u5, iv (0 : Int32), iv (2 : Int32), iv (2 : Int32), rv b10, .unset, .unset, .unset, .unset, .unset] [(.int (2 : Int32))])) _
        refine XS.iconst X13.here hx rfl (hb hby at_37) ?_
        show Steps p.tables e below (T13.setTop (mkF m 38 #[iv u0, iv u1, iv u2, iv u3, iv u4, iv u5, iv (0 : Int32), iv (2 : Int32), iv (2 : Int32), rv b10, .unset, .unset, .unset, .unset, .unset] [(.int (1 : Int32)), (.int (2 : Int32))])) _
        refine XS.icmpNo X13.here hx rfl (hb hby at_38) rfl (tlt (by decide : (1 : Int32) < (2 : Int32))).2.2.2 ?_
        show Steps p.tables e below (T13.setTop (mkF m 41 #[iv u0, iv u1, iv u2, iv u3, iv u4, iv u5, iv (0 : Int32), iv (2 : Int32), iv (2 : Int32), rv b10, .unset, .unset, .unset, .unset, .unset] [])) _
        refine XS.aload X13.here hx rfl (hb hby at_41) rfl rfl ?_
        show Steps p.tables e below (T13.setTop (mkF m 43 #[iv u0, iv u1, iv u2, iv u3, iv u4, iv u5, iv (0 : Int32), iv (2 : Int32), iv (2 : Int32), rv b10, .unset, .unset, .unset, .unset, .unset] [(.ref b10)])) _
        refine XS.iconst X13.here hx rfl (hb hby at_43) ?_
        show Steps p.tables e below (T13.setTop (mkF m 44 #[iv u0, iv u1, iv u2, iv u3, iv u4, iv u5, iv (0 : Int32), iv (2 : Int32), iv (2 : Int32), rv b10, .unset, .unset, .unset, .unset, .unset] [(.int (1 : Int32)), (.ref b10)])) _
        refine XS.iloadN X13.here hx rfl (hb hby at_44) rfl ?_
        show Steps p.tables e below (T13.setTop (mkF m 45 #[iv u0, iv u1, iv u2, iv u3, iv u4, iv u5, iv (0 : Int32), iv (2 : Int32), iv (2 : Int32), rv b10, .unset, .unset, .unset, .unset, .unset] [(.int u1), (.int (1 : Int32)), (.ref b10)])) _
        refine XS.i2b X13.here hx rfl (hb hby at_45) rfl ?_
        show Steps p.tables e below (T13.setTop (mkF m 46 #[iv u0, iv u1, iv u2, iv u3, iv u4, iv u5, iv (0 : Int32), iv (2 : Int32), iv (2 : Int32), rv b10, .unset, .unset, .unset, .unset, .unset] [(.int (u1.toInt8.toInt32)), (.int (1 : Int32)), (.ref b10)])) _
        refine st17 _ ?_
        show Steps p.tables e below (T17.setTop (mkF m 47 #[iv u0, iv u1, iv u2, iv u3, iv u4, iv u5, iv (0 : Int32), iv (2 : Int32), iv (2 : Int32), rv b10, .unset, .unset, .unset, .unset, .unset] [])) _
        refine XS.iload X17.here hx rfl (hb hby at_47) rfl ?_
        show Steps p.tables e below (T17.setTop (mkF m 49 #[iv u0, iv u1, iv u2, iv u3, iv u4, iv u5, iv (0 : Int32), iv (2 : Int32), iv (2 : Int32), rv b10, .unset, .unset, .unset, .unset, .unset] [(.int (2 : Int32))])) _
        refine XS.iconst X17.here hx rfl (hb hby at_49) ?_
        show Steps p.tables e below (T17.setTop (mkF m 50 #[iv u0, iv u1, iv u2, iv u3, iv u4, iv u5, iv (0 : Int32), iv (2 : Int32), iv (2 : Int32), rv b10, .unset, .unset, .unset, .unset, .unset] [(.int (2 : Int32)), (.int (2 : Int32))])) _
        refine XS.icmpYes X17.here hx rfl (pc0 := 50) (pc' := 59) rfl (hb hby at_50) rfl (flt (by decide : ¬ ((2 : Int32) < (2 : Int32)))).2.2.2 (by decide) (by decide) ?_
        show Steps p.tables e below (T17.setTop (mkF m 59 #[iv u0, iv u1, iv u2, iv u3, iv u4, iv u5, iv (0 : Int32), iv (2 : Int32), iv (2 : Int32), rv b10, .unset, .unset, .unset, .unset, .unset] [])) _
        refine XS.iload X17.here hx rfl (hb hby at_59) rfl ?_
        show Steps p.tables e below (T17.setTop (mkF m 61 #[iv u0, iv u1, iv u2, iv u3, iv u4, iv u5, iv (0 : Int32), iv (2 : Int32), iv (2 : Int32), rv b10, .unset, .unset, .unset, .unset, .unset] [(.int (2 : Int32))])) _
        refine XS.iconst X17.here hx rfl (hb hby at_61) ?_
        show Steps p.tables e below (T17.setTop (mkF m 62 #[iv u0, iv u1, iv u2, iv u3, iv u4, iv u5, iv (0 : Int32), iv (2 : Int32), iv (2 : Int32), rv b10, .unset, .unset, .unset, .unset, .unset] [(.int (3 : Int32)), (.int (2 : Int32))])) _
        refine XS.icmpYes X17.here hx rfl (pc0 := 62) (pc' := 71) rfl (hb hby at_62) rfl (flt (by decide : ¬ ((3 : Int32) < (2 : Int32)))).2.2.2 (by decide) (by decide) ?_
        show Steps p.tables e below (T17.setTop (mkF m 71 #[iv u0, iv u1, iv u2, iv u3, iv u4, iv u5, iv (0 : Int32), iv (2 : Int32), iv (2 : Int32), rv b10, .unset, .unset, .unset, .unset, .unset] [])) _
        refine XS.iload X17.here hx rfl (hb hby at_71) rfl ?_
        show Steps p.tables e below (T17.setTop (mkF m 73 #[iv u0, iv u1, iv u2, iv u3, iv u4, iv u5, iv (0 : Int32), iv (2 : Int32), iv (2 : Int32), rv b10, .unset, .unset, .unset, .unset, .unset] [(.int (2 : Int32))])) _
        refine XS.iconst X17.here hx rfl (hb hby at_73) ?_
        show Steps p.tables e below (T17.setTop (mkF m 74 #[iv u0, iv u1, iv u2, iv u3, iv u4, iv u5, iv (0 : Int32), iv (2 : Int32), iv (2 : Int32), rv b10, .unset, .unset, .unset, .unset, .unset] [(.int (4 : Int32)), (.int (2 : Int32))])) _
        refine XS.icmpYes X17.here hx rfl (pc0 := 74) (pc' := 84) rfl (hb hby at_74) rfl (flt (by decide : ¬ ((4 : Int32) < (2 : Int32)))).2.2.2 (by decide) (by decide) ?_
        show Steps p.tables e below (T17.setTop (mkF m 84 #[iv u0, iv u1, iv u2, iv u3, iv u4, iv u5, iv (0 : Int32), iv (2 : Int32), iv (2 : Int32), rv b10, .unset, .unset, .unset, .unset, .unset] [])) _
        refine XS.iload X17.here hx rfl (hb hby at_84) rfl ?_
        show Steps p.tables e below (T17.setTop (mkF m 86 #[iv u0, iv u1, iv u2, iv u3, iv u4, iv u5, iv (0 : Int32), iv (2 : Int32), iv (2 : Int32), rv b10, .unset, .unset, .unset, .unset, .unset] [(.int (0 : Int32))])) _
        refine XS.ifNo X17.here hx rfl (hb hby at_86) rfl ((if0 _ _).trans (teq (by decide : (0 : Int32) = (0 : Int32))).2) ?_
        show Steps p.tables e below (T17.setTop (mkF m 89 #[iv u0, iv u1, iv u2, iv u3, iv u4, iv u5, iv (0 : Int32), iv (2 : Int32), iv (2 : Int32), rv b10, .unset, .unset, .unset, .unset, .unset] [])) _
        refine XS.iloadN X17.here hx rfl (hb hby at_89) rfl ?_
        show Steps p.tables e below (T17.setTop (mkF m 90 #[iv u0, iv u1, iv u2, iv u3, iv u4, iv u5, iv (0 : Int32), iv (2 : Int32), iv (2 : Int32), rv b10, .unset, .unset, .unset, .unset, .unset] [(.int u0)])) _
        refine XS.goto X17.here hx rfl (pc0 := 90) (pc' := 94) rfl (hb hby at_90) (by decide) (by decide) ?_
        show Steps p.tables e below (T17.setTop (mkF m 94 #[iv u0, iv u1, iv u2, iv u3, iv u4, iv u5, iv (0 : Int32), iv (2 : Int32), iv (2 : Int32), rv b10, .unset, .unset, .unset, .unset, .unset] [(.int u0)])) _
        refine XS.sipush X17.here hx rfl (hb hby at_94) ?_
        show Steps p.tables e below (T17.setTop (mkF m 97 #[iv u0, iv u1, iv u2, iv u3, iv u4, iv u5, iv (0 : Int32), iv (2 : Int32), iv (2 : Int32), rv b10, .unset, .unset, .unset, .unset, .unset] [(.int (255 : Int32)), (.int u0)])) _
        refine XS.iand X17.here hx rfl (hb hby at_97) rfl ?_
        show Steps p.tables e below (T17.setTop (mkF m 98 #[iv u0, iv u1, iv u2, iv u3, iv u4, iv u5, iv (0 : Int32), iv (2 : Int32), iv (2 : Int32), rv b10, .unset, .unset, .unset, .unset, .unset] [(.int (u0 &&& (255 : Int32)))])) _
        refine XS.istore X17.here hx rfl (hb hby at_98) rfl (l' := #[iv u0, iv u1, iv u2, iv u3, iv u4, iv u5, iv (0 : Int32), iv (2 : Int32), iv (2 : Int32), rv b10, iv (u0 &&& (255 : Int32)), .unset, .unset, .unset, .unset]) rfl ?_
        show Steps p.tables e below (T17.setTop (mkF m 100 #[iv u0, iv u1, iv u2, iv u3, iv u4, iv u5, iv (0 : Int32), iv (2 : Int32), iv (2 : Int32), rv b10, iv (u0 &&& (255 : Int32)), .unset, .unset, .unset, .unset] [])) _
        refine XS.iload X17.here hx rfl (hb hby at_100) rfl ?_
        show Steps p.tables e below (T17.setTop (mkF m 102 #[iv u0, iv u1, iv u2, iv u3, iv u4, iv u5, iv (0 : Int32), iv (2 : Int32), iv (2 : Int32), rv b10, iv (u0 &&& (255 : Int32)), .unset, .unset, .unset, .unset] [(.int (0 : Int32))])) _
        refine XS.ifNo X17.here hx rfl (hb hby at_102) rfl ((if0 _ _).trans (teq (by decide : (0 : Int32) = (0 : Int32))).2) ?_
        show Steps p.tables e below (T17.setTop (mkF m 105 #[iv u0, iv u1, iv u2, iv u3, iv u4, iv u5, iv (0 : Int32), iv (2 : Int32), iv (2 : Int32), rv b10, iv (u0 &&& (255 : Int32)), .unset, .unset, .unset, .unset] [])) _
        refine XS.iloadN X17.here hx rfl (hb hby at_105) rfl ?_
        show Steps p.tables e below (T17.setTop (mkF m 106 #[iv u0, iv u1, iv u2, iv u3, iv u4, iv u5, iv (0 : Int32), iv (2 : Int32), iv (2 : Int32), rv b10, iv (u0 &&& (255 : Int32)), .unset, .unset, .unset, .unset] [(.int u1)])) _
        refine XS.goto X17.here hx rfl (pc0 := 106) (pc' := 110) rfl (hb hby at_106) (by decide) (by decide) ?_
        show Steps p.tables e below (T17.setTop (mkF m 110 #[iv u0, iv u1, iv u2, iv u3, iv u4, iv u5, iv (0 : Int32), iv (2 : Int32), iv (2 : Int32), rv b10, iv (u0 &&& (255 : Int32)), .unset, .unset, .unset, .unset] [(.int u1)])) _
        refine XS.sipush X17.here hx rfl (hb hby at_110) ?_
        show Steps p.tables e below (T17.setTop (mkF m 113 #[iv u0, iv u1, iv u2, iv u3, iv u4, iv u5, iv (0 : Int32), iv (2 : Int32), iv (2 : Int32), rv b10, iv (u0 &&& (255 : Int32)), .unset, .unset, .unset, .unset] [(.int (255 : Int32)), (.int u1)])) _
        refine XS.iand X17.here hx rfl (hb hby at_113) rfl ?_
        show Steps p.tables e below (T17.setTop (mkF m 114 #[iv u0, iv u1, iv u2, iv u3, iv u4, iv u5, iv (0 : Int32), iv (2 : Int32), iv (2 : Int32), rv b10, iv (u0 &&& (255 : Int32)), .unset, .unset, .unset, .unset] [(.int (u1 &&& (255 : Int32)))])) _
        refine XS.istore X17.here hx rfl (hb hby at_114) rfl (l' := #[iv u0, iv u1, iv u2, iv u3, iv u4, iv u5, iv (0 : Int32), iv (2 : Int32), iv (2 : Int32), rv b10, iv (u0 &&& (255 : Int32)), iv (u1 &&& (255 : Int32)), .unset, .unset, .unset]) rfl ?_
        show Steps p.tables e below (T17.setTop (mkF m 116 #[iv u0, iv u1, iv u2, iv u3, iv u4, iv u5, iv (0 : Int32), iv (2 : Int32), iv (2 : Int32), rv b10, iv (u0 &&& (255 : Int32)), iv (u1 &&& (255 : Int32)), .unset, .unset, .unset] [])) _
        refine XS.iload X17.here hx rfl (hb hby at_116) rfl ?_
        show Steps p.tables e below (T17.setTop (mkF m 118 #[iv u0, iv u1, iv u2, iv u3, iv u4, iv u5, iv (0 : Int32), iv (2 : Int32), iv (2 : Int32), rv b10, iv (u0 &&& (255 : Int32)), iv (u1 &&& (255 : Int32)), .unset, .unset, .unset] [(.int (0 : Int32))])) _
        refine XS.ifNo X17.here hx rfl (hb hby at_118) rfl ((if0 _ _).trans (teq (by decide : (0 : Int32) = (0 : Int32))).2) ?_
        show Steps p.tables e below (T17.setTop (mkF m 121 #[iv u0, iv u1, iv u2, iv u3, iv u4, iv u5, iv (0 : Int32), iv (2 : Int32), iv (2 : Int32), rv b10, iv (u0 &&& (255 : Int32)), iv (u1 &&& (255 : Int32)), .unset, .unset, .unset] [])) _
        refine XS.iloadN X17.here hx rfl (hb hby at_121) rfl ?_
        show Steps p.tables e below (T17.setTop (mkF m 122 #[iv u0, iv u1, iv u2, iv u3, iv u4, iv u5, iv (0 : Int32), iv (2 : Int32), iv (2 : Int32), rv b10, iv (u0 &&& (255 : Int32)), iv (u1 &&& (255 : Int32)), .unset, .unset, .unset] [(.int u2)])) _
        refine XS.goto X17.here hx rfl (pc0 := 122) (pc' := 126) rfl (hb hby at_122) (by decide) (by decide) ?_
        show Steps p.tables e below (T17.setTop (mkF m 126 #[iv u0, iv u1, iv u2, iv u3, iv u4, iv u5, iv (0 : Int32), iv (2 : Int32), iv (2 : Int32), rv b10, iv (u0 &&& (255 : Int32)), iv (u1 &&& (255 : Int32)), .unset, .unset, .unset] [(.int u2)])) _
        refine XS.sipush X17.here hx rfl (hb hby at_126) ?_
        show Steps p.tables e below (T17.setTop (mkF m 129 #[iv u0, iv u1, iv u2, iv u3, iv u4, iv u5, iv (0 : Int32), iv (2 : Int32), iv (2 : Int32), rv b10, iv (u0 &&& (255 : Int32)), iv (u1 &&& (255 : Int32)), .unset, .unset, .unset] [(.int (255 : Int32)), (.int u2)])) _
        refine XS.iand X17.here hx rfl (hb hby at_129) rfl ?_
        show Steps p.tables e below (T17.setTop (mkF m 130 #[iv u0, iv u1, iv u2, iv u3, iv u4, iv u5, iv (0 : Int32), iv (2 : Int32), iv (2 : Int32), rv b10, iv (u0 &&& (255 : Int32)), iv (u1 &&& (255 : Int32)), .unset, .unset, .unset] [(.int (u2 &&& (255 : Int32)))])) _
        refine XS.istore X17.here hx rfl (hb hby at_130) rfl (l' := #[iv u0, iv u1, iv u2, iv u3, iv u4, iv u5, iv (0 : Int32), iv (2 : Int32), iv (2 : Int32), rv b10, iv (u0 &&& (255 : Int32)), iv (u1 &&& (255 : Int32)), iv (u2 &&& (255 : Int32)), .unset, .unset]) rfl ?_
        show Steps p.tables e below (T17.setTop (mkF m 132 #[iv u0, iv u1, iv u2, iv u3, iv u4, iv u5, iv (0 : Int32), iv (2 : Int32), iv (2 : Int32), rv b10, iv (u0 &&& (255 : Int32)), iv (u1 &&& (255 : Int32)), iv (u2 &&& (255 : Int32)), .unset, .unset] [])) _
        refine XS.iload X17.here hx rfl (hb hby at_132) rfl ?_
        show Steps p.tables e below (T17.setTop (mkF m 134 #[iv u0, iv u1, iv u2, iv u3, iv u4, iv u5, iv (0 : Int32), iv (2 : Int32), iv (2 : Int32), rv b10, iv (u0 &&& (255 : Int32)), iv (u1 &&& (255 : Int32)), iv (u2 &&& (255 : Int32)), .unset, .unset] [(.int (0 : Int32))])) _
        refine XS.ifNo X17.here hx rfl (hb hby at_134) rfl ((if0 _ _).trans (teq (by decide : (0 : Int32) = (0 : Int32))).2) ?_
        show Steps p.tables e below (T17.setTop (mkF m 137 #[iv u0, iv u1, iv u2, iv u3, iv u4, iv u5, iv (0 : Int32), iv (2 : Int32), iv (2 : Int32), rv b10, iv (u0 &&& (255 : Int32)), iv (u1 &&& (255 : Int32)), iv (u2 &&& (255 : Int32)), .unset, .unset] [])) _
        refine XS.iloadN X17.here hx rfl (hb hby at_137) rfl ?_
        show Steps p.tables e below (T17.setTop (mkF m 138 #[iv u0, iv u1, iv u2, iv u3, iv u4, iv u5, iv (0 : Int32), iv (2 : Int32), iv (2 : Int32), rv b10, iv (u0 &&& (255 : Int32)), iv (u1 &&& (255 : Int32)), iv (u2 &&& (255 : Int32)), .unset, .unset] [(.int u3)])) _
        refine XS.goto X17.here hx rfl (pc0 := 138) (pc' := 143) rfl (hb hby at_138) (by decide) (by decide) ?_
        show Steps p.tables e below (T17.setTop (mkF m 143 #[iv u0, iv u1, iv u2, iv u3, iv u4, iv u5, iv (0 : Int32), iv (2 : Int32), iv (2 : Int32), rv b10, iv (u0 &&& (255 : Int32)), iv (u1 &&& (255 : Int32)), iv (u2 &&& (255 : Int32)), .unset, .unset] [(.int u3)])) _
        refine XS.sipush X17.here hx rfl (hb hby at_143) ?_
        show Steps p.tables e below (T17.setTop (mkF m 146 #[iv u0, iv u1, iv u2, iv u3, iv u4, iv u5, iv (0 : Int32), iv (2 : Int32), iv (2 : Int32), rv b10, iv (u0 &&& (255 : Int32)), iv (u1 &&& (255 : Int32)), iv (u2 &&& (255 : Int32)), .unset, .unset] [(.int (255 : Int32)), (.int u3)])) _
        refine XS.iand X17.here hx rfl (hb hby at_146) rfl ?_
        show Steps p.tables e below (T17.setTop (mkF m 147 #[iv u0, iv u1, iv u2, iv u3, iv u4, iv u5, iv (0 : Int32), iv (2 : Int32), iv (2 : Int32), rv b10, iv (u0 &&& (255 : Int32)), iv (u1 &&& (255 : Int32)), iv (u2 &&& (255 : Int32)), .unset, .unset] [(.int (u3 &&& (255 : Int32)))])) _
        refine XS.istore X17.here hx rfl (hb hby at_147) rfl (l' := #[iv u0, iv u1, iv u2, iv u3, iv u4, iv u5, iv (0 : Int32), iv (2 : Int32), iv (2 : Int32), rv b10, iv (u0 &&& (255 : Int32)), iv (u1 &&& (255 : Int32)), iv (u2 &&& (255 : Int32)), iv (u3 &&& (255 : Int32)), .unset]) rfl ?_
        show Steps p.tables e below (T17.setTop (mkF m 149 #[iv u0, iv u1, iv u2, iv u3, iv u4, iv u5, iv (0 : Int32), iv (2 : Int32), iv (2 : Int32), rv b10, iv (u0 &&& (255 : Int32)), iv (u1 &&& (255 : Int32)), iv (u2 &&& (255 : Int32)), iv (u3 &&& (255 : Int32)), .unset] [])) _
        refine XS.iload X17.here hx rfl (hb hby at_149) rfl ?_
        show Steps p.tables e below (T17.setTop (mkF m 151 #[iv u0, iv u1, iv u2, iv u3, iv u4, iv u5, iv (0 : Int32), iv (2 : Int32), iv (2 : Int32), rv b10, iv (u0 &&& (255 : Int32)), iv (u1 &&& (255 : Int32)), iv (u2 &&& (255 : Int32)), iv (u3 &&& (255 : Int32)), .unset] [(.int (u0 &&& (255 : Int32)))])) _
        refine XS.iload X17.here hx rfl (hb hby at_151) rfl ?_
        show Steps p.tables e below (T17.setTop (mkF m 153 #[iv u0, iv u1, iv u2, iv u3, iv u4, iv u5, iv (0 : Int32), iv (2 : Int32), iv (2 : Int32), rv b10, iv (u0 &&& (255 : Int32)), iv (u1 &&& (255 : Int32)), iv (u2 &&& (255 : Int32)), iv (u3 &&& (255 : Int32)), .unset] [(.int (u1 &&& (255 : Int32))), (.int (u0 &&& (255 : Int32)))])) _
        refine XS.iload X17.here hx rfl (hb hby at_153) rfl ?_
        show Steps p.tables e below (T17.setTop (mkF m 155 #[iv u0, iv u1, iv u2, iv u3, iv u4, iv u5, iv (0 : Int32), iv (2 : Int32), iv (2 : Int32), rv b10, iv (u0 &&& (255 : Int32)), iv (u1 &&& (255 : Int32)), iv (u2 &&& (255 : Int32)), iv (u3 &&& (255 : Int32)), .unset] [(.int (u2 &&& (255 : Int32))), (.int (u1 &&& (255 : Int32))), (.int (u0 &&& (255 : Int32)))])) _
        refine XS.iload X17.here hx rfl (hb hby at_155) rfl ?_
        show Steps p.tables e below (T17.setTop (mkF m 157 #[iv u0, iv u1, iv u2, iv u3, iv u4, iv u5, iv (0 : Int32), iv (2 : Int32), iv (2 : Int32), rv b10, iv (u0 &&& (255 : Int32)), iv (u1 &&& (255 : Int32)), iv (u2 &&& (255 : Int32)), iv (u3 &&& (255 : Int32)), .unset] [(.int (u3 &&& (255 : Int32))), (.int (u2 &&& (255 : Int32))), (.int (u1 &&& (255 : Int32))), (.int (u0 &&& (255 : Int32)))])) _
        refine XS.iload X17.here hx rfl (hb hby at_157) rfl ?_
        show Steps p.tables e below (T17.setTop (mkF m 159 #[iv u0, iv u1, iv u2, iv u3, iv u4, iv u5, iv (0 : Int32), iv (2 : Int32), iv (2 : Int32), rv b10, iv (u0 &&& (255 : Int32)), iv (u1 &&& (255 : Int32)), iv (u2 &&& (255 : Int32)), iv (u3 &&& (255 : Int32)), .unset] [(.int (2 : Int32)), (.int (u3 &&& (255 : Int32))), (.int (u2 &&& (255 : Int32))), (.int (u1 &&& (255 : Int32))), (.int (u0 &&& (255 : Int32)))])) _
        refine st20 _ ?_
        show Steps p.tables e below (T20.setTop (mkF m 162 #[iv u0, iv u1, iv u2, iv u3, iv u4, iv u5, iv (0 : Int32), iv (2 : Int32), iv (2 : Int32), rv b10, iv (u0 &&& (255 : Int32)), iv (u1 &&& (255 : Int32)), iv (u2 &&& (255 : Int32)), iv (u3 &&& (255 : Int32)), .unset] [(.int (own_ex (u0 &&& (255 : Int32)) (u1 &&& (255 : Int32)) (u2 &&& (255 : Int32)) (u3 &&& (255 : Int32)) (2 : Int32)))])) _
        refine XS.istore X20.here hx rfl (hb hby at_162) rfl (l' := #[iv u0, iv u1, iv u2, iv u3, iv u4, iv u5, iv (0 : Int32), iv (2 : Int32), iv (2 : Int32), rv b10, iv (u0 &&& (255 : Int32)), iv (u1 &&& (255 : Int32)), iv (u2 &&& (255 : Int32)), iv (u3 &&& (255 : Int32)), iv (own_ex (u0 &&& (255 : Int32)) (u1 &&& (255 : Int32)) (u2 &&& (255 : Int32)) (u3 &&& (255 : Int32)) (2 : Int32))]) rfl ?_
        show Steps p.tables e below (T20.setTop (mkF m 164 #[iv u0, iv u1, iv u2, iv u3, iv u4, iv u5, iv (0 : Int32), iv (2 : Int32), iv (2 : Int32), rv b10, iv (u0 &&& (255 : Int32)), iv (u1 &&& (255 : Int32)), iv (u2 &&& (255 : Int32)), iv (u3 &&& (255 : Int32)), iv (own_ex (u0 &&& (255 : Int32)) (u1 &&& (255 : Int32)) (u2 &&& (255 : Int32)) (u3 &&& (255 : Int32)) (2 : Int32))] [])) _
        refine XS.aload X20.here hx rfl (hb hby at_164) rfl rfl ?_
        show Steps p.tables e below (T20.setTop (mkF m 166 #[iv u0, iv u1, iv u2, iv u3, iv u4, iv u5, iv (0 : Int32), iv (2 : Int32), iv (2 : Int32), rv b10, iv (u0 &&& (255 : Int32)), iv (u1 &&& (255 : Int32)), iv (u2 &&& (255 : Int32)), iv (u3 &&& (255 : Int32)), iv (own_ex (u0 &&& (255 : Int32)) (u1 &&& (255 : Int32)) (u2 &&& (255 : Int32)) (u3 &&& (255 : Int32)) (2 : Int32))] [(.ref b10)])) _
        refine XS.iload X20.here hx rfl (hb hby at_166) rfl ?_
        show Steps p.tables e below (T20.setTop (mkF m 168 #[iv u0, iv u1, iv u2, iv u3, iv u4, iv u5, iv (0 : Int32), iv (2 : Int32), iv (2 : Int32), rv b10, iv (u0 &&& (255 : Int32)), iv (u1 &&& (255 : Int32)), iv (u2 &&& (255 : Int32)), iv (u3 &&& (255 : Int32)), iv (own_ex (u0 &&& (255 : Int32)) (u1 &&& (255 : Int32)) (u2 &&& (255 : Int32)) (u3 &&& (255 : Int32)) (2 : Int32))] [(.int (0 : Int32)), (.ref b10)])) _
        refine st21 _ ?_
        show Steps p.tables e below (T21.setTop (mkF m 171 #[iv u0, iv u1, iv u2, iv u3, iv u4, iv u5, iv (0 : Int32), iv (2 : Int32), iv (2 : Int32), rv b10, iv (u0 &&& (255 : Int32)), iv (u1 &&& (255 : Int32)), iv (u2 &&& (255 : Int32)), iv (u3 &&& (255 : Int32)), iv (own_ex (u0 &&& (255 : Int32)) (u1 &&& (255 : Int32)) (u2 &&& (255 : Int32)) (u3 &&& (255 : Int32)) (2 : Int32))] [(.int (own_sl2 (u0.toInt8.toInt32) (u1.toInt8.toInt32)))])) _
        refine XS.iload X21.here hx rfl (hb hby at_171) rfl ?_
        show Steps p.tables e below (T21.setTop (mkF m 173 #[iv u0, iv u1, iv u2, iv u3, iv u4, iv u5, iv (0 : Int32), iv (2 : Int32), iv (2 : Int32), rv b10, iv (u0 &&& (255 : Int32)), iv (u1 &&& (255 : Int32)), iv (u2 &&& (255 : Int32)), iv (u3 &&& (255 : Int32)), iv (own_ex (u0 &&& (255 : Int32)) (u1 &&& (255 : Int32)) (u2 &&& (255 : Int32)) (u3 &&& (255 : Int32)) (2 : Int32))] [(.int (own_ex (u0 &&& (255 : Int32)) (u1 &&& (255 : Int32)) (u2 &&& (255 : Int32)) (u3 &&& (255 : Int32)) (2 : Int32))), (.int (own_sl2 (u0.toInt8.toInt32) (u1.toInt8.toInt32)))])) _
        refine XS.icmpNo X21.here hx rfl (hb hby at_173) rfl (teq (own_plain2 _ _ _ _)).2 ?_
        show Steps p.tables e below (T21.setTop (mkF m 176 #[iv u0, iv u1, iv u2, iv u3, iv u4, iv u5, iv (0 : Int32), iv (2 : Int32), iv (2 : Int32), rv b10, iv (u0 &&& (255 : Int32)), iv (u1 &&& (255 : Int32)), iv (u2 &&& (255 : Int32)), iv (u3 &&& (255 : Int32)), iv (own_ex (u0 &&& (255 : Int32)) (u1 &&& (255 : Int32)) (u2 &&& (255 : Int32)) (u3 &&& (255 : Int32)) (2 : Int32))] [])) _
        refine XS.iconst X21.here hx rfl (hb hby at_176) ?_
        show Steps p.tables e below (T21.setTop (mkF m 177 #[iv u0, iv u1, iv u2, iv u3, iv u4, iv u5, iv (0 : Int32), iv (2 : Int32), iv (2 : Int32), rv b10, iv (u0 &&& (255 : Int32)), iv (u1 &&& (255 : Int32)), iv (u2 &&& (255 : Int32)), iv (u3 &&& (255 : Int32)), iv (own_ex (u0 &&& (255 : Int32)) (u1 &&& (255 : Int32)) (u2 &&& (255 : Int32)) (u3 &&& (255 : Int32)) (2 : Int32))] [(.int (1 : Int32))])) _
        refine XS.goto X21.here hx rfl (pc0 := 177) (pc' := 181) rfl (hb hby at_177) (by decide) (by decide) ?_
        show Steps p.tables e below (T21.setTop (mkF m 181 #[iv u0, iv u1, iv u2, iv u3, iv u4, iv u5, iv (0 : Int32), iv (2 : Int32), iv (2 : Int32), rv b10, iv (u0 &&& (255 : Int32)), iv (u1 &&& (255 : Int32)), iv (u2 &&& (255 : Int32)), iv (u3 &&& (255 : Int32)), iv (own_ex (u0 &&& (255 : Int32)) (u1 &&& (255 : Int32)) (u2 &&& (255 : Int32)) (u3 &&& (255 : Int32)) (2 : Int32))] [(.int (1 : Int32))])) _
        exact retN X21 hx (t := .boolean) Bd.returns (by simp) (hb hby at_181) hr
      · show Q0 Z u0 u1 u2 u3 u4 u5 la lc sa sc ta tc h0 n0 _ T21.heap _
        rw [eq21]
        exact ⟨rfl, N21⟩
    · skip
      rw [hv] at S1
      obtain ⟨T22, h22, k22, X22, e22, E22, A22, st22⟩ := newP X0 hx hZ (hw _ (List.mem_of_getElem? (i := 0) rfl)) e0 (g := (mkF m 25 #[iv u0, iv u1, iv u2, iv u3, iv u4, iv u5, iv (0 : Int32), iv (3 : Int32), iv (3 : Int32), .unset, .unset, .unset, .unset, .unset, .unset] [(.int (3 : Int32))])) rfl (hb hby at_25) rfl (by decide) (cap := 3) (by decide) (by decide) (by decide) (by decide)
      obtain ⟨b22, g22⟩ : ∃ z, z = h0.size := ⟨_, rfl⟩
      rw [← g22] at A22 st22
      have ge_b22 : n0 ≤ b22 := Nat.le_trans Z0 (Nat.le_of_eq g22.symm)
      have Od23 := hO.ext E22
      have V22 : Arv Z h22 b22 k22 .byte (3 : Int32) [(.int (0 : Int32)), (.int (0 : Int32)), (.int (0 : Int32))] (.int (0 : Int32)) := (Arv.new A22 (by decide)).pad (pad_rep [] (.int (0 : Int32)) 3)
      have Z22 : n0 ≤ h22.size := Nat.le_trans Z0 E22.1
      obtain ⟨cl24, Ar24, qa24, Sa24, Na24, Ha24, Ga24⟩ := id V22
      have hin24 : ¬ ((0 : Int32) < 0 ∨ cl24.slots.size ≤ ((0 : Int32)).toNatClampNeg) := inb_of Sa24 ⟨by decide, by decide⟩
      obtain ⟨T25, h25, X25, e25, W25, st25⟩ := stB X22 hx hZ e22 Ar24 (j := (0 : Int32)) hin24 (g := (mkF m 34 #[iv u0, iv u1, iv u2, iv u3, iv u4, iv u5, iv (0 : Int32), iv (3 : Int32), iv (3 : Int32), rv b22, .unset, .unset, .unset, .unset, .unset] [(.int (u0.toInt8.toInt32)), (.int (0 : Int32)), (.ref b22)])) rfl rfl (hb hby at_34)
      rw [own_nb] at W25
      have V25 : Arv Z h25 b22 k22 .byte (3 : Int32) [(.int (u0.toInt8.toInt32)), (.int (0 : Int32)), (.int (0 : Int32))] (.int (0 : Int32)) := Arv.set Ar24 qa24 Sa24 Na24 Ha24 Ga24 (own_fb _) W25 0 rfl (Nat.le_of_ble_eq_true rfl)
      have N25 := Fr.snoc X25 N0 ge_b22
      have Z25 : n0 ≤ h25.size := Nat.le_trans Z22 (Keep.of_wr W25).1
      have Od26 := Od23.wr W25 ge_b22
      obtain ⟨cl28, Ar28, qa28, Sa28, Na28, Ha28, Ga28⟩ := id V25
      have hin28 : ¬ ((1 : Int32) < 0 ∨ cl28.slots.size ≤ ((1 : Int32)).toNatClampNeg) := inb_of Sa28 ⟨by decide, by decide⟩
      obtain ⟨T29, h29, X29, e29, W29, st29⟩ := stB X25 hx hZ e25 Ar28 (j := (1 : Int32)) hin28 (g := (mkF m 46 #[iv u0, iv u1, iv u2, iv u3, iv u4, iv u5, iv (0 : Int32), iv (3 : Int32), iv (3 : Int32), rv b22, .unset, .unset, .unset, .unset, .unset] [(.int (u1.toInt8.toInt32)), (.int (1 : Int32)), (.ref b22)])) rfl rfl (hb hby at_46)
      rw [own_nb] at W29
      have V29 : Arv Z h29 b22 k22 .byte (3 : Int32) [(.int (u0.toInt8.toInt32)), (.int (u1.toInt8.toInt32)), (.int (0 : Int32))] (.int (0 : Int32)) := Arv.set Ar28 qa28 Sa28 Na28 Ha28 Ga28 (own_fb _) W29 1 rfl (Nat.le_of_ble_eq_true rfl)
      have N29 := Fr.snoc X29 N25 ge_b22
      have Z29 : n0 ≤ h29.size := Nat.le_trans Z25 (Keep.of_wr W29).1
      have Od30 := Od26.wr W29 ge_b22
      obtain ⟨cl32, Ar32, qa32, Sa32, Na32, Ha32, Ga32⟩ := id V29
      have hin32 : ¬ ((2 : Int32) < 0 ∨ cl32.slots.size ≤ ((2 : Int32)).toNatClampNeg) := inb_of Sa32 ⟨by decide, by decide⟩
      obtain ⟨T33, h33, X33, e33, W33, st33⟩ := stB X29 hx hZ e29 Ar32 (j := (2 : Int32)) hin32 (g := (mkF m 58 #[iv u0, iv u1, iv u2, iv u3, iv u4, iv u5, iv (0 : Int32), iv (3 : Int32), iv (3 : Int32), rv b22, .unset, .unset, .unset, .unset, .unset] [(.int (u2.toInt8.toInt32)), (.int (2 : Int32)), (.ref b22)])) rfl rfl (hb hby at_58)
      rw [own_nb] at W33
      have V33 : Arv Z h33 b22 k22 .byte (3 : Int32) [(.int (u0.toInt8.toInt32)), (.int (u1.toInt8.toInt32)), (.int (u2.toInt8.toInt32))] (.int (0 : Int32)) := Arv.set Ar32 qa32 Sa32 Na32 Ha32 Ga32 (own_fb _) W33 2 rfl (Nat.le_of_ble_eq_true rfl)
      have N33 := Fr.snoc X33 N29 ge_b22
      have Z33 : n0 ≤ h33.size := Nat.le_trans Z29 (Keep.of_wr W33).1
      have Od34 := Od30.wr W33 ge_b22
      obtain ⟨_, _, ⟨T36, L36, k36, n36⟩, -, X36, ⟨Lc36, hQ36, l36, y36, z36⟩, st36⟩ := Jvm.LawKit.callS X33 hx (y := (⟨"com/example/rivanna/rivanna/core/json/Utf8SequenceLengthPinLaw", "expected", "(IIIII)I"⟩ : MethodName)) hown (mvT hZ (hw _ (List.mem_of_getElem? (i := 1) rfl))) (mvT hZ (hw _ (List.mem_of_getElem? (i := 2) rfl))) (mvT hZ (hw _ (List.mem_of_getElem? (i := 3) rfl))) (mvT hZ (hw _ (List.mem_of_getElem? (i := 4) rfl))) (by decide) (backOf (W := 0) (rmEx l Z a0 hw [] (u0 &&& (255 : Int32)) (u1 &&& (255 : Int32)) (u2 &&& (255 : Int32)) (u3 &&& (255 : Int32)) (3 : Int32) h33 n0 Z33) hZ (hw _ (List.mem_of_getElem? (i := 4) rfl)) (hw _ (List.mem_of_getElem? (i := 3) rfl)) (by decide) (by decide)) (g := (mkF m 159 #[iv u0, iv u1, iv u2, iv u3, iv u4, iv u5, iv (0 : Int32), iv (3 : Int32), iv (3 : Int32), rv b22, iv (u0 &&& (255 : Int32)), iv (u1 &&& (255 : Int32)), iv (u2 &&& (255 : Int32)), iv (u3 &&& (255 : Int32)), .unset] [(.int (3 : Int32)), (.int (u3 &&& (255 : Int32))), (.int (u2 &&& (255 : Int32))), (.int (u1 &&& (255 : Int32))), (.int (u0 &&& (255 : Int32)))])) rfl (by rw [hml]; rfl) (argsL := [(.int (u0 &&& (255 : Int32))), (.int (u1 &&& (255 : Int32))), (.int (u2 &&& (255 : Int32))), (.int (u3 &&& (255 : Int32))), (.int (3 : Int32))]) (rest := []) (lenOf pd_1 rfl) rfl (by show 2 * 0 + _ ≤ _; exact Nat.le_of_eq rfl) (hb hby at_159) (fun _ _ => ⟨rfl, e33, (by decide : 1 + 0 ≤ _), (by decide : 3 + 0 ≤ _)⟩)
      dsimp only [Pt.U, Pt.locs, Pt.cells, Pt.slots] at X36 l36 y36 z36 st36 hQ36
      subst y36 z36
      obtain ⟨rfl, Nq36, eq36⟩ := hQ36
      have N36 : Fr n0 L36 := by rw [l36]; exact Fr.app N33 Nq36
      obtain ⟨_, _, ⟨T37, L37, k37, n37⟩, -, X37, ⟨Lc37, hQ37, l37, y37, z37⟩, st37⟩ := Jvm.LawKit.callS X36 hx (y := (⟨"com/example/rivanna/rivanna/core/json/Utf8", "sequenceLength", "([BI)I"⟩ : MethodName)) hown (mvT hZ (hw _ (List.mem_of_getElem? (i := 5) rfl))) (mvT hZ (hw _ (List.mem_of_getElem? (i := 6) rfl))) (mvT hZ (hw _ (List.mem_of_getElem? (i := 7) rfl))) (mvT hZ (hw _ (List.mem_of_getElem? (i := 8) rfl))) (by decide) (backOf (W := 0) (rmSL03 l Z a0 hw [] b22 k22 (u0.toInt8.toInt32) (u1.toInt8.toInt32) (u2.toInt8.toInt32) la lc sa sc ta tc h33 n0 Z33 V33 Od34 hS1 hT1 hS2 hT2 hS3 hT3) hZ (hw _ (List.mem_of_getElem? (i := 8) rfl)) (hw _ (List.mem_of_getElem? (i := 7) rfl)) (by decide) (by decide)) (g := (mkF m 168 #[iv u0, iv u1, iv u2, iv u3, iv u4, iv u5, iv (0 : Int32), iv (3 : Int32), iv (3 : Int32), rv b22, iv (u0 &&& (255 : Int32)), iv (u1 &&& (255 : Int32)), iv (u2 &&& (255 : Int32)), iv (u3 &&& (255 : Int32)), iv (own_ex (u0 &&& (255 : Int32)) (u1 &&& (255 : Int32)) (u2 &&& (255 : Int32)) (u3 &&& (255 : Int32)) (3 : Int32))] [(.int (0 : Int32)), (.ref b22)])) rfl (by rw [hml]; rfl) (argsL := [(.ref b22), (.int (0 : Int32))]) (rest := []) (lenOf pd_2 rfl) rfl (by show 2 * 0 + _ ≤ _; exact Nat.le_of_eq rfl) (hb hby at_168) (fun _ _ => ⟨rfl, eq36, (by decide : 1 + 0 ≤ _), (by decide : 3 + 0 ≤ _)⟩)
      dsimp only [Pt.U, Pt.locs, Pt.cells, Pt.slots] at X37 l37 y37 z37 st37 hQ37
      subst y37 z37
      obtain ⟨rfl, Nq37, eq37⟩ := hQ37
      have N37 : Fr n0 L37 := by rw [l37]; exact Fr.app N36 Nq37
      obtain ⟨fs, hr, hrun, hended, hW, hsame⟩ := X37.leave (v := some (.int (1 : Int32))) (fun h => by rw [Bd.returns] at h; cases h)
      refine ⟨_, _, S1 _ ?_, hrun, hended, _, _, rfl, ?_, ⟨_, rfl⟩, hW, hsame.mono (by decide) (by decide)⟩
      · skip
        show Steps p.tables e below (s₁.setTop (mkF m 16 #[iv u0, iv u1, iv u2, iv u3, iv u4, iv u5, iv (0 : Int32), iv (3 : Int32), .unset, .unset, .unset, .unset, .unset, .unset, .unset] [])) _
        refine XS.iload X0.here hx rfl (hb hby at_16) rfl ?_
        show Steps p.tables e below (s₁.setTop (mkF m 18 #[iv u0, iv u1, iv u2, iv u3, iv u4, iv u5, iv (0 : Int32), iv (3 : Int32), .unset, .unset, .unset, .unset, .unset, .unset, .unset] [(.int (0 : Int32))])) _
        refine XS.iload X0.here hx rfl (hb hby at_18) rfl ?_
        show Steps p.tables e below (s₁.setTop (mkF m 20 #[iv u0, iv u1, iv u2, iv u3, iv u4, iv u5, iv (0 : Int32), iv (3 : Int32), .unset, .unset, .unset, .unset, .unset, .unset, .unset] [(.int (3 : Int32)), (.int (0 : Int32))])) _
        refine XS.iadd X0.here hx rfl (hb hby at_20) rfl ?_
        show Steps p.tables e below (s₁.setTop (mkF m 21 #[iv u0, iv u1, iv u2, iv u3, iv u4, iv u5, iv (0 : Int32), iv (3 : Int32), .unset, .unset, .unset, .unset, .unset, .unset, .unset] [(.int (3 : Int32))])) _
        refine XS.istore X0.here hx rfl (hb hby at_21) rfl (l' := #[iv u0, iv u1, iv u2, iv u3, iv u4, iv u5, iv (0 : Int32), iv (3 : Int32), iv (3 : Int32), .unset, .unset, .unset, .unset, .unset, .unset]) rfl ?_
        show Steps p.tables e below (s₁.setTop (mkF m 23 #[iv u0, iv u1, iv u2, iv u3, iv u4, iv u5, iv (0 : Int32), iv (3 : Int32), iv (3 : Int32), .unset, .unset, .unset, .unset, .unset, .unset] [])) _
        refine XS.iload X0.here hx rfl (hb hby at_23) rfl ?_
        show Steps p.tables e below (s₁.setTop (mkF m 25 #[iv u0, iv u1, iv u2, iv u3, iv u4, iv u5, iv (0 : Int32), iv (3 : Int32), iv (3 : Int32), .unset, .unset, .unset, .unset, .unset, .unset] [(.int (3 : Int32))])) _
        refine st22 _ ?_
        show Steps p.tables e below (T22.setTop (mkF m 27 #[iv u0, iv u1, iv u2, iv u3, iv u4, iv u5, iv (0 : Int32), iv (3 : Int32), iv (3 : Int32), .unset, .unset, .unset, .unset, .unset, .unset] [(.ref b22)])) _
        refine XS.astore X22.here hx rfl (hb hby at_27) rfl rfl (l' := #[iv u0, iv u1, iv u2, iv u3, iv u4, iv u5, iv (0 : Int32), iv (3 : Int32), iv (3 : Int32), rv b22, .unset, .unset, .unset, .unset, .unset]) rfl ?_
        show Steps p.tables e below (T22.setTop (mkF m 29 #[iv u0, iv u1, iv u2, iv u3, iv u4, iv u5, iv (0 : Int32), iv (3 : Int32), iv (3 : Int32), rv b22, .unset, .unset, .unset, .unset, .unset] [])) _
        refine XS.aload X22.here hx rfl (hb hby at_29) rfl rfl ?_
        show Steps p.tables e below (T22.setTop (mkF m 31 #[iv u0, iv u1, iv u2, iv u3, iv u4, iv u5, iv (0 : Int32), iv (3 : Int32), iv (3 : Int32), rv b22, .unset, .unset, .unset, .unset, .unset] [(.ref b22)])) _
        refine XS.iconst X22.here hx rfl (hb hby at_31) ?_
        show Steps p.tables e below (T22.setTop (mkF m 32 #[iv u0, iv u1, iv u2, iv u3, iv u4, iv u5, iv (0 : Int32), iv (3 : Int32), iv (3 : Int32), rv b22, .unset, .unset, .unset, .unset, .unset] [(.int (0 : Int32)), (.ref b22)])) _
        refine XS.iloadN X22.here hx rfl (hb hby at_32) rfl ?_
        show Steps p.tables e below (T22.setTop (mkF m 33 #[iv u0, iv u1, iv u2, iv u3, iv u4, iv u5, iv (0 : Int32), iv (3 : Int32), iv (3 : Int32), rv b22, .unset, .unset, .unset, .unset, .unset] [(.int u0), (.int (0 : Int32)), (.ref b22)])) _
        refine XS.i2b X22.here hx rfl (hb hby at_33) rfl ?_
        show Steps p.tables e below (T22.setTop (mkF m 34 #[iv u0, iv u1, iv u2, iv u3, iv u4, iv u5, iv (0 : Int32), iv (3 : Int32), iv (3 : Int32), rv b22, .unset, .unset, .unset, .unset, .unset] [(.int (u0.toInt8.toInt32)), (.int (0 : Int32)), (.ref b22)])) _
        refine st25 _ ?_
        show Steps p.tables e below (T25.setTop (mkF m 35 #[iv u0, iv u1, iv u2, iv u3, iv u4, iv u5, iv (0 : Int32), iv (3 : Int32), iv (3 : Int32), rv b22, .unset, .unset, .unset, .unset, .unset] [])) _
        refine XS.iload X25.here hx rfl (hb hby at_35) rfl ?_
        show Steps p.tables e below (T25.setTop (mkF m 37 #[iv u0, iv u1, iv u2, iv u3, iv u4, iv u5, iv (0 : Int32), iv (3 : Int32), iv (3 : Int32), rv b22, .unset, .unset, .unset, .unset, .unset] [(.int (3 : Int32))])) _
        refine XS.iconst X25.here hx rfl (hb hby at_37) ?_
        show Steps p.tables e below (T25.setTop (mkF m 38 #[iv u0, iv u1, iv u2, iv u3, iv u4, iv u5, iv (0 : Int32), iv (3 : Int32), iv (3 : Int32), rv b22, .unset, .unset, .unset, .unset, .unset] [(.int (1 : Int32)), (.int (3 : Int32))])) _
        refine XS.icmpNo X25.here hx rfl (hb hby at_38) rfl (tlt (by decide : (1 : Int32) < (3 : Int32))).2.2.2 ?_
        show Steps p.tables e below (T25.setTop (mkF m 41 #[iv u0, iv u1, iv u2, iv u3, iv u4, iv u5, iv (0 : Int32), iv (3 : Int32), iv (3 : Int32), rv b22, .unset, .unset, .unset, .unset, .unset] [])) _
        refine XS.aload X25.here hx rfl (hb hby at_41) rfl rfl ?_
        show Steps p.tables e below (T25.setTop (mkF m 43 #[iv u0, iv u1, iv u2, iv u3, iv u4, iv u5, iv (0 : Int32), iv (3 : Int32), iv (3 : Int32), rv b22, .unset, .unset, .unset, .unset, .unset] [(.ref b22)])) _
        refine XS.iconst X25.here hx rfl (hb hby at_43) ?_
        show Steps p.tables e below (T25.setTop (mkF m 44 #[iv u0, iv u1, iv u2, iv u3, iv u4, iv u5, iv (0 : Int32), iv (3 : Int32), iv (3 : Int32), rv b22, .unset, .unset, .unset, .unset, .unset] [(.int (1 : Int32)), (.ref b22)])) _
        refine XS.iloadN X25.here hx rfl (hb hby at_44) rfl ?_
        show Steps p.tables e below (T25.setTop (mkF m 45 #[iv u0, iv u1, iv u2, iv u3, iv u4, iv u5, iv (0 : Int32), iv (3 : Int32), iv (3 : Int32), rv b22, .unset, .unset, .unset, .unset, .unset] [(.int u1), (.int (1 : Int32)), (.ref b22)])) _
        refine XS.i2b X25.here hx rfl (hb hby at_45) rfl ?_
        show Steps p.tables e below (T25.setTop (mkF m 46 #[iv u0, iv u1, iv u2, iv u3, iv u4, iv u5, iv (0 : Int32), iv (3 : Int32), iv (3 : Int32), rv b22, .unset, .unset, .unset, .unset, .unset] [(.int (u1.toInt8.toInt32)), (.int (1 : Int32)), (.ref b22)])) _
        refine st29 _ ?_
        show Steps p.tables e below (T29.setTop (mkF m 47 #[iv u0, iv u1, iv u2, iv u3, iv u4, iv u5, iv (0 : Int32), iv (3 : Int32), iv (3 : Int32), rv b22, .unset, .unset, .unset, .unset, .unset] [])) _
        refine XS.iload X29.here hx rfl (hb hby at_47) rfl ?_
        show Steps p.tables e below (T29.setTop (mkF m 49 #[iv u0, iv u1, iv u2, iv u3, iv u4, iv u5, iv (0 : Int32), iv (3 : Int32), iv (3 : Int32), rv b22, .unset, .unset, .unset, .unset, .unset] [(.int (3 : Int32))])) _
        refine XS.iconst X29.here hx rfl (hb hby at_49) ?_
        show Steps p.tables e below (T29.setTop (mkF m 50 #[iv u0, iv u1, iv u2, iv u3, iv u4, iv u5, iv (0 : Int32), iv (3 : Int32), iv (3 : Int32), rv b22, .unset, .unset, .unset, .unset, .unset] [(.int (2 : Int32)), (.int (3 : Int32))])) _
        refine XS.icmpNo X29.here hx rfl (hb hby at_50) rfl (tlt (by decide : (2 : Int32) < (3 : Int32))).2.2.2 ?_
        show Steps p.tables e below (T29.setTop (mkF m 53 #[iv u0, iv u1, iv u2, iv u3, iv u4, iv u5, iv (0 : Int32), iv (3 : Int32), iv (3 : Int32), rv b22, .unset, .unset, .unset, .unset, .unset] [])) _
        refine XS.aload X29.here hx rfl (hb hby at_53) rfl rfl ?_
        show Steps p.tables e below (T29.setTop (mkF m 55 #[iv u0, iv u1, iv u2, iv u3, iv u4, iv u5, iv (0 : Int32), iv (3 : Int32), iv (3 : Int32), rv b22, .unset, .unset, .unset, .unset, .unset] [(.ref b22)])) _
        refine XS.iconst X29.here hx rfl (hb hby at_55) ?_
        show Steps p.tables e below (T29.setTop (mkF m 56 #[iv u0, iv u1, iv u2, iv u3, iv u4, iv u5, iv (0 : Int32), iv (3 : Int32), iv (3 : Int32), rv b22, .unset, .unset, .unset, .unset, .unset] [(.int (2 : Int32)), (.ref b22)])) _
        refine XS.iloadN X29.here hx rfl (hb hby at_56) rfl ?_
        show Steps p.tables e below (T29.setTop (mkF m 57 #[iv u0, iv u1, iv u2, iv u3, iv u4, iv u5, iv (0 : Int32), iv (3 : Int32), iv (3 : Int32), rv b22, .unset, .unset, .unset, .unset, .unset] [(.int u2), (.int (2 : Int32)), (.ref b22)])) _
        refine XS.i2b X29.here hx rfl (hb hby at_57) rfl ?_
        show Steps p.tables e below (T29.setTop (mkF m 58 #[iv u0, iv u1, iv u2, iv u3, iv u4, iv u5, iv (0 : Int32), iv (3 : Int32), iv (3 : Int32), rv b22, .unset, .unset, .unset, .unset, .unset] [(.int (u2.toInt8.toInt32)), (.int (2 : Int32)), (.ref b22)])) _
        refine st33 _ ?_
        show Steps p.tables e below (T33.setTop (mkF m 59 #[iv u0, iv u1, iv u2, iv u3, iv u4, iv u5, iv (0 : Int32), iv (3 : Int32), iv (3 : Int32), rv b22, .unset, .unset, .unset, .unset, .unset] [])) _
        refine XS.iload X33.here hx rfl (hb hby at_59) rfl ?_
        show Steps p.tables e below (T33.setTop (mkF m 61 #[iv u0, iv u1, iv u2, iv u3, iv u4, iv u5, iv (0 : Int32), iv (3 : Int32), iv (3 : Int32), rv b22, .unset, .unset, .unset, .unset, .unset] [(.int (3 : Int32))])) _
        refine XS.iconst X33.here hx rfl (hb hby at_61) ?_
        show Steps p.tables e below (T33.setTop (mkF m 62 #[iv u0, iv u1, iv u2, iv u3, iv u4, iv u5, iv (0 : Int32), iv (3 : Int32), iv (3 : Int32), rv b22, .unset, .unset, .unset, .unset, .unset] [(.int (3 : Int32)), (.int (3 : Int32))])) _
        refine XS.icmpYes X33.here hx rfl (pc0 := 62) (pc' := 71) rfl (hb hby at_62) rfl (flt (by decide : ¬ ((3 : Int32) < (3 : Int32)))).2.2.2 (by decide) (by decide) ?_
        show Steps p.tables e below (T33.setTop (mkF m 71 #[iv u0, iv u1, iv u2, iv u3, iv u4, iv u5, iv (0 : Int32), iv (3 : Int32), iv (3 : Int32), rv b22, .unset, .unset, .unset, .unset, .unset] [])) _
        refine XS.iload X33.here hx rfl (hb hby at_71) rfl ?_
        show Steps p.tables e below (T33.setTop (mkF m 73 #[iv u0, iv u1, iv u2, iv u3, iv u4, iv u5, iv (0 : Int32), iv (3 : Int32), iv (3 : Int32), rv b22, .unset, .unset, .unset, .unset, .unset] [(.int (3 : Int32))])) _
        refine XS.iconst X33.here hx rfl (hb hby at_73) ?_
        show Steps p.tables e below (T33.setTop (mkF m 74 #[iv u0, iv u1, iv u2, iv u3, iv u4, iv u5, iv (0 : Int32), iv (3 : Int32), iv (3 : Int32), rv b22, .unset, .unset, .unset, .unset, .unset] [(.int (4 : Int32)), (.int (3 : Int32))])) _
        refine XS.icmpYes X33.here hx rfl (pc0 := 74) (pc' := 84) rfl (hb hby at_74) rfl (flt (by decide : ¬ ((4 : Int32) < (3 : Int32)))).2.2.2 (by decide) (by decide) ?_
        show Steps p.tables e below (T33.setTop (mkF m 84 #[iv u0, iv u1, iv u2, iv u3, iv u4, iv u5, iv (0 : Int32), iv (3 : Int32), iv (3 : Int32), rv b22, .unset, .unset, .unset, .unset, .unset] [])) _
        refine XS.iload X33.here hx rfl (hb hby at_84) rfl ?_
        show Steps p.tables e below (T33.setTop (mkF m 86 #[iv u0, iv u1, iv u2, iv u3, iv u4, iv u5, iv (0 : Int32), iv (3 : Int32), iv (3 : Int32), rv b22, .unset, .unset, .unset, .unset, .unset] [(.int (0 : Int32))])) _
        refine XS.ifNo X33.here hx rfl (hb hby at_86) rfl ((if0 _ _).trans (teq (by decide : (0 : Int32) = (0 : Int32))).2) ?_
        show Steps p.tables e below (T33.setTop (mkF m 89 #[iv u0, iv u1, iv u2, iv u3, iv u4, iv u5, iv (0 : Int32), iv (3 : Int32), iv (3 : Int32), rv b22, .unset, .unset, .unset, .unset, .unset] [])) _
        refine XS.iloadN X33.here hx rfl (hb hby at_89) rfl ?_
        show Steps p.tables e below (T33.setTop (mkF m 90 #[iv u0, iv u1, iv u2, iv u3, iv u4, iv u5, iv (0 : Int32), iv (3 : Int32), iv (3 : Int32), rv b22, .unset, .unset, .unset, .unset, .unset] [(.int u0)])) _
        refine XS.goto X33.here hx rfl (pc0 := 90) (pc' := 94) rfl (hb hby at_90) (by decide) (by decide) ?_
        show Steps p.tables e below (T33.setTop (mkF m 94 #[iv u0, iv u1, iv u2, iv u3, iv u4, iv u5, iv (0 : Int32), iv (3 : Int32), iv (3 : Int32), rv b22, .unset, .unset, .unset, .unset, .unset] [(.int u0)])) _
        refine XS.sipush X33.here hx rfl (hb hby at_94) ?_
        show Steps p.tables e below (T33.setTop (mkF m 97 #[iv u0, iv u1, iv u2, iv u3, iv u4, iv u5, iv (0 : Int32), iv (3 : Int32), iv (3 : Int32), rv b22, .unset, .unset, .unset, .unset, .unset] [(.int (255 : Int32)), (.int u0)])) _
        refine XS.iand X33.here hx rfl (hb hby at_97) rfl ?_
        show Steps p.tables e below (T33.setTop (mkF m 98 #[iv u0, iv u1, iv u2, iv u3, iv u4, iv u5, iv (0 : Int32), iv (3 : Int32), iv (3 : Int32), rv b22, .unset, .unset, .unset, .unset, .unset] [(.int (u0 &&& (255 : Int32)))])) _
        refine XS.istore X33.here hx rfl (hb hby at_98) rfl (l' := #[iv u0, iv u1, iv u2, iv u3, iv u4, iv u5, iv (0 : Int32), iv (3 : Int32), iv (3 : Int32), rv b22, iv (u0 &&& (255 : Int32)), .unset, .unset, .unset, .unset]) rfl ?_
        show Steps p.tables e below (T33.setTop (mkF m 100 #[iv u0, iv u1, iv u2, iv u3, iv u4, iv u5, iv (0 : Int32), iv (3 : Int32), iv (3 : Int32), rv b22, iv (u0 &&& (255 : Int32)), .unset, .unset, .unset, .unset] [])) _
        refine XS.iload X33.here hx rfl (hb hby at_100) rfl ?_
        show Steps p.tables e below (T33.setTop (mkF m 102 #[iv u0, iv u1, iv u2, iv u3, iv u4, iv u5, iv (0 : Int32), iv (3 : Int32), iv (3 : Int32), rv b22, iv (u0 &&& (255 : Int32)), .unset, .unset, .unset, .unset] [(.int (0 : Int32))])) _
        refine XS.ifNo X33.here hx rfl (hb hby at_102) rfl ((if0 _ _).trans (teq (by decide : (0 : Int32) = (0 : Int32))).2) ?_
        show Steps p.tables e below (T33.setTop (mkF m 105 #[iv u0, iv u1, iv u2, iv u3, iv u4, iv u5, iv (0 : Int32), iv (3 : Int32), iv (3 : Int32), rv b22, iv (u0 &&& (255 : Int32)), .unset, .unset, .unset, .unset] [])) _
        refine XS.iloadN X33.here hx rfl (hb hby at_105) rfl ?_
        show Steps p.tables e below (T33.setTop (mkF m 106 #[iv u0, iv u1, iv u2, iv u3, iv u4, iv u5, iv (0 : Int32), iv (3 : Int32), iv (3 : Int32), rv b22, iv (u0 &&& (255 : Int32)), .unset, .unset, .unset, .unset] [(.int u1)])) _
        refine XS.goto X33.here hx rfl (pc0 := 106) (pc' := 110) rfl (hb hby at_106) (by decide) (by decide) ?_
        show Steps p.tables e below (T33.setTop (mkF m 110 #[iv u0, iv u1, iv u2, iv u3, iv u4, iv u5, iv (0 : Int32), iv (3 : Int32), iv (3 : Int32), rv b22, iv (u0 &&& (255 : Int32)), .unset, .unset, .unset, .unset] [(.int u1)])) _
        refine XS.sipush X33.here hx rfl (hb hby at_110) ?_
        show Steps p.tables e below (T33.setTop (mkF m 113 #[iv u0, iv u1, iv u2, iv u3, iv u4, iv u5, iv (0 : Int32), iv (3 : Int32), iv (3 : Int32), rv b22, iv (u0 &&& (255 : Int32)), .unset, .unset, .unset, .unset] [(.int (255 : Int32)), (.int u1)])) _
        refine XS.iand X33.here hx rfl (hb hby at_113) rfl ?_
        show Steps p.tables e below (T33.setTop (mkF m 114 #[iv u0, iv u1, iv u2, iv u3, iv u4, iv u5, iv (0 : Int32), iv (3 : Int32), iv (3 : Int32), rv b22, iv (u0 &&& (255 : Int32)), .unset, .unset, .unset, .unset] [(.int (u1 &&& (255 : Int32)))])) _
        refine XS.istore X33.here hx rfl (hb hby at_114) rfl (l' := #[iv u0, iv u1, iv u2, iv u3, iv u4, iv u5, iv (0 : Int32), iv (3 : Int32), iv (3 : Int32), rv b22, iv (u0 &&& (255 : Int32)), iv (u1 &&& (255 : Int32)), .unset, .unset, .unset]) rfl ?_
        show Steps p.tables e below (T33.setTop (mkF m 116 #[iv u0, iv u1, iv u2, iv u3, iv u4, iv u5, iv (0 : Int32), iv (3 : Int32), iv (3 : Int32), rv b22, iv (u0 &&& (255 : Int32)), iv (u1 &&& (255 : Int32)), .unset, .unset, .unset] [])) _
        refine XS.iload X33.here hx rfl (hb hby at_116) rfl ?_
        show Steps p.tables e below (T33.setTop (mkF m 118 #[iv u0, iv u1, iv u2, iv u3, iv u4, iv u5, iv (0 : Int32), iv (3 : Int32), iv (3 : Int32), rv b22, iv (u0 &&& (255 : Int32)), iv (u1 &&& (255 : Int32)), .unset, .unset, .unset] [(.int (0 : Int32))])) _
        refine XS.ifNo X33.here hx rfl (hb hby at_118) rfl ((if0 _ _).trans (teq (by decide : (0 : Int32) = (0 : Int32))).2) ?_
        show Steps p.tables e below (T33.setTop (mkF m 121 #[iv u0, iv u1, iv u2, iv u3, iv u4, iv u5, iv (0 : Int32), iv (3 : Int32), iv (3 : Int32), rv b22, iv (u0 &&& (255 : Int32)), iv (u1 &&& (255 : Int32)), .unset, .unset, .unset] [])) _
        refine XS.iloadN X33.here hx rfl (hb hby at_121) rfl ?_
        show Steps p.tables e below (T33.setTop (mkF m 122 #[iv u0, iv u1, iv u2, iv u3, iv u4, iv u5, iv (0 : Int32), iv (3 : Int32), iv (3 : Int32), rv b22, iv (u0 &&& (255 : Int32)), iv (u1 &&& (255 : Int32)), .unset, .unset, .unset] [(.int u2)])) _
        refine XS.goto X33.here hx rfl (pc0 := 122) (pc' := 126) rfl (hb hby at_122) (by decide) (by decide) ?_
        show Steps p.tables e below (T33.setTop (mkF m 126 #[iv u0, iv u1, iv u2, iv u3, iv u4, iv u5, iv (0 : Int32), iv (3 : Int32), iv (3 : Int32), rv b22, iv (u0 &&& (255 : Int32)), iv (u1 &&& (255 : Int32)), .unset, .unset, .unset] [(.int u2)])) _
        refine XS.sipush X33.here hx rfl (hb hby at_126) ?_
        show Steps p.tables e below (T33.setTop (mkF m 129 #[iv u0, iv u1, iv u2, iv u3, iv u4, iv u5, iv (0 : Int32), iv (3 : Int32), iv (3 : Int32), rv b22, iv (u0 &&& (255 : Int32)), iv (u1 &&& (255 : Int32)), .unset, .unset, .unset] [(.int (255 : Int32)), (.int u2)])) _
        refine XS.iand X33.here hx rfl (hb hby at_129) rfl ?_
        show Steps p.tables e below (T33.setTop (mkF m 130 #[iv u0, iv u1, iv u2, iv u3, iv u4, iv u5, iv (0 : Int32), iv (3 : Int32), iv (3 : Int32), rv b22, iv (u0 &&& (255 : Int32)), iv (u1 &&& (255 : Int32)), .unset, .unset, .unset] [(.int (u2 &&& (255 : Int32)))])) _
        refine XS.istore X33.here hx rfl (hb hby at_130) rfl (l' := #[iv u0, iv u1, iv u2, iv u3, iv u4, iv u5, iv (0 : Int32), iv (3 : Int32), iv (3 : Int32), rv b22, iv (u0 &&& (255 : Int32)), iv (u1 &&& (255 : Int32)), iv (u2 &&& (255 : Int32)), .unset, .unset]) rfl ?_
        show Steps p.tables e below (T33.setTop (mkF m 132 #[iv u0, iv u1, iv u2, iv u3, iv u4, iv u5, iv (0 : Int32), iv (3 : Int32), iv (3 : Int32), rv b22, iv (u0 &&& (255 : Int32)), iv (u1 &&& (255 : Int32)), iv (u2 &&& (255 : Int32)), .unset, .unset] [])) _
        refine XS.iload X33.here hx rfl (hb hby at_132) rfl ?_
        show Steps p.tables e below (T33.setTop (mkF m 134 #[iv u0, iv u1, iv u2, iv u3, iv u4, iv u5, iv (0 : Int32), iv (3 : Int32), iv (3 : Int32), rv b22, iv (u0 &&& (255 : Int32)), iv (u1 &&& (255 : Int32)), iv (u2 &&& (255 : Int32)), .unset, .unset] [(.int (0 : Int32))])) _
        refine XS.ifNo X33.here hx rfl (hb hby at_134) rfl ((if0 _ _).trans (teq (by decide : (0 : Int32) = (0 : Int32))).2) ?_
        show Steps p.tables e below (T33.setTop (mkF m 137 #[iv u0, iv u1, iv u2, iv u3, iv u4, iv u5, iv (0 : Int32), iv (3 : Int32), iv (3 : Int32), rv b22, iv (u0 &&& (255 : Int32)), iv (u1 &&& (255 : Int32)), iv (u2 &&& (255 : Int32)), .unset, .unset] [])) _
        refine XS.iloadN X33.here hx rfl (hb hby at_137) rfl ?_
        show Steps p.tables e below (T33.setTop (mkF m 138 #[iv u0, iv u1, iv u2, iv u3, iv u4, iv u5, iv (0 : Int32), iv (3 : Int32), iv (3 : Int32), rv b22, iv (u0 &&& (255 : Int32)), iv (u1 &&& (255 : Int32)), iv (u2 &&& (255 : Int32)), .unset, .unset] [(.int u3)])) _
        refine XS.goto X33.here hx rfl (pc0 := 138) (pc' := 143) rfl (hb hby at_138) (by decide) (by decide) ?_
        show Steps p.tables e below (T33.setTop (mkF m 143 #[iv u0, iv u1, iv u2, iv u3, iv u4, iv u5, iv (0 : Int32), iv (3 : Int32), iv (3 : Int32), rv b22, iv (u0 &&& (255 : Int32)), iv (u1 &&& (255 : Int32)), iv (u2 &&& (255 : Int32)), .unset, .unset] [(.int u3)])) _
        refine XS.sipush X33.here hx rfl (hb hby at_143) ?_
        show Steps p.tables e below (T33.setTop (mkF m 146 #[iv u0, iv u1, iv u2, iv u3, iv u4, iv u5, iv (0 : Int32), iv (3 : Int32), iv (3 : Int32), rv b22, iv (u0 &&& (255 : Int32)), iv (u1 &&& (255 : Int32)), iv (u2 &&& (255 : Int32)), .unset, .unset] [(.int (255 : Int32)), (.int u3)])) _
        refine XS.iand X33.here hx rfl (hb hby at_146) rfl ?_
        show Steps p.tables e below (T33.setTop (mkF m 147 #[iv u0, iv u1, iv u2, iv u3, iv u4, iv u5, iv (0 : Int32), iv (3 : Int32), iv (3 : Int32), rv b22, iv (u0 &&& (255 : Int32)), iv (u1 &&& (255 : Int32)), iv (u2 &&& (255 : Int32)), .unset, .unset] [(.int (u3 &&& (255 : Int32)))])) _
        refine XS.istore X33.here hx rfl (hb hby at_147) rfl (l' := #[iv u0, iv u1, iv u2, iv u3, iv u4, iv u5, iv (0 : Int32), iv (3 : Int32), iv (3 : Int32), rv b22, iv (u0 &&& (255 : Int32)), iv (u1 &&& (255 : Int32)), iv (u2 &&& (255 : Int32)), iv (u3 &&& (255 : Int32)), .unset]) rfl ?_
        show Steps p.tables e below (T33.setTop (mkF m 149 #[iv u0, iv u1, iv u2, iv u3, iv u4, iv u5, iv (0 : Int32), iv (3 : Int32), iv (3 : Int32), rv b22, iv (u0 &&& (255 : Int32)), iv (u1 &&& (255 : Int32)), iv (u2 &&& (255 : Int32)), iv (u3 &&& (255 : Int32)), .unset] [])) _
        refine XS.iload X33.here hx rfl (hb hby at_149) rfl ?_
        show Steps p.tables e below (T33.setTop (mkF m 151 #[iv u0, iv u1, iv u2, iv u3, iv u4, iv u5, iv (0 : Int32), iv (3 : Int32), iv (3 : Int32), rv b22, iv (u0 &&& (255 : Int32)), iv (u1 &&& (255 : Int32)), iv (u2 &&& (255 : Int32)), iv (u3 &&& (255 : Int32)), .unset] [(.int (u0 &&& (255 : Int32)))])) _
        refine XS.iload X33.here hx rfl (hb hby at_151) rfl ?_
        show Steps p.tables e below (T33.setTop (mkF m 153 #[iv u0, iv u1, iv u2, iv u3, iv u4, iv u5, iv (0 : Int32), iv (3 : Int32), iv (3 : Int32), rv b22, iv (u0 &&& (255 : Int32)), iv (u1 &&& (255 : Int32)), iv (u2 &&& (255 : Int32)), iv (u3 &&& (255 : Int32)), .unset] [(.int (u1 &&& (255 : Int32))), (.int (u0 &&& (255 : Int32)))])) _
        refine XS.iload X33.here hx rfl (hb hby at_153) rfl ?_
        show Steps p.tables e below (T33.setTop (mkF m 155 #[iv u0, iv u1, iv u2, iv u3, iv u4, iv u5, iv (0 : Int32), iv (3 : Int32), iv (3 : Int32), rv b22, iv (u0 &&& (255 : Int32)), iv (u1 &&& (255 : Int32)), iv (u2 &&& (255 : Int32)), iv (u3 &&& (255 : Int32)), .unset] [(.int (u2 &&& (255 : Int32))), (.int (u1 &&& (255 : Int32))), (.int (u0 &&& (255 : Int32)))])) _
        refine XS.iload X33.here hx rfl (hb hby at_155) rfl ?_
        show Steps p.tables e below (T33.setTop (mkF m 157 #[iv u0, iv u1, iv u2, iv u3, iv u4, iv u5, iv (0 : Int32), iv (3 : Int32), iv (3 : Int32), rv b22, iv (u0 &&& (255 : Int32)), iv (u1 &&& (255 : Int32)), iv (u2 &&& (255 : Int32)), iv (u3 &&& (255 : Int32)), .unset] [(.int (u3 &&& (255 : Int32))), (.int (u2 &&& (255 : Int32))), (.int (u1 &&& (255 : Int32))), (.int (u0 &&& (255 : Int32)))])) _
        refine XS.iload X33.here hx rfl (hb hby at_157) rfl ?_
        show Steps p.tables e below (T33.setTop (mkF m 159 #[iv u0, iv u1, iv u2, iv u3, iv u4, iv u5, iv (0 : Int32), iv (3 : Int32), iv (3 : Int32), rv b22, iv (u0 &&& (255 : Int32)), iv (u1 &&& (255 : Int32)), iv (u2 &&& (255 : Int32)), iv (u3 &&& (255 : Int32)), .unset] [(.int (3 : Int32)), (.int (u3 &&& (255 : Int32))), (.int (u2 &&& (255 : Int32))), (.int (u1 &&& (255 : Int32))), (.int (u0 &&& (255 : Int32)))])) _
        refine st36 _ ?_
        show Steps p.tables e below (T36.setTop (mkF m 162 #[iv u0, iv u1, iv u2, iv u3, iv u4, iv u5, iv (0 : Int32), iv (3 : Int32), iv (3 : Int32), rv b22, iv (u0 &&& (255 : Int32)), iv (u1 &&& (255 : Int32)), iv (u2 &&& (255 : Int32)), iv (u3 &&& (255 : Int32)), .unset] [(.int (own_ex (u0 &&& (255 : Int32)) (u1 &&& (255 : Int32)) (u2 &&& (255 : Int32)) (u3 &&& (255 : Int32)) (3 : Int32)))])) _
        refine XS.istore X36.here hx rfl (hb hby at_162) rfl (l' := #[iv u0, iv u1, iv u2, iv u3, iv u4, iv u5, iv (0 : Int32), iv (3 : Int32), iv (3 : Int32), rv b22, iv (u0 &&& (255 : Int32)), iv (u1 &&& (255 : Int32)), iv (u2 &&& (255 : Int32)), iv (u3 &&& (255 : Int32)), iv (own_ex (u0 &&& (255 : Int32)) (u1 &&& (255 : Int32)) (u2 &&& (255 : Int32)) (u3 &&& (255 : Int32)) (3 : Int32))]) rfl ?_
        show Steps p.tables e below (T36.setTop (mkF m 164 #[iv u0, iv u1, iv u2, iv u3, iv u4, iv u5, iv (0 : Int32), iv (3 : Int32), iv (3 : Int32), rv b22, iv (u0 &&& (255 : Int32)), iv (u1 &&& (255 : Int32)), iv (u2 &&& (255 : Int32)), iv (u3 &&& (255 : Int32)), iv (own_ex (u0 &&& (255 : Int32)) (u1 &&& (255 : Int32)) (u2 &&& (255 : Int32)) (u3 &&& (255 : Int32)) (3 : Int32))] [])) _
        refine XS.aload X36.here hx rfl (hb hby at_164) rfl rfl ?_
        show Steps p.tables e below (T36.setTop (mkF m 166 #[iv u0, iv u1, iv u2, iv u3, iv u4, iv u5, iv (0 : Int32), iv (3 : Int32), iv (3 : Int32), rv b22, iv (u0 &&& (255 : Int32)), iv (u1 &&& (255 : Int32)), iv (u2 &&& (255 : Int32)), iv (u3 &&& (255 : Int32)), iv (own_ex (u0 &&& (255 : Int32)) (u1 &&& (255 : Int32)) (u2 &&& (255 : Int32)) (u3 &&& (255 : Int32)) (3 : Int32))] [(.ref b22)])) _
        refine XS.iload X36.here hx rfl (hb hby at_166) rfl ?_
        show Steps p.tables e below (T36.setTop (mkF m 168 #[iv u0, iv u1, iv u2, iv u3, iv u4, iv u5, iv (0 : Int32), iv (3 : Int32), iv (3 : Int32), rv b22, iv (u0 &&& (255 : Int32)), iv (u1 &&& (255 : Int32)), iv (u2 &&& (255 : Int32)), iv (u3 &&& (255 : Int32)), iv (own_ex (u0 &&& (255 : Int32)) (u1 &&& (255 : Int32)) (u2 &&& (255 : Int32)) (u3 &&& (255 : Int32)) (3 : Int32))] [(.int (0 : Int32)), (.ref b22)])) _
        refine st37 _ ?_
        show Steps p.tables e below (T37.setTop (mkF m 171 #[iv u0, iv u1, iv u2, iv u3, iv u4, iv u5, iv (0 : Int32), iv (3 : Int32), iv (3 : Int32), rv b22, iv (u0 &&& (255 : Int32)), iv (u1 &&& (255 : Int32)), iv (u2 &&& (255 : Int32)), iv (u3 &&& (255 : Int32)), iv (own_ex (u0 &&& (255 : Int32)) (u1 &&& (255 : Int32)) (u2 &&& (255 : Int32)) (u3 &&& (255 : Int32)) (3 : Int32))] [(.int (own_sl3 (u0.toInt8.toInt32) (u1.toInt8.toInt32) (u2.toInt8.toInt32)))])) _
        refine XS.iload X37.here hx rfl (hb hby at_171) rfl ?_
        show Steps p.tables e below (T37.setTop (mkF m 173 #[iv u0, iv u1, iv u2, iv u3, iv u4, iv u5, iv (0 : Int32), iv (3 : Int32), iv (3 : Int32), rv b22, iv (u0 &&& (255 : Int32)), iv (u1 &&& (255 : Int32)), iv (u2 &&& (255 : Int32)), iv (u3 &&& (255 : Int32)), iv (own_ex (u0 &&& (255 : Int32)) (u1 &&& (255 : Int32)) (u2 &&& (255 : Int32)) (u3 &&& (255 : Int32)) (3 : Int32))] [(.int (own_ex (u0 &&& (255 : Int32)) (u1 &&& (255 : Int32)) (u2 &&& (255 : Int32)) (u3 &&& (255 : Int32)) (3 : Int32))), (.int (own_sl3 (u0.toInt8.toInt32) (u1.toInt8.toInt32) (u2.toInt8.toInt32)))])) _
        refine XS.icmpNo X37.here hx rfl (hb hby at_173) rfl (teq (own_plain3 _ _ _ _)).2 ?_
        show Steps p.tables e below (T37.setTop (mkF m 176 #[iv u0, iv u1, iv u2, iv u3, iv u4, iv u5, iv (0 : Int32), iv (3 : Int32), iv (3 : Int32), rv b22, iv (u0 &&& (255 : Int32)), iv (u1 &&& (255 : Int32)), iv (u2 &&& (255 : Int32)), iv (u3 &&& (255 : Int32)), iv (own_ex (u0 &&& (255 : Int32)) (u1 &&& (255 : Int32)) (u2 &&& (255 : Int32)) (u3 &&& (255 : Int32)) (3 : Int32))] [])) _
        refine XS.iconst X37.here hx rfl (hb hby at_176) ?_
        show Steps p.tables e below (T37.setTop (mkF m 177 #[iv u0, iv u1, iv u2, iv u3, iv u4, iv u5, iv (0 : Int32), iv (3 : Int32), iv (3 : Int32), rv b22, iv (u0 &&& (255 : Int32)), iv (u1 &&& (255 : Int32)), iv (u2 &&& (255 : Int32)), iv (u3 &&& (255 : Int32)), iv (own_ex (u0 &&& (255 : Int32)) (u1 &&& (255 : Int32)) (u2 &&& (255 : Int32)) (u3 &&& (255 : Int32)) (3 : Int32))] [(.int (1 : Int32))])) _
        refine XS.goto X37.here hx rfl (pc0 := 177) (pc' := 181) rfl (hb hby at_177) (by decide) (by decide) ?_
        show Steps p.tables e below (T37.setTop (mkF m 181 #[iv u0, iv u1, iv u2, iv u3, iv u4, iv u5, iv (0 : Int32), iv (3 : Int32), iv (3 : Int32), rv b22, iv (u0 &&& (255 : Int32)), iv (u1 &&& (255 : Int32)), iv (u2 &&& (255 : Int32)), iv (u3 &&& (255 : Int32)), iv (own_ex (u0 &&& (255 : Int32)) (u1 &&& (255 : Int32)) (u2 &&& (255 : Int32)) (u3 &&& (255 : Int32)) (3 : Int32))] [(.int (1 : Int32))])) _
        exact retN X37 hx (t := .boolean) Bd.returns (by simp) (hb hby at_181) hr
      · show Q0 Z u0 u1 u2 u3 u4 u5 la lc sa sc ta tc h0 n0 _ T37.heap _
        rw [eq37]
        exact ⟨rfl, N37⟩
    · skip
      rw [hv] at S1
      obtain ⟨T38, h38, k38, X38, e38, E38, A38, st38⟩ := newP X0 hx hZ (hw _ (List.mem_of_getElem? (i := 0) rfl)) e0 (g := (mkF m 25 #[iv u0, iv u1, iv u2, iv u3, iv u4, iv u5, iv (0 : Int32), iv (4 : Int32), iv (4 : Int32), .unset, .unset, .unset, .unset, .unset, .unset] [(.int (4 : Int32))])) rfl (hb hby at_25) rfl (by decide) (cap := 4) (by decide) (by decide) (by decide) (by decide)
      obtain ⟨b38, g38⟩ : ∃ z, z = h0.size := ⟨_, rfl⟩
      rw [← g38] at A38 st38
      have ge_b38 : n0 ≤ b38 := Nat.le_trans Z0 (Nat.le_of_eq g38.symm)
      have Od39 := hO.ext E38
      have V38 : Arv Z h38 b38 k38 .byte (4 : Int32) [(.int (0 : Int32)), (.int (0 : Int32)), (.int (0 : Int32)), (.int (0 : Int32))] (.int (0 : Int32)) := (Arv.new A38 (by decide)).pad (pad_rep [] (.int (0 : Int32)) 4)
      have Z38 : n0 ≤ h38.size := Nat.le_trans Z0 E38.1
      obtain ⟨cl40, Ar40, qa40, Sa40, Na40, Ha40, Ga40⟩ := id V38
      have hin40 : ¬ ((0 : Int32) < 0 ∨ cl40.slots.size ≤ ((0 : Int32)).toNatClampNeg) := inb_of Sa40 ⟨by decide, by decide⟩
      obtain ⟨T41, h41, X41, e41, W41, st41⟩ := stB X38 hx hZ e38 Ar40 (j := (0 : Int32)) hin40 (g := (mkF m 34 #[iv u0, iv u1, iv u2, iv u3, iv u4, iv u5, iv (0 : Int32), iv (4 : Int32), iv (4 : Int32), rv b38, .unset, .unset, .unset, .unset, .unset] [(.int (u0.toInt8.toInt32)), (.int (0 : Int32)), (.ref b38)])) rfl rfl (hb hby at_34)
      rw [own_nb] at W41
      have V41 : Arv Z h41 b38 k38 .byte (4 : Int32) [(.int (u0.toInt8.toInt32)), (.int (0 : Int32)), (.int (0 : Int32)), (.int (0 : Int32))] (.int (0 : Int32)) := Arv.set Ar40 qa40 Sa40 Na40 Ha40 Ga40 (own_fb _) W41 0 rfl (Nat.le_of_ble_eq_true rfl)
      have N41 := Fr.snoc X41 N0 ge_b38
      have Z41 : n0 ≤ h41.size := Nat.le_trans Z38 (Keep.of_wr W41).1
      have Od42 := Od39.wr W41 ge_b38
      obtain ⟨cl44, Ar44, qa44, Sa44, Na44, Ha44, Ga44⟩ := id V41
      have hin44 : ¬ ((1 : Int32) < 0 ∨ cl44.slots.size ≤ ((1 : Int32)).toNatClampNeg) := inb_of Sa44 ⟨by decide, by decide⟩
      obtain ⟨T45, h45, X45, e45, W45, st45⟩ := stB X41 hx hZ e41 Ar44 (j := (1 : Int32)) hin44 (g := (mkF m 46 #[iv u0, iv u1, iv u2, iv u3, iv u4, iv u5, iv (0 : Int32), iv (4 : Int32), iv (4 : Int32), rv b38, .unset, .unset, .unset, .unset, .unset] [(.int (u1.toInt8.toInt32)), (.int (1 : Int32)), (.ref b38)])) rfl rfl (hb hby at_46)
      rw [own_nb] at W45
      have V45 : Arv Z h45 b38 k38 .byte (4 : Int32) [(.int (u0.toInt8.toInt32)), (.int (u1.toInt8.toInt32)), (.int (0 : Int32)), (.int (0 : Int32))] (.int (0 : Int32)) := Arv.set Ar44 qa44 Sa44 Na44 Ha44 Ga44 (own_fb _) W45 1 rfl (Nat.le_of_ble_eq_true rfl)
      have N45 := Fr.snoc X45 N41 ge_b38
      have Z45 : n0 ≤ h45.size := Nat.le_trans Z41 (Keep.of_wr W45).1
      have Od46 := Od42.wr W45 ge_b38
      obtain ⟨cl48, Ar48, qa48, Sa48, Na48, Ha48, Ga48⟩ := id V45
      have hin48 : ¬ ((2 : Int32) < 0 ∨ cl48.slots.size ≤ ((2 : Int32)).toNatClampNeg) := inb_of Sa48 ⟨by decide, by decide⟩
      obtain ⟨T49, h49, X49, e49, W49, st49⟩ := stB X45 hx hZ e45 Ar48 (j := (2 : Int32)) hin48 (g := (mkF m 58 #[iv u0, iv u1, iv u2, iv u3, iv u4, iv u5, iv (0 : Int32), iv (4 : Int32), iv (4 : Int32), rv b38, .unset, .unset, .unset, .unset, .unset] [(.int (u2.toInt8.toInt32)), (.int (2 : Int32)), (.ref b38)])) rfl rfl (hb hby at_58)
      rw [own_nb] at W49
      have V49 : Arv Z h49 b38 k38 .byte (4 : Int32) [(.int (u0.toInt8.toInt32)), (.int (u1.toInt8.toInt32)), (.int (u2.toInt8.toInt32)), (.int (0 : Int32))] (.int (0 : Int32)) := Arv.set Ar48 qa48 Sa48 Na48 Ha48 Ga48 (own_fb _) W49 2 rfl (Nat.le_of_ble_eq_true rfl)
      have N49 := Fr.snoc X49 N45 ge_b38
      have Z49 : n0 ≤ h49.size := Nat.le_trans Z45 (Keep.of_wr W49).1
      have Od50 := Od46.wr W49 ge_b38
      obtain ⟨cl52, Ar52, qa52, Sa52, Na52, Ha52, Ga52⟩ := id V49
      have hin52 : ¬ ((3 : Int32) < 0 ∨ cl52.slots.size ≤ ((3 : Int32)).toNatClampNeg) := inb_of Sa52 ⟨by decide, by decide⟩
      obtain ⟨T53, h53, X53, e53, W53, st53⟩ := stB X49 hx hZ e49 Ar52 (j := (3 : Int32)) hin52 (g := (mkF m 70 #[iv u0, iv u1, iv u2, iv u3, iv u4, iv u5, iv (0 : Int32), iv (4 : Int32), iv (4 : Int32), rv b38, .unset, .unset, .unset, .unset, .unset] [(.int (u3.toInt8.toInt32)), (.int (3 : Int32)), (.ref b38)])) rfl rfl (hb hby at_70)
      rw [own_nb] at W53
      have V53 : Arv Z h53 b38 k38 .byte (4 : Int32) [(.int (u0.toInt8.toInt32)), (.int (u1.toInt8.toInt32)), (.int (u2.toInt8.toInt32)), (.int (u3.toInt8.toInt32))] (.int (0 : Int32)) := Arv.set Ar52 qa52 Sa52 Na52 Ha52 Ga52 (own_fb _) W53 3 rfl (Nat.le_of_ble_eq_true rfl)
      have N53 := Fr.snoc X53 N49 ge_b38
      have Z53 : n0 ≤ h53.size := Nat.le_trans Z49 (Keep.of_wr W53).1
      have Od54 := Od50.wr W53 ge_b38
      obtain ⟨_, _, ⟨T56, L56, k56, n56⟩, -, X56, ⟨Lc56, hQ56, l56, y56, z56⟩, st56⟩ := Jvm.LawKit.callS X53 hx (y := (⟨"com/example/rivanna/rivanna/core/json/Utf8SequenceLengthPinLaw", "expected", "(IIIII)I"⟩ : MethodName)) hown (mvT hZ (hw _ (List.mem_of_getElem? (i := 1) rfl))) (mvT hZ (hw _ (List.mem_of_getElem? (i := 2) rfl))) (mvT hZ (hw _ (List.mem_of_getElem? (i := 3) rfl))) (mvT hZ (hw _ (List.mem_of_getElem? (i := 4) rfl))) (by decide) (backOf (W := 0) (rmEx l Z a0 hw [] (u0 &&& (255 : Int32)) (u1 &&& (255 : Int32)) (u2 &&& (255 : Int32)) (u3 &&& (255 : Int32)) (4 : Int32) h53 n0 Z53) hZ (hw _ (List.mem_of_getElem? (i := 4) rfl)) (hw _ (List.mem_of_getElem? (i := 3) rfl)) (by decide) (by decide)) (g := (mkF m 159 #[iv u0, iv u1, iv u2, iv u3, iv u4, iv u5, iv (0 : Int32), iv (4 : Int32), iv (4 : Int32), rv b38, iv (u0 &&& (255 : Int32)), iv (u1 &&& (255 : Int32)), iv (u2 &&& (255 : Int32)), iv (u3 &&& (255 : Int32)), .unset] [(.int (4 : Int32)), (.int (u3 &&& (255 : Int32))), (.int (u2 &&& (255 : Int32))), (.int (u1 &&& (255 : Int32))), (.int (u0 &&& (255 : Int32)))])) rfl (by rw [hml]; rfl) (argsL := [(.int (u0 &&& (255 : Int32))), (.int (u1 &&& (255 : Int32))), (.int (u2 &&& (255 : Int32))), (.int (u3 &&& (255 : Int32))), (.int (4 : Int32))]) (rest := []) (lenOf pd_1 rfl) rfl (by show 2 * 0 + _ ≤ _; exact Nat.le_of_eq rfl) (hb hby at_159) (fun _ _ => ⟨rfl, e53, (by decide : 1 + 0 ≤ _), (by decide : 4 + 0 ≤ _)⟩)
      dsimp only [Pt.U, Pt.locs, Pt.cells, Pt.slots] at X56 l56 y56 z56 st56 hQ56
      subst y56 z56
      obtain ⟨rfl, Nq56, eq56⟩ := hQ56
      have N56 : Fr n0 L56 := by rw [l56]; exact Fr.app N53 Nq56
      obtain ⟨_, _, ⟨T57, L57, k57, n57⟩, -, X57, ⟨Lc57, hQ57, l57, y57, z57⟩, st57⟩ := Jvm.LawKit.callS X56 hx (y := (⟨"com/example/rivanna/rivanna/core/json/Utf8", "sequenceLength", "([BI)I"⟩ : MethodName)) hown (mvT hZ (hw _ (List.mem_of_getElem? (i := 5) rfl))) (mvT hZ (hw _ (List.mem_of_getElem? (i := 6) rfl))) (mvT hZ (hw _ (List.mem_of_getElem? (i := 7) rfl))) (mvT hZ (hw _ (List.mem_of_getElem? (i := 8) rfl))) (by decide) (backOf (W := 0) (rmSL04 l Z a0 hw [] b38 k38 (u0.toInt8.toInt32) (u1.toInt8.toInt32) (u2.toInt8.toInt32) (u3.toInt8.toInt32) la lc sa sc ta tc h53 n0 Z53 V53 Od54 hS1 hT1 hS2 hT2 hS3 hT3) hZ (hw _ (List.mem_of_getElem? (i := 8) rfl)) (hw _ (List.mem_of_getElem? (i := 7) rfl)) (by decide) (by decide)) (g := (mkF m 168 #[iv u0, iv u1, iv u2, iv u3, iv u4, iv u5, iv (0 : Int32), iv (4 : Int32), iv (4 : Int32), rv b38, iv (u0 &&& (255 : Int32)), iv (u1 &&& (255 : Int32)), iv (u2 &&& (255 : Int32)), iv (u3 &&& (255 : Int32)), iv (own_ex (u0 &&& (255 : Int32)) (u1 &&& (255 : Int32)) (u2 &&& (255 : Int32)) (u3 &&& (255 : Int32)) (4 : Int32))] [(.int (0 : Int32)), (.ref b38)])) rfl (by rw [hml]; rfl) (argsL := [(.ref b38), (.int (0 : Int32))]) (rest := []) (lenOf pd_2 rfl) rfl (by show 2 * 0 + _ ≤ _; exact Nat.le_of_eq rfl) (hb hby at_168) (fun _ _ => ⟨rfl, eq56, (by decide : 1 + 0 ≤ _), (by decide : 4 + 0 ≤ _)⟩)
      dsimp only [Pt.U, Pt.locs, Pt.cells, Pt.slots] at X57 l57 y57 z57 st57 hQ57
      subst y57 z57
      obtain ⟨rfl, Nq57, eq57⟩ := hQ57
      have N57 : Fr n0 L57 := by rw [l57]; exact Fr.app N56 Nq57
      obtain ⟨fs, hr, hrun, hended, hW, hsame⟩ := X57.leave (v := some (.int (1 : Int32))) (fun h => by rw [Bd.returns] at h; cases h)
      refine ⟨_, _, S1 _ ?_, hrun, hended, _, _, rfl, ?_, ⟨_, rfl⟩, hW, hsame.mono (by decide) (by decide)⟩
      · skip
        show Steps p.tables e below (s₁.setTop (mkF m 16 #[iv u0, iv u1, iv u2, iv u3, iv u4, iv u5, iv (0 : Int32), iv (4 : Int32), .unset, .unset, .unset, .unset, .unset, .unset, .unset] [])) _
        refine XS.iload X0.here hx rfl (hb hby at_16) rfl ?_
        show Steps p.tables e below (s₁.setTop (mkF m 18 #[iv u0, iv u1, iv u2, iv u3, iv u4, iv u5, iv (0 : Int32), iv (4 : Int32), .unset, .unset, .unset, .unset, .unset, .unset, .unset] [(.int (0 : Int32))])) _
        refine XS.iload X0.here hx rfl (hb hby at_18) rfl ?_
        show Steps p.tables e below (s₁.setTop (mkF m 20 #[iv u0, iv u1, iv u2, iv u3, iv u4, iv u5, iv (0 : Int32), iv (4 : Int32), .unset, .unset, .unset, .unset, .unset, .unset, .unset] [(.int (4 : Int32)), (.int (0 : Int32))])) _
        refine XS.iadd X0.here hx rfl (hb hby at_20) rfl ?_
        show Steps p.tables e below (s₁.setTop (mkF m 21 #[iv u0, iv u1, iv u2, iv u3, iv u4, iv u5, iv (0 : Int32), iv (4 : Int32), .unset, .unset, .unset, .unset, .unset, .unset, .unset] [(.int (4 : Int32))])) _
        refine XS.istore X0.here hx rfl (hb hby at_21) rfl (l' := #[iv u0, iv u1, iv u2, iv u3, iv u4, iv u5, iv (0 : Int32), iv (4 : Int32), iv (4 : Int32), .unset, .unset, .unset, .unset, .unset, .unset]) rfl ?_
        show Steps p.tables e below (s₁.setTop (mkF m 23 #[iv u0, iv u1, iv u2, iv u3, iv u4, iv u5, iv (0 : Int32), iv (4 : Int32), iv (4 : Int32), .unset, .unset, .unset, .unset, .unset, .unset] [])) _
        refine XS.iload X0.here hx rfl (hb hby at_23) rfl ?_
        show Steps p.tables e below (s₁.setTop (mkF m 25 #[iv u0, iv u1, iv u2, iv u3, iv u4, iv u5, iv (0 : Int32), iv (4 : Int32), iv (4 : Int32), .unset, .unset, .unset, .unset, .unset, .unset] [(.int (4 : Int32))])) _
        refine st38 _ ?_
        show Steps p.tables e below (T38.setTop (mkF m 27 #[iv u0, iv u1, iv u2, iv u3, iv u4, iv u5, iv (0 : Int32), iv (4 : Int32), iv (4 : Int32), .unset, .unset, .unset, .unset, .unset, .unset] [(.ref b38)])) _
        refine XS.astore X38.here hx rfl (hb hby at_27) rfl rfl (l' := #[iv u0, iv u1, iv u2, iv u3, iv u4, iv u5, iv (0 : Int32), iv (4 : Int32), iv (4 : Int32), rv b38, .unset, .unset, .unset, .unset, .unset]) rfl ?_
        show Steps p.tables e below (T38.setTop (mkF m 29 #[iv u0, iv u1, iv u2, iv u3, iv u4, iv u5, iv (0 : Int32), iv (4 : Int32), iv (4 : Int32), rv b38, .unset, .unset, .unset, .unset, .unset] [])) _
        refine XS.aload X38.here hx rfl (hb hby at_29) rfl rfl ?_
        show Steps p.tables e below (T38.setTop (mkF m 31 #[iv u0, iv u1, iv u2, iv u3, iv u4, iv u5, iv (0 : Int32), iv (4 : Int32), iv (4 : Int32), rv b38, .unset, .unset, .unset, .unset, .unset] [(.ref b38)])) _
        refine XS.iconst X38.here hx rfl (hb hby at_31) ?_
        show Steps p.tables e below (T38.setTop (mkF m 32 #[iv u0, iv u1, iv u2, iv u3, iv u4, iv u5, iv (0 : Int32), iv (4 : Int32), iv (4 : Int32), rv b38, .unset, .unset, .unset, .unset, .unset] [(.int (0 : Int32)), (.ref b38)])) _
        refine XS.iloadN X38.here hx rfl (hb hby at_32) rfl ?_
        show Steps p.tables e below (T38.setTop (mkF m 33 #[iv u0, iv u1, iv u2, iv u3, iv u4, iv u5, iv (0 : Int32), iv (4 : Int32), iv (4 : Int32), rv b38, .unset, .unset, .unset, .unset, .unset] [(.int u0), (.int (0 : Int32)), (.ref b38)])) _
        refine XS.i2b X38.here hx rfl (hb hby at_33) rfl ?_
        show Steps p.tables e below (T38.setTop (mkF m 34 #[iv u0, iv u1, iv u2, iv u3, iv u4, iv u5, iv (0 : Int32), iv (4 : Int32), iv (4 : Int32), rv b38, .unset, .unset, .unset, .unset, .unset] [(.int (u0.toInt8.toInt32)), (.int (0 : Int32)), (.ref b38)])) _
        refine st41 _ ?_
        show Steps p.tables e below (T41.setTop (mkF m 35 #[iv u0, iv u1, iv u2, iv u3, iv u4, iv u5, iv (0 : Int32), iv (4 : Int32), iv (4 : Int32), rv b38, .unset, .unset, .unset, .unset, .unset] [])) _
        refine XS.iload X41.here hx rfl (hb hby at_35) rfl ?_
        show Steps p.tables e below (T41.setTop (mkF m 37 #[iv u0, iv u1, iv u2, iv u3, iv u4, iv u5, iv (0 : Int32), iv (4 : Int32), iv (4 : Int32), rv b38, .unset, .unset, .unset, .unset, .unset] [(.int (4 : Int32))])) _
        refine XS.iconst X41.here hx rfl (hb hby at_37) ?_
        show Steps p.tables e below (T41.setTop (mkF m 38 #[iv u0, iv u1, iv u2, iv u3, iv u4, iv u5, iv (0 : Int32), iv (4 : Int32), iv (4 : Int32), rv b38, .unset, .unset, .unset, .unset, .unset] [(.int (1 : Int32)), (.int (4 : Int32))])) _
        refine XS.icmpNo X41.here hx rfl (hb hby at_38) rfl (tlt (by decide : (1 : Int32) < (4 : Int32))).2.2.2 ?_
        show Steps p.tables e below (T41.setTop (mkF m 41 #[iv u0, iv u1, iv u2, iv u3, iv u4, iv u5, iv (0 : Int32), iv (4 : Int32), iv (4 : Int32), rv b38, .unset, .unset, .unset, .unset, .unset] [])) _
        refine XS.aload X41.here hx rfl (hb hby at_41) rfl rfl ?_
        show Steps p.tables e below (T41.setTop (mkF m 43 #[iv u0, iv u1, iv u2, iv u3, iv u4, iv u5, iv (0 : Int32), iv (4 : Int32), iv (4 : Int32), rv b38, .unset, .unset, .unset, .unset, .unset] [(.ref b38)])) _
        refine XS.iconst X41.here hx rfl (hb hby at_43) ?_
        show Steps p.tables e below (T41.setTop (mkF m 44 #[iv u0, iv u1, iv u2, iv u3, iv u4, iv u5, iv (0 : Int32), iv (4 : Int32), iv (4 : Int32), rv b38, .unset, .unset, .unset, .unset, .unset] [(.int (1 : Int32)), (.ref b38)])) _
        refine XS.iloadN X41.here hx rfl (hb hby at_44) rfl ?_
        show Steps p.tables e below (T41.setTop (mkF m 45 #[iv u0, iv u1, iv u2, iv u3, iv u4, iv u5, iv (0 : Int32), iv (4 : Int32), iv (4 : Int32), rv b38, .unset, .unset, .unset, .unset, .unset] [(.int u1), (.int (1 : Int32)), (.ref b38)])) _
        refine XS.i2b X41.here hx rfl (hb hby at_45) rfl ?_
        show Steps p.tables e below (T41.setTop (mkF m 46 #[iv u0, iv u1, iv u2, iv u3, iv u4, iv u5, iv (0 : Int32), iv (4 : Int32), iv (4 : Int32), rv b38, .unset, .unset, .unset, .unset, .unset] [(.int (u1.toInt8.toInt32)), (.int (1 : Int32)), (.ref b38)])) _
        refine st45 _ ?_
        show Steps p.tables e below (T45.setTop (mkF m 47 #[iv u0, iv u1, iv u2, iv u3, iv u4, iv u5, iv (0 : Int32), iv (4 : Int32), iv (4 : Int32), rv b38, .unset, .unset, .unset, .unset, .unset] [])) _
        refine XS.iload X45.here hx rfl (hb hby at_47) rfl ?_
        show Steps p.tables e below (T45.setTop (mkF m 49 #[iv u0, iv u1, iv u2, iv u3, iv u4, iv u5, iv (0 : Int32), iv (4 : Int32), iv (4 : Int32), rv b38, .unset, .unset, .unset, .unset, .unset] [(.int (4 : Int32))])) _
        refine XS.iconst X45.here hx rfl (hb hby at_49) ?_
        show Steps p.tables e below (T45.setTop (mkF m 50 #[iv u0, iv u1, iv u2, iv u3, iv u4, iv u5, iv (0 : Int32), iv (4 : Int32), iv (4 : Int32), rv b38, .unset, .unset, .unset, .unset, .unset] [(.int (2 : Int32)), (.int (4 : Int32))])) _
        refine XS.icmpNo X45.here hx rfl (hb hby at_50) rfl (tlt (by decide : (2 : Int32) < (4 : Int32))).2.2.2 ?_
        show Steps p.tables e below (T45.setTop (mkF m 53 #[iv u0, iv u1, iv u2, iv u3, iv u4, iv u5, iv (0 : Int32), iv (4 : Int32), iv (4 : Int32), rv b38, .unset, .unset, .unset, .unset, .unset] [])) _
        refine XS.aload X45.here hx rfl (hb hby at_53) rfl rfl ?_
        show Steps p.tables e below (T45.setTop (mkF m 55 #[iv u0, iv u1, iv u2, iv u3, iv u4, iv u5, iv (0 : Int32), iv (4 : Int32), iv (4 : Int32), rv b38, .unset, .unset, .unset, .unset, .unset] [(.ref b38)])) _
        refine XS.iconst X45.here hx rfl (hb hby at_55) ?_
        show Steps p.tables e below (T45.setTop (mkF m 56 #[iv u0, iv u1, iv u2, iv u3, iv u4, iv u5, iv (0 : Int32), iv (4 : Int32), iv (4 : Int32), rv b38, .unset, .unset, .unset, .unset, .unset] [(.int (2 : Int32)), (.ref b38)])) _
        refine XS.iloadN X45.here hx rfl (hb hby at_56) rfl ?_
        show Steps p.tables e below (T45.setTop (mkF m 57 #[iv u0, iv u1, iv u2, iv u3, iv u4, iv u5, iv (0 : Int32), iv (4 : Int32), iv (4 : Int32), rv b38, .unset, .unset, .unset, .unset, .unset] [(.int u2), (.int (2 : Int32)), (.ref b38)])) _
        refine XS.i2b X45.here hx rfl (hb hby at_57) rfl ?_
        show Steps p.tables e below (T45.setTop (mkF m 58 #[iv u0, iv u1, iv u2, iv u3, iv u4, iv u5, iv (0 : Int32), iv (4 : Int32), iv (4 : Int32), rv b38, .unset, .unset, .unset, .unset, .unset] [(.int (u2.toInt8.toInt32)), (.int (2 : Int32)), (.ref b38)])) _
        refine st49 _ ?_
        show Steps p.tables e below (T49.setTop (mkF m 59 #[iv u0, iv u1, iv u2, iv u3, iv u4, iv u5, iv (0 : Int32), iv (4 : Int32), iv (4 : Int32), rv b38, .unset, .unset, .unset, .unset, .unset] [])) _
        refine XS.iload X49.here hx rfl (hb hby at_59) rfl ?_
        show Steps p.tables e below (T49.setTop (mkF m 61 #[iv u0, iv u1, iv u2, iv u3, iv u4, iv u5, iv (0 : Int32), iv (4 : Int32), iv (4 : Int32), rv b38, .unset, .unset, .unset, .unset, .unset] [(.int (4 : Int32))])) _
        refine XS.iconst X49.here hx rfl (hb hby at_61) ?_
        show Steps p.tables e below (T49.setTop (mkF m 62 #[iv u0, iv u1, iv u2, iv u3, iv u4, iv u5, iv (0 : Int32), iv (4 : Int32), iv (4 : Int32), rv b38, .unset, .unset, .unset, .unset, .unset] [(.int (3 : Int32)), (.int (4 : Int32))])) _
        refine XS.icmpNo X49.here hx rfl (hb hby at_62) rfl (tlt (by decide : (3 : Int32) < (4 : Int32))).2.2.2 ?_
        show Steps p.tables e below (T49.setTop (mkF m 65 #[iv u0, iv u1, iv u2, iv u3, iv u4, iv u5, iv (0 : Int32), iv (4 : Int32), iv (4 : Int32), rv b38, .unset, .unset, .unset, .unset, .unset] [])) _
        refine XS.aload X49.here hx rfl (hb hby at_65) rfl rfl ?_
        show Steps p.tables e below (T49.setTop (mkF m 67 #[iv u0, iv u1, iv u2, iv u3, iv u4, iv u5, iv (0 : Int32), iv (4 : Int32), iv (4 : Int32), rv b38, .unset, .unset, .unset, .unset, .unset] [(.ref b38)])) _
        refine XS.iconst X49.here hx rfl (hb hby at_67) ?_
        show Steps p.tables e below (T49.setTop (mkF m 68 #[iv u0, iv u1, iv u2, iv u3, iv u4, iv u5, iv (0 : Int32), iv (4 : Int32), iv (4 : Int32), rv b38, .unset, .unset, .unset, .unset, .unset] [(.int (3 : Int32)), (.ref b38)])) _
        refine XS.iloadN X49.here hx rfl (hb hby at_68) rfl ?_
        show Steps p.tables e below (T49.setTop (mkF m 69 #[iv u0, iv u1, iv u2, iv u3, iv u4, iv u5, iv (0 : Int32), iv (4 : Int32), iv (4 : Int32), rv b38, .unset, .unset, .unset, .unset, .unset] [(.int u3), (.int (3 : Int32)), (.ref b38)])) _
        refine XS.i2b X49.here hx rfl (hb hby at_69) rfl ?_
        show Steps p.tables e below (T49.setTop (mkF m 70 #[iv u0, iv u1, iv u2, iv u3, iv u4, iv u5, iv (0 : Int32), iv (4 : Int32), iv (4 : Int32), rv b38, .unset, .unset, .unset, .unset, .unset] [(.int (u3.toInt8.toInt32)), (.int (3 : Int32)), (.ref b38)])) _
        refine st53 _ ?_
        show Steps p.tables e below (T53.setTop (mkF m 71 #[iv u0, iv u1, iv u2, iv u3, iv u4, iv u5, iv (0 : Int32), iv (4 : Int32), iv (4 : Int32), rv b38, .unset, .unset, .unset, .unset, .unset] [])) _
        refine XS.iload X53.here hx rfl (hb hby at_71) rfl ?_
        show Steps p.tables e below (T53.setTop (mkF m 73 #[iv u0, iv u1, iv u2, iv u3, iv u4, iv u5, iv (0 : Int32), iv (4 : Int32), iv (4 : Int32), rv b38, .unset, .unset, .unset, .unset, .unset] [(.int (4 : Int32))])) _
        refine XS.iconst X53.here hx rfl (hb hby at_73) ?_
        show Steps p.tables e below (T53.setTop (mkF m 74 #[iv u0, iv u1, iv u2, iv u3, iv u4, iv u5, iv (0 : Int32), iv (4 : Int32), iv (4 : Int32), rv b38, .unset, .unset, .unset, .unset, .unset] [(.int (4 : Int32)), (.int (4 : Int32))])) _
        refine XS.icmpYes X53.here hx rfl (pc0 := 74) (pc' := 84) rfl (hb hby at_74) rfl (flt (by decide : ¬ ((4 : Int32) < (4 : Int32)))).2.2.2 (by decide) (by decide) ?_
        show Steps p.tables e below (T53.setTop (mkF m 84 #[iv u0, iv u1, iv u2, iv u3, iv u4, iv u5, iv (0 : Int32), iv (4 : Int32), iv (4 : Int32), rv b38, .unset, .unset, .unset, .unset, .unset] [])) _
        refine XS.iload X53.here hx rfl (hb hby at_84) rfl ?_
        show Steps p.tables e below (T53.setTop (mkF m 86 #[iv u0, iv u1, iv u2, iv u3, iv u4, iv u5, iv (0 : Int32), iv (4 : Int32), iv (4 : Int32), rv b38, .unset, .unset, .unset, .unset, .unset] [(.int (0 : Int32))])) _
        refine XS.ifNo X53.here hx rfl (hb hby at_86) rfl ((if0 _ _).trans (teq (by decide : (0 : Int32) = (0 : Int32))).2) ?_
        show Steps p.tables e below (T53.setTop (mkF m 89 #[iv u0, iv u1, iv u2, iv u3, iv u4, iv u5, iv (0 : Int32), iv (4 : Int32), iv (4 : Int32), rv b38, .unset, .unset, .unset, .unset, .unset] [])) _
        refine XS.iloadN X53.here hx rfl (hb hby at_89) rfl ?_
        show Steps p.tables e below (T53.setTop (mkF m 90 #[iv u0, iv u1, iv u2, iv u3, iv u4, iv u5, iv (0 : Int32), iv (4 : Int32), iv (4 : Int32), rv b38, .unset, .unset, .unset, .unset, .unset] [(.int u0)])) _
        refine XS.goto X53.here hx rfl (pc0 := 90) (pc' := 94) rfl (hb hby at_90) (by decide) (by decide) ?_
        show Steps p.tables e below (T53.setTop (mkF m 94 #[iv u0, iv u1, iv u2, iv u3, iv u4, iv u5, iv (0 : Int32), iv (4 : Int32), iv (4 : Int32), rv b38, .unset, .unset, .unset, .unset, .unset] [(.int u0)])) _
        refine XS.sipush X53.here hx rfl (hb hby at_94) ?_
        show Steps p.tables e below (T53.setTop (mkF m 97 #[iv u0, iv u1, iv u2, iv u3, iv u4, iv u5, iv (0 : Int32), iv (4 : Int32), iv (4 : Int32), rv b38, .unset, .unset, .unset, .unset, .unset] [(.int (255 : Int32)), (.int u0)])) _
        refine XS.iand X53.here hx rfl (hb hby at_97) rfl ?_
        show Steps p.tables e below (T53.setTop (mkF m 98 #[iv u0, iv u1, iv u2, iv u3, iv u4, iv u5, iv (0 : Int32), iv (4 : Int32), iv (4 : Int32), rv b38, .unset, .unset, .unset, .unset, .unset] [(.int (u0 &&& (255 : Int32)))])) _
        refine XS.istore X53.here hx rfl (hb hby at_98) rfl (l' := #[iv u0, iv u1, iv u2, iv u3, iv u4, iv u5, iv (0 : Int32), iv (4 : Int32), iv (4 : Int32), rv b38, iv (u0 &&& (255 : Int32)), .unset, .unset, .unset, .unset]) rfl ?_
        show Steps p.tables e below (T53.setTop (mkF m 100 #[iv u0, iv u1, iv u2, iv u3, iv u4, iv u5, iv (0 : Int32), iv (4 : Int32), iv (4 : Int32), rv b38, iv (u0 &&& (255 : Int32)), .unset, .unset, .unset, .unset] [])) _
        refine XS.iload X53.here hx rfl (hb hby at_100) rfl ?_
        show Steps p.tables e below (T53.setTop (mkF m 102 #[iv u0, iv u1, iv u2, iv u3, iv u4, iv u5, iv (0 : Int32), iv (4 : Int32), iv (4 : Int32), rv b38, iv (u0 &&& (255 : Int32)), .unset, .unset, .unset, .unset] [(.int (0 : Int32))])) _
        refine XS.ifNo X53.here hx rfl (hb hby at_102) rfl ((if0 _ _).trans (teq (by decide : (0 : Int32) = (0 : Int32))).2) ?_
        show Steps p.tables e below (T53.setTop (mkF m 105 #[iv u0, iv u1, iv u2, iv u3, iv u4, iv u5, iv (0 : Int32), iv (4 : Int32), iv (4 : Int32), rv b38, iv (u0 &&& (255 : Int32)), .unset, .unset, .unset, .unset] [])) _
        refine XS.iloadN X53.here hx rfl (hb hby at_105) rfl ?_
        show Steps p.tables e below (T53.setTop (mkF m 106 #[iv u0, iv u1, iv u2, iv u3, iv u4, iv u5, iv (0 : Int32), iv (4 : Int32), iv (4 : Int32), rv b38, iv (u0 &&& (255 : Int32)), .unset, .unset, .unset, .unset] [(.int u1)])) _
        refine XS.goto X53.here hx rfl (pc0 := 106) (pc' := 110) rfl (hb hby at_106) (by decide) (by decide) ?_
        show Steps p.tables e below (T53.setTop (mkF m 110 #[iv u0, iv u1, iv u2, iv u3, iv u4, iv u5, iv (0 : Int32), iv (4 : Int32), iv (4 : Int32), rv b38, iv (u0 &&& (255 : Int32)), .unset, .unset, .unset, .unset] [(.int u1)])) _
        refine XS.sipush X53.here hx rfl (hb hby at_110) ?_
        show Steps p.tables e below (T53.setTop (mkF m 113 #[iv u0, iv u1, iv u2, iv u3, iv u4, iv u5, iv (0 : Int32), iv (4 : Int32), iv (4 : Int32), rv b38, iv (u0 &&& (255 : Int32)), .unset, .unset, .unset, .unset] [(.int (255 : Int32)), (.int u1)])) _
        refine XS.iand X53.here hx rfl (hb hby at_113) rfl ?_
        show Steps p.tables e below (T53.setTop (mkF m 114 #[iv u0, iv u1, iv u2, iv u3, iv u4, iv u5, iv (0 : Int32), iv (4 : Int32), iv (4 : Int32), rv b38, iv (u0 &&& (255 : Int32)), .unset, .unset, .unset, .unset] [(.int (u1 &&& (255 : Int32)))])) _
        refine XS.istore X53.here hx rfl (hb hby at_114) rfl (l' := #[iv u0, iv u1, iv u2, iv u3, iv u4, iv u5, iv (0 : Int32), iv (4 : Int32), iv (4 : Int32), rv b38, iv (u0 &&& (255 : Int32)), iv (u1 &&& (255 : Int32)), .unset, .unset, .unset]) rfl ?_
        show Steps p.tables e below (T53.setTop (mkF m 116 #[iv u0, iv u1, iv u2, iv u3, iv u4, iv u5, iv (0 : Int32), iv (4 : Int32), iv (4 : Int32), rv b38, iv (u0 &&& (255 : Int32)), iv (u1 &&& (255 : Int32)), .unset, .unset, .unset] [])) _
        refine XS.iload X53.here hx rfl (hb hby at_116) rfl ?_
        show Steps p.tables e below (T53.setTop (mkF m 118 #[iv u0, iv u1, iv u2, iv u3, iv u4, iv u5, iv (0 : Int32), iv (4 : Int32), iv (4 : Int32), rv b38, iv (u0 &&& (255 : Int32)), iv (u1 &&& (255 : Int32)), .unset, .unset, .unset] [(.int (0 : Int32))])) _
        refine XS.ifNo X53.here hx rfl (hb hby at_118) rfl ((if0 _ _).trans (teq (by decide : (0 : Int32) = (0 : Int32))).2) ?_
        show Steps p.tables e below (T53.setTop (mkF m 121 #[iv u0, iv u1, iv u2, iv u3, iv u4, iv u5, iv (0 : Int32), iv (4 : Int32), iv (4 : Int32), rv b38, iv (u0 &&& (255 : Int32)), iv (u1 &&& (255 : Int32)), .unset, .unset, .unset] [])) _
        refine XS.iloadN X53.here hx rfl (hb hby at_121) rfl ?_
        show Steps p.tables e below (T53.setTop (mkF m 122 #[iv u0, iv u1, iv u2, iv u3, iv u4, iv u5, iv (0 : Int32), iv (4 : Int32), iv (4 : Int32), rv b38, iv (u0 &&& (255 : Int32)), iv (u1 &&& (255 : Int32)), .unset, .unset, .unset] [(.int u2)])) _
        refine XS.goto X53.here hx rfl (pc0 := 122) (pc' := 126) rfl (hb hby at_122) (by decide) (by decide) ?_
        show Steps p.tables e below (T53.setTop (mkF m 126 #[iv u0, iv u1, iv u2, iv u3, iv u4, iv u5, iv (0 : Int32), iv (4 : Int32), iv (4 : Int32), rv b38, iv (u0 &&& (255 : Int32)), iv (u1 &&& (255 : Int32)), .unset, .unset, .unset] [(.int u2)])) _
        refine XS.sipush X53.here hx rfl (hb hby at_126) ?_
        show Steps p.tables e below (T53.setTop (mkF m 129 #[iv u0, iv u1, iv u2, iv u3, iv u4, iv u5, iv (0 : Int32), iv (4 : Int32), iv (4 : Int32), rv b38, iv (u0 &&& (255 : Int32)), iv (u1 &&& (255 : Int32)), .unset, .unset, .unset] [(.int (255 : Int32)), (.int u2)])) _
        refine XS.iand X53.here hx rfl (hb hby at_129) rfl ?_
        show Steps p.tables e below (T53.setTop (mkF m 130 #[iv u0, iv u1, iv u2, iv u3, iv u4, iv u5, iv (0 : Int32), iv (4 : Int32), iv (4 : Int32), rv b38, iv (u0 &&& (255 : Int32)), iv (u1 &&& (255 : Int32)), .unset, .unset, .unset] [(.int (u2 &&& (255 : Int32)))])) _
        refine XS.istore X53.here hx rfl (hb hby at_130) rfl (l' := #[iv u0, iv u1, iv u2, iv u3, iv u4, iv u5, iv (0 : Int32), iv (4 : Int32), iv (4 : Int32), rv b38, iv (u0 &&& (255 : Int32)), iv (u1 &&& (255 : Int32)), iv (u2 &&& (255 : Int32)), .unset, .unset]) rfl ?_
        show Steps p.tables e below (T53.setTop (mkF m 132 #[iv u0, iv u1, iv u2, iv u3, iv u4, iv u5, iv (0 : Int32), iv (4 : Int32), iv (4 : Int32), rv b38, iv (u0 &&& (255 : Int32)), iv (u1 &&& (255 : Int32)), iv (u2 &&& (255 : Int32)), .unset, .unset] [])) _
        refine XS.iload X53.here hx rfl (hb hby at_132) rfl ?_
        show Steps p.tables e below (T53.setTop (mkF m 134 #[iv u0, iv u1, iv u2, iv u3, iv u4, iv u5, iv (0 : Int32), iv (4 : Int32), iv (4 : Int32), rv b38, iv (u0 &&& (255 : Int32)), iv (u1 &&& (255 : Int32)), iv (u2 &&& (255 : Int32)), .unset, .unset] [(.int (0 : Int32))])) _
        refine XS.ifNo X53.here hx rfl (hb hby at_134) rfl ((if0 _ _).trans (teq (by decide : (0 : Int32) = (0 : Int32))).2) ?_
        show Steps p.tables e below (T53.setTop (mkF m 137 #[iv u0, iv u1, iv u2, iv u3, iv u4, iv u5, iv (0 : Int32), iv (4 : Int32), iv (4 : Int32), rv b38, iv (u0 &&& (255 : Int32)), iv (u1 &&& (255 : Int32)), iv (u2 &&& (255 : Int32)), .unset, .unset] [])) _
        refine XS.iloadN X53.here hx rfl (hb hby at_137) rfl ?_
        show Steps p.tables e below (T53.setTop (mkF m 138 #[iv u0, iv u1, iv u2, iv u3, iv u4, iv u5, iv (0 : Int32), iv (4 : Int32), iv (4 : Int32), rv b38, iv (u0 &&& (255 : Int32)), iv (u1 &&& (255 : Int32)), iv (u2 &&& (255 : Int32)), .unset, .unset] [(.int u3)])) _
        refine XS.goto X53.here hx rfl (pc0 := 138) (pc' := 143) rfl (hb hby at_138) (by decide) (by decide) ?_
        show Steps p.tables e below (T53.setTop (mkF m 143 #[iv u0, iv u1, iv u2, iv u3, iv u4, iv u5, iv (0 : Int32), iv (4 : Int32), iv (4 : Int32), rv b38, iv (u0 &&& (255 : Int32)), iv (u1 &&& (255 : Int32)), iv (u2 &&& (255 : Int32)), .unset, .unset] [(.int u3)])) _
        refine XS.sipush X53.here hx rfl (hb hby at_143) ?_
        show Steps p.tables e below (T53.setTop (mkF m 146 #[iv u0, iv u1, iv u2, iv u3, iv u4, iv u5, iv (0 : Int32), iv (4 : Int32), iv (4 : Int32), rv b38, iv (u0 &&& (255 : Int32)), iv (u1 &&& (255 : Int32)), iv (u2 &&& (255 : Int32)), .unset, .unset] [(.int (255 : Int32)), (.int u3)])) _
        refine XS.iand X53.here hx rfl (hb hby at_146) rfl ?_
        show Steps p.tables e below (T53.setTop (mkF m 147 #[iv u0, iv u1, iv u2, iv u3, iv u4, iv u5, iv (0 : Int32), iv (4 : Int32), iv (4 : Int32), rv b38, iv (u0 &&& (255 : Int32)), iv (u1 &&& (255 : Int32)), iv (u2 &&& (255 : Int32)), .unset, .unset] [(.int (u3 &&& (255 : Int32)))])) _
        refine XS.istore X53.here hx rfl (hb hby at_147) rfl (l' := #[iv u0, iv u1, iv u2, iv u3, iv u4, iv u5, iv (0 : Int32), iv (4 : Int32), iv (4 : Int32), rv b38, iv (u0 &&& (255 : Int32)), iv (u1 &&& (255 : Int32)), iv (u2 &&& (255 : Int32)), iv (u3 &&& (255 : Int32)), .unset]) rfl ?_
        show Steps p.tables e below (T53.setTop (mkF m 149 #[iv u0, iv u1, iv u2, iv u3, iv u4, iv u5, iv (0 : Int32), iv (4 : Int32), iv (4 : Int32), rv b38, iv (u0 &&& (255 : Int32)), iv (u1 &&& (255 : Int32)), iv (u2 &&& (255 : Int32)), iv (u3 &&& (255 : Int32)), .unset] [])) _
        refine XS.iload X53.here hx rfl (hb hby at_149) rfl ?_
        show Steps p.tables e below (T53.setTop (mkF m 151 #[iv u0, iv u1, iv u2, iv u3, iv u4, iv u5, iv (0 : Int32), iv (4 : Int32), iv (4 : Int32), rv b38, iv (u0 &&& (255 : Int32)), iv (u1 &&& (255 : Int32)), iv (u2 &&& (255 : Int32)), iv (u3 &&& (255 : Int32)), .unset] [(.int (u0 &&& (255 : Int32)))])) _
        refine XS.iload X53.here hx rfl (hb hby at_151) rfl ?_
        show Steps p.tables e below (T53.setTop (mkF m 153 #[iv u0, iv u1, iv u2, iv u3, iv u4, iv u5, iv (0 : Int32), iv (4 : Int32), iv (4 : Int32), rv b38, iv (u0 &&& (255 : Int32)), iv (u1 &&& (255 : Int32)), iv (u2 &&& (255 : Int32)), iv (u3 &&& (255 : Int32)), .unset] [(.int (u1 &&& (255 : Int32))), (.int (u0 &&& (255 : Int32)))])) _
        refine XS.iload X53.here hx rfl (hb hby at_153) rfl ?_
        show Steps p.tables e below (T53.setTop (mkF m 155 #[iv u0, iv u1, iv u2, iv u3, iv u4, iv u5, iv (0 : Int32), iv (4 : Int32), iv (4 : Int32), rv b38, iv (u0 &&& (255 : Int32)), iv (u1 &&& (255 : Int32)), iv (u2 &&& (255 : Int32)), iv (u3 &&& (255 : Int32)), .unset] [(.int (u2 &&& (255 : Int32))), (.int (u1 &&& (255 : Int32))), (.int (u0 &&& (255 : Int32)))])) _
        refine XS.iload X53.here hx rfl (hb hby at_155) rfl ?_
        show Steps p.tables e below (T53.setTop (mkF m 157 #[iv u0, iv u1, iv u2, iv u3, iv u4, iv u5, iv (0 : Int32), iv (4 : Int32), iv (4 : Int32), rv b38, iv (u0 &&& (255 : Int32)), iv (u1 &&& (255 : Int32)), iv (u2 &&& (255 : Int32)), iv (u3 &&& (255 : Int32)), .unset] [(.int (u3 &&& (255 : Int32))), (.int (u2 &&& (255 : Int32))), (.int (u1 &&& (255 : Int32))), (.int (u0 &&& (255 : Int32)))])) _
        refine XS.iload X53.here hx rfl (hb hby at_157) rfl ?_
        show Steps p.tables e below (T53.setTop (mkF m 159 #[iv u0, iv u1, iv u2, iv u3, iv u4, iv u5, iv (0 : Int32), iv (4 : Int32), iv (4 : Int32), rv b38, iv (u0 &&& (255 : Int32)), iv (u1 &&& (255 : Int32)), iv (u2 &&& (255 : Int32)), iv (u3 &&& (255 : Int32)), .unset] [(.int (4 : Int32)), (.int (u3 &&& (255 : Int32))), (.int (u2 &&& (255 : Int32))), (.int (u1 &&& (255 : Int32))), (.int (u0 &&& (255 : Int32)))])) _
        refine st56 _ ?_
        show Steps p.tables e below (T56.setTop (mkF m 162 #[iv u0, iv u1, iv u2, iv u3, iv u4, iv u5, iv (0 : Int32), iv (4 : Int32), iv (4 : Int32), rv b38, iv (u0 &&& (255 : Int32)), iv (u1 &&& (255 : Int32)), iv (u2 &&& (255 : Int32)), iv (u3 &&& (255 : Int32)), .unset] [(.int (own_ex (u0 &&& (255 : Int32)) (u1 &&& (255 : Int32)) (u2 &&& (255 : Int32)) (u3 &&& (255 : Int32)) (4 : Int32)))])) _
        refine XS.istore X56.here hx rfl (hb hby at_162) rfl (l' := #[iv u0, iv u1, iv u2, iv u3, iv u4, iv u5, iv (0 : Int32), iv (4 : Int32), iv (4 : Int32), rv b38, iv (u0 &&& (255 : Int32)), iv (u1 &&& (255 : Int32)), iv (u2 &&& (255 : Int32)), iv (u3 &&& (255 : Int32)), iv (own_ex (u0 &&& (255 : Int32)) (u1 &&& (255 : Int32)) (u2 &&& (255 : Int32)) (u3 &&& (255 : Int32)) (4 : Int32))]) rfl ?_
        show Steps p.tables e below (T56.setTop (mkF m 164 #[iv u0, iv u1, iv u2, iv u3, iv u4, iv u5, iv (0 : Int32), iv (4 : Int32), iv (4 : Int32), rv b38, iv (u0 &&& (255 : Int32)), iv (u1 &&& (255 : Int32)), iv (u2 &&& (255 : Int32)), iv (u3 &&& (255 : Int32)), iv (own_ex (u0 &&& (255 : Int32)) (u1 &&& (255 : Int32)) (u2 &&& (255 : Int32)) (u3 &&& (255 : Int32)) (4 : Int32))] [])) _
        refine XS.aload X56.here hx rfl (hb hby at_164) rfl rfl ?_
        show Steps p.tables e below (T56.setTop (mkF m 166 #[iv u0, iv u1, iv u2, iv u3, iv u4, iv u5, iv (0 : Int32), iv (4 : Int32), iv (4 : Int32), rv b38, iv (u0 &&& (255 : Int32)), iv (u1 &&& (255 : Int32)), iv (u2 &&& (255 : Int32)), iv (u3 &&& (255 : Int32)), iv (own_ex (u0 &&& (255 : Int32)) (u1 &&& (255 : Int32)) (u2 &&& (255 : Int32)) (u3 &&& (255 : Int32)) (4 : Int32))] [(.ref b38)])) _
        refine XS.iload X56.here hx rfl (hb hby at_166) rfl ?_
        show Steps p.tables e below (T56.setTop (mkF m 168 #[iv u0, iv u1, iv u2, iv u3, iv u4, iv u5, iv (0 : Int32), iv (4 : Int32), iv (4 : Int32), rv b38, iv (u0 &&& (255 : Int32)), iv (u1 &&& (255 : Int32)), iv (u2 &&& (255 : Int32)), iv (u3 &&& (255 : Int32)), iv (own_ex (u0 &&& (255 : Int32)) (u1 &&& (255 : Int32)) (u2 &&& (255 : Int32)) (u3 &&& (255 : Int32)) (4 : Int32))] [(.int (0 : Int32)), (.ref b38)])) _
        refine st57 _ ?_
        show Steps p.tables e below (T57.setTop (mkF m 171 #[iv u0, iv u1, iv u2, iv u3, iv u4, iv u5, iv (0 : Int32), iv (4 : Int32), iv (4 : Int32), rv b38, iv (u0 &&& (255 : Int32)), iv (u1 &&& (255 : Int32)), iv (u2 &&& (255 : Int32)), iv (u3 &&& (255 : Int32)), iv (own_ex (u0 &&& (255 : Int32)) (u1 &&& (255 : Int32)) (u2 &&& (255 : Int32)) (u3 &&& (255 : Int32)) (4 : Int32))] [(.int (own_sl4 (u0.toInt8.toInt32) (u1.toInt8.toInt32) (u2.toInt8.toInt32) (u3.toInt8.toInt32)))])) _
        refine XS.iload X57.here hx rfl (hb hby at_171) rfl ?_
        show Steps p.tables e below (T57.setTop (mkF m 173 #[iv u0, iv u1, iv u2, iv u3, iv u4, iv u5, iv (0 : Int32), iv (4 : Int32), iv (4 : Int32), rv b38, iv (u0 &&& (255 : Int32)), iv (u1 &&& (255 : Int32)), iv (u2 &&& (255 : Int32)), iv (u3 &&& (255 : Int32)), iv (own_ex (u0 &&& (255 : Int32)) (u1 &&& (255 : Int32)) (u2 &&& (255 : Int32)) (u3 &&& (255 : Int32)) (4 : Int32))] [(.int (own_ex (u0 &&& (255 : Int32)) (u1 &&& (255 : Int32)) (u2 &&& (255 : Int32)) (u3 &&& (255 : Int32)) (4 : Int32))), (.int (own_sl4 (u0.toInt8.toInt32) (u1.toInt8.toInt32) (u2.toInt8.toInt32) (u3.toInt8.toInt32)))])) _
        refine XS.icmpNo X57.here hx rfl (hb hby at_173) rfl (teq (own_plain4 _ _ _ _)).2 ?_
        show Steps p.tables e below (T57.setTop (mkF m 176 #[iv u0, iv u1, iv u2, iv u3, iv u4, iv u5, iv (0 : Int32), iv (4 : Int32), iv (4 : Int32), rv b38, iv (u0 &&& (255 : Int32)), iv (u1 &&& (255 : Int32)), iv (u2 &&& (255 : Int32)), iv (u3 &&& (255 : Int32)), iv (own_ex (u0 &&& (255 : Int32)) (u1 &&& (255 : Int32)) (u2 &&& (255 : Int32)) (u3 &&& (255 : Int32)) (4 : Int32))] [])) _
        refine XS.iconst X57.here hx rfl (hb hby at_176) ?_
        show Steps p.tables e below (T57.setTop (mkF m 177 #[iv u0, iv u1, iv u2, iv u3, iv u4, iv u5, iv (0 : Int32), iv (4 : Int32), iv (4 : Int32), rv b38, iv (u0 &&& (255 : Int32)), iv (u1 &&& (255 : Int32)), iv (u2 &&& (255 : Int32)), iv (u3 &&& (255 : Int32)), iv (own_ex (u0 &&& (255 : Int32)) (u1 &&& (255 : Int32)) (u2 &&& (255 : Int32)) (u3 &&& (255 : Int32)) (4 : Int32))] [(.int (1 : Int32))])) _
        refine XS.goto X57.here hx rfl (pc0 := 177) (pc' := 181) rfl (hb hby at_177) (by decide) (by decide) ?_
        show Steps p.tables e below (T57.setTop (mkF m 181 #[iv u0, iv u1, iv u2, iv u3, iv u4, iv u5, iv (0 : Int32), iv (4 : Int32), iv (4 : Int32), rv b38, iv (u0 &&& (255 : Int32)), iv (u1 &&& (255 : Int32)), iv (u2 &&& (255 : Int32)), iv (u3 &&& (255 : Int32)), iv (own_ex (u0 &&& (255 : Int32)) (u1 &&& (255 : Int32)) (u2 &&& (255 : Int32)) (u3 &&& (255 : Int32)) (4 : Int32))] [(.int (1 : Int32))])) _
        exact retN X57 hx (t := .boolean) Bd.returns (by simp) (hb hby at_181) hr
      · show Q0 Z u0 u1 u2 u3 u4 u5 la lc sa sc ta tc h0 n0 _ T57.heap _
        rw [eq57]
        exact ⟨rfl, N57⟩
  · skip
    rw [hs] at S1
    rcases own_av u5 with hv | hv | hv | hv
    · skip
      rw [hv] at S1
      obtain ⟨T58, h58, k58, X58, e58, E58, A58, st58⟩ := newP X0 hx hZ (hw _ (List.mem_of_getElem? (i := 0) rfl)) e0 (g := (mkF m 25 #[iv u0, iv u1, iv u2, iv u3, iv u4, iv u5, iv (1 : Int32), iv (1 : Int32), iv (2 : Int32), .unset, .unset, .unset, .unset, .unset, .unset] [(.int (2 : Int32))])) rfl (hb hby at_25) rfl (by decide) (cap := 2) (by decide) (by decide) (by decide) (by decide)
      obtain ⟨b58, g58⟩ : ∃ z, z = h0.size := ⟨_, rfl⟩
      rw [← g58] at A58 st58
      have ge_b58 : n0 ≤ b58 := Nat.le_trans Z0 (Nat.le_of_eq g58.symm)
      have Od59 := hO.ext E58
      have V58 : Arv Z h58 b58 k58 .byte (2 : Int32) [(.int (0 : Int32)), (.int (0 : Int32))] (.int (0 : Int32)) := (Arv.new A58 (by decide)).pad (pad_rep [] (.int (0 : Int32)) 2)
      have Z58 : n0 ≤ h58.size := Nat.le_trans Z0 E58.1
      obtain ⟨cl60, Ar60, qa60, Sa60, Na60, Ha60, Ga60⟩ := id V58
      have hin60 : ¬ ((0 : Int32) < 0 ∨ cl60.slots.size ≤ ((0 : Int32)).toNatClampNeg) := inb_of Sa60 ⟨by decide, by decide⟩
      obtain ⟨T61, h61, X61, e61, W61, st61⟩ := stB X58 hx hZ e58 Ar60 (j := (0 : Int32)) hin60 (g := (mkF m 34 #[iv u0, iv u1, iv u2, iv u3, iv u4, iv u5, iv (1 : Int32), iv (1 : Int32), iv (2 : Int32), rv b58, .unset, .unset, .unset, .unset, .unset] [(.int (u0.toInt8.toInt32)), (.int (0 : Int32)), (.ref b58)])) rfl rfl (hb hby at_34)
      rw [own_nb] at W61
      have V61 : Arv Z h61 b58 k58 .byte (2 : Int32) [(.int (u0.toInt8.toInt32)), (.int (0 : Int32))] (.int (0 : Int32)) := Arv.set Ar60 qa60 Sa60 Na60 Ha60 Ga60 (own_fb _) W61 0 rfl (Nat.le_of_ble_eq_true rfl)
      have N61 := Fr.snoc X61 N0 ge_b58
      have Z61 : n0 ≤ h61.size := Nat.le_trans Z58 (Keep.of_wr W61).1
      have Od62 := Od59.wr W61 ge_b58
      obtain ⟨cl64, Ar64, qa64, Sa64, Na64, Ha64, Ga64⟩ := id V61
      have hin64 : ¬ ((1 : Int32) < 0 ∨ cl64.slots.size ≤ ((1 : Int32)).toNatClampNeg) := inb_of Sa64 ⟨by decide, by decide⟩
      obtain ⟨T65, h65, X65, e65, W65, st65⟩ := stB X61 hx hZ e61 Ar64 (j := (1 : Int32)) hin64 (g := (mkF m 46 #[iv u0, iv u1, iv u2, iv u3, iv u4, iv u5, iv (1 : Int32), iv (1 : Int32), iv (2 : Int32), rv b58, .unset, .unset, .unset, .unset, .unset] [(.int (u1.toInt8.toInt32)), (.int (1 : Int32)), (.ref b58)])) rfl rfl (hb hby at_46)
      rw [own_nb] at W65
      have V65 : Arv Z h65 b58 k58 .byte (2 : Int32) [(.int (u0.toInt8.toInt32)), (.int (u1.toInt8.toInt32))] (.int (0 : Int32)) := Arv.set Ar64 qa64 Sa64 Na64 Ha64 Ga64 (own_fb _) W65 1 rfl (Nat.le_of_ble_eq_true rfl)
      have N65 := Fr.snoc X65 N61 ge_b58
      have Z65 : n0 ≤ h65.size := Nat.le_trans Z61 (Keep.of_wr W65).1
      have Od66 := Od62.wr W65 ge_b58
      obtain ⟨_, _, ⟨T68, L68, k68, n68⟩, -, X68, ⟨Lc68, hQ68, l68, y68, z68⟩, st68⟩ := Jvm.LawKit.callS X65 hx (y := (⟨"com/example/rivanna/rivanna/core/json/Utf8SequenceLengthPinLaw", "expected", "(IIIII)I"⟩ : MethodName)) hown (mvT hZ (hw _ (List.mem_of_getElem? (i := 1) rfl))) (mvT hZ (hw _ (List.mem_of_getElem? (i := 2) rfl))) (mvT hZ (hw _ (List.mem_of_getElem? (i := 3) rfl))) (mvT hZ (hw _ (List.mem_of_getElem? (i := 4) rfl))) (by decide) (backOf (W := 0) (rmEx l Z a0 hw [] (u1 &&& (255 : Int32)) (u2 &&& (255 : Int32)) (u3 &&& (255 : Int32)) (u4 &&& (255 : Int32)) (1 : Int32) h65 n0 Z65) hZ (hw _ (List.mem_of_getElem? (i := 4) rfl)) (hw _ (List.mem_of_getElem? (i := 3) rfl)) (by decide) (by decide)) (g := (mkF m 159 #[iv u0, iv u1, iv u2, iv u3, iv u4, iv u5, iv (1 : Int32), iv (1 : Int32), iv (2 : Int32), rv b58, iv (u1 &&& (255 : Int32)), iv (u2 &&& (255 : Int32)), iv (u3 &&& (255 : Int32)), iv (u4 &&& (255 : Int32)), .unset] [(.int (1 : Int32)), (.int (u4 &&& (255 : Int32))), (.int (u3 &&& (255 : Int32))), (.int (u2 &&& (255 : Int32))), (.int (u1 &&& (255 : Int32)))])) rfl (by rw [hml]; rfl) (argsL := [(.int (u1 &&& (255 : Int32))), (.int (u2 &&& (255 : Int32))), (.int (u3 &&& (255 : Int32))), (.int (u4 &&& (255 : Int32))), (.int (1 : Int32))]) (rest := []) (lenOf pd_1 rfl) rfl (by show 2 * 0 + _ ≤ _; exact Nat.le_of_eq rfl) (hb hby at_159) (fun _ _ => ⟨rfl, e65, (by decide : 1 + 0 ≤ _), (by decide : 2 + 0 ≤ _)⟩)
      dsimp only [Pt.U, Pt.locs, Pt.cells, Pt.slots] at X68 l68 y68 z68 st68 hQ68
      subst y68 z68
      obtain ⟨rfl, Nq68, eq68⟩ := hQ68
      have N68 : Fr n0 L68 := by rw [l68]; exact Fr.app N65 Nq68
      obtain ⟨_, _, ⟨T69, L69, k69, n69⟩, -, X69, ⟨Lc69, hQ69, l69, y69, z69⟩, st69⟩ := Jvm.LawKit.callS X68 hx (y := (⟨"com/example/rivanna/rivanna/core/json/Utf8", "sequenceLength", "([BI)I"⟩ : MethodName)) hown (mvT hZ (hw _ (List.mem_of_getElem? (i := 5) rfl))) (mvT hZ (hw _ (List.mem_of_getElem? (i := 6) rfl))) (mvT hZ (hw _ (List.mem_of_getElem? (i := 7) rfl))) (mvT hZ (hw _ (List.mem_of_getElem? (i := 8) rfl))) (by decide) (backOf (W := 0) (rmSL11 l Z a0 hw [] b58 k58 (u0.toInt8.toInt32) (u1.toInt8.toInt32) la lc sa sc ta tc h65 n0 Z65 V65 Od66 hS1 hT1 hS2 hT2 hS3 hT3) hZ (hw _ (List.mem_of_getElem? (i := 8) rfl)) (hw _ (List.mem_of_getElem? (i := 7) rfl)) (by decide) (by decide)) (g := (mkF m 168 #[iv u0, iv u1, iv u2, iv u3, iv u4, iv u5, iv (1 : Int32), iv (1 : Int32), iv (2 : Int32), rv b58, iv (u1 &&& (255 : Int32)), iv (u2 &&& (255 : Int32)), iv (u3 &&& (255 : Int32)), iv (u4 &&& (255 : Int32)), iv (own_ex (u1 &&& (255 : Int32)) (u2 &&& (255 : Int32)) (u3 &&& (255 : Int32)) (u4 &&& (255 : Int32)) (1 : Int32))] [(.int (1 : Int32)), (.ref b58)])) rfl (by rw [hml]; rfl) (argsL := [(.ref b58), (.int (1 : Int32))]) (rest := []) (lenOf pd_2 rfl) rfl (by show 2 * 0 + _ ≤ _; exact Nat.le_of_eq rfl) (hb hby at_168) (fun _ _ => ⟨rfl, eq68, (by decide : 1 + 0 ≤ _), (by decide : 2 + 0 ≤ _)⟩)
      dsimp only [Pt.U, Pt.locs, Pt.cells, Pt.slots] at X69 l69 y69 z69 st69 hQ69
      subst y69 z69
      obtain ⟨rfl, Nq69, eq69⟩ := hQ69
      have N69 : Fr n0 L69 := by rw [l69]; exact Fr.app N68 Nq69
      obtain ⟨fs, hr, hrun, hended, hW, hsame⟩ := X69.leave (v := some (.int (1 : Int32))) (fun h => by rw [Bd.returns] at h; cases h)
      refine ⟨_, _, S1 _ ?_, hrun, hended, _, _, rfl, ?_, ⟨_, rfl⟩, hW, hsame.mono (by decide) (by decide)⟩
      · skip
        show Steps p.tables e below (s₁.setTop (mkF m 16 #[iv u0, iv u1, iv u2, iv u3, iv u4, iv u5, iv (1 : Int32), iv (1 : Int32), .unset, .unset, .unset, .unset, .unset, .unset, .unset] [])) _
        refine XS.iload X0.here hx rfl (hb hby at_16) rfl ?_
        show Steps p.tables e below (s₁.setTop (mkF m 18 #[iv u0, iv u1, iv u2, iv u3, iv u4, iv u5, iv (1 : Int32), iv (1 : Int32), .unset, .unset, .unset, .unset, .unset, .unset, .unset] [(.int (1 : Int32))])) _
        refine XS.iload X0.here hx rfl (hb hby at_18) rfl ?_
        show Steps p.tables e below (s₁.setTop (mkF m 20 #[iv u0, iv u1, iv u2, iv u3, iv u4, iv u5, iv (1 : Int32), iv (1 : Int32), .unset, .unset, .unset, .unset, .unset, .unset, .unset] [(.int (1 : Int32)), (.int (1 : Int32))])) _
        refine XS.iadd X0.here hx rfl (hb hby at_20) rfl ?_
        show Steps p.tables e below (s₁.setTop (mkF m 21 #[iv u0, iv u1, iv u2, iv u3, iv u4, iv u5, iv (1 : Int32), iv (1 : Int32), .unset, .unset, .unset, .unset, .unset, .unset, .unset] [(.int (2 : Int32))])) _
        refine XS.istore X0.here hx rfl (hb hby at_21) rfl (l' := #[iv u0, iv u1, iv u2, iv u3, iv u4, iv u5, iv (1 : Int32), iv (1 : Int32), iv (2 : Int32), .unset, .unset, .unset, .unset, .unset, .unset]) rfl ?_
        show Steps p.tables e below (s₁.setTop (mkF m 23 #[iv u0, iv u1, iv u2, iv u3, iv u4, iv u5, iv (1 : Int32), iv (1 : Int32), iv (2 : Int32), .unset, .unset, .unset, .unset, .unset, .unset] [])) _
        refine XS.iload X0.here hx rfl (hb hby at_23) rfl ?_
        show Steps p.tables e below (s₁.setTop (mkF m 25 #[iv u0, iv u1, iv u2, iv u3, iv u4, iv u5, iv (1 : Int32), iv (1 : Int32), iv (2 : Int32), .unset, .unset, .unset, .unset, .unset, .unset] [(.int (2 : Int32))])) _
        refine st58 _ ?_
        show Steps p.tables e below (T58.setTop (mkF m 27 #[iv u0, iv u1, iv u2, iv u3, iv u4, iv u5, iv (1 : Int32), iv (1 : Int32), iv (2 : Int32), .unset, .unset, .unset, .unset, .unset, .unset] [(.ref b58)])) _
        refine XS.astore X58.here hx rfl (hb hby at_27) rfl rfl (l' := #[iv u0, iv u1, iv u2, iv u3, iv u4, iv u5, iv (1 : Int32), iv (1 : Int32), iv (2 : Int32), rv b58, .unset, .unset, .unset, .unset, .unset]) rfl ?_
        show Steps p.tables e below (T58.setTop (mkF m 29 #[iv u0, iv u1, iv u2, iv u3, iv u4, iv u5, iv (1 : Int32), iv (1 : Int32), iv (2 : Int32), rv b58, .unset, .unset, .unset, .unset, .unset] [])) _
        refine XS.aload X58.here hx rfl (hb hby at_29) rfl rfl ?_
        show Steps p.tables e below (T58.setTop (mkF m 31 #[iv u0, iv u1, iv u2, iv u3, iv u4, iv u5, iv (1 : Int32), iv (1 : Int32), iv (2 : Int32), rv b58, .unset, .unset, .unset, .unset, .unset] [(.ref b58)])) _
        refine XS.iconst X58.here hx rfl (hb hby at_31) ?_
        show Steps p.tables e below (T58.setTop (mkF m 32 #[iv u0, iv u1, iv u2, iv u3, iv u4, iv u5, iv (1 : Int32), iv (1 : Int32), iv (2 : Int32), rv b58, .unset, .unset, .unset, .unset, .unset] [(.int (0 : Int32)), (.ref b58)])) _
        refine XS.iloadN X58.here hx rfl (hb hby at_32) rfl ?_
        show Steps p.tables e below (T58.setTop (mkF m 33 #[iv u0, iv u1, iv u2, iv u3, iv u4, iv u5, iv (1 : Int32), iv (1 : Int32), iv (2 : Int32), rv b58, .unset, .unset, .unset, .unset, .unset] [(.int u0), (.int (0 : Int32)), (.ref b58)])) _
        refine XS.i2b X58.here hx rfl (hb hby at_33) rfl ?_
        show Steps p.tables e below (T58.setTop (mkF m 34 #[iv u0, iv u1, iv u2, iv u3, iv u4, iv u5, iv (1 : Int32), iv (1 : Int32), iv (2 : Int32), rv b58, .unset, .unset, .unset, .unset, .unset] [(.int (u0.toInt8.toInt32)), (.int (0 : Int32)), (.ref b58)])) _
        refine st61 _ ?_
        show Steps p.tables e below (T61.setTop (mkF m 35 #[iv u0, iv u1, iv u2, iv u3, iv u4, iv u5, iv (1 : Int32), iv (1 : Int32), iv (2 : Int32), rv b58, .unset, .unset, .unset, .unset, .unset] [])) _
        refine XS.iload X61.here hx rfl (hb hby at_35) rfl ?_
        show Steps p.tables e below (T61.setTop (mkF m 37 #[iv u0, iv u1, iv u2, iv u3, iv u4, iv u5, iv (1 : Int32), iv (1 : Int32), iv (2 : Int32), rv b58, .unset, .unset, .unset, .unset, .unset] [(.int (2 : Int32))])) _
        refine XS.iconst X61.here hx rfl (hb hby at_37) ?_
        show Steps p.tables e below (T61.setTop (mkF m 38 #[iv u0, iv u1, iv u2, iv u3, iv u4, iv u5, iv (1 : Int32), iv (1 : Int32), iv (2 : Int32), rv b58, .unset, .unset, .unset, .unset, .unset] [(.int (1 : Int32)), (.int (2 : Int32))])) _
        refine XS.icmpNo X61.here hx rfl (hb hby at_38) rfl (tlt (by decide : (1 : Int32) < (2 : Int32))).2.2.2 ?_
        show Steps p.tables e below (T61.setTop (mkF m 41 #[iv u0, iv u1, iv u2, iv u3, iv u4, iv u5, iv (1 : Int32), iv (1 : Int32), iv (2 : Int32), rv b58, .unset, .unset, .unset, .unset, .unset] [])) _
        refine XS.aload X61.here hx rfl (hb hby at_41) rfl rfl ?_
        show Steps p.tables e below (T61.setTop (mkF m 43 #[iv u0, iv u1, iv u2, iv u3, iv u4, iv u5, iv (1 : Int32), iv (1 : Int32), iv (2 : Int32), rv b58, .unset, .unset, .unset, .unset, .unset] [(.ref b58)])) _
        refine XS.iconst X61.here hx rfl (hb hby at_43) ?_
        show Steps p.tables e below (T61.setTop (mkF m 44 #[iv u0, iv u1, iv u2, iv u3, iv u4, iv u5, iv (1 : Int32), iv (1 : Int32), iv (2 : Int32), rv b58, .unset, .unset, .unset, .unset, .unset] [(.int (1 : Int32)), (.ref b58)])) _
        refine XS.iloadN X61.here hx rfl (hb hby at_44) rfl ?_
        show Steps p.tables e below (T61.setTop (mkF m 45 #[iv u0, iv u1, iv u2, iv u3, iv u4, iv u5, iv (1 : Int32), iv (1 : Int32), iv (2 : Int32), rv b58, .unset, .unset, .unset, .unset, .unset] [(.int u1), (.int (1 : Int32)), (.ref b58)])) _
        refine XS.i2b X61.here hx rfl (hb hby at_45) rfl ?_
        show Steps p.tables e below (T61.setTop (mkF m 46 #[iv u0, iv u1, iv u2, iv u3, iv u4, iv u5, iv (1 : Int32), iv (1 : Int32), iv (2 : Int32), rv b58, .unset, .unset, .unset, .unset, .unset] [(.int (u1.toInt8.toInt32)), (.int (1 : Int32)), (.ref b58)])) _
        refine st65 _ ?_
        show Steps p.tables e below (T65.setTop (mkF m 47 #[iv u0, iv u1, iv u2, iv u3, iv u4, iv u5, iv (1 : Int32), iv (1 : Int32), iv (2 : Int32), rv b58, .unset, .unset, .unset, .unset, .unset] [])) _
        refine XS.iload X65.here hx rfl (hb hby at_47) rfl ?_
        show Steps p.tables e below (T65.setTop (mkF m 49 #[iv u0, iv u1, iv u2, iv u3, iv u4, iv u5, iv (1 : Int32), iv (1 : Int32), iv (2 : Int32), rv b58, .unset, .unset, .unset, .unset, .unset] [(.int (2 : Int32))])) _
        refine XS.iconst X65.here hx rfl (hb hby at_49) ?_
        show Steps p.tables e below (T65.setTop (mkF m 50 #[iv u0, iv u1, iv u2, iv u3, iv u4, iv u5, iv (1 : Int32), iv (1 : Int32), iv (2 : Int32), rv b58, .unset, .unset, .unset, .unset, .unset] [(.int (2 : Int32)), (.int (2 : Int32))])) _
        refine XS.icmpYes X65.here hx rfl (pc0 := 50) (pc' := 59) rfl (hb hby at_50) rfl (flt (by decide : ¬ ((2 : Int32) < (2 : Int32)))).2.2.2 (by decide) (by decide) ?_
        show Steps p.tables e below (T65.setTop (mkF m 59 #[iv u0, iv u1, iv u2, iv u3, iv u4, iv u5, iv (1 : Int32), iv (1 : Int32), iv (2 : Int32), rv b58, .unset, .unset, .unset, .unset, .unset] [])) _
        refine XS.iload X65.here hx rfl (hb hby at_59) rfl ?_
        show Steps p.tables e below (T65.setTop (mkF m 61 #[iv u0, iv u1, iv u2, iv u3, iv u4, iv u5, iv (1 : Int32), iv (1 : Int32), iv (2 : Int32), rv b58, .unset, .unset, .unset, .unset, .unset] [(.int (2 : Int32))])) _
        refine XS.iconst X65.here hx rfl (hb hby at_61) ?_
        show Steps p.tables e below (T65.setTop (mkF m 62 #[iv u0, iv u1, iv u2, iv u3, iv u4, iv u5, iv (1 : Int32), iv (1 : Int32), iv (2 : Int32), rv b58, .unset, .unset, .unset, .unset, .unset] [(.int (3 : Int32)), (.int (2 : Int32))])) _
        refine XS.icmpYes X65.here hx rfl (pc0 := 62) (pc' := 71) rfl (hb hby at_62) rfl (flt (by decide : ¬ ((3 : Int32) < (2 : Int32)))).2.2.2 (by decide) (by decide) ?_
        show Steps p.tables e below (T65.setTop (mkF m 71 #[iv u0, iv u1, iv u2, iv u3, iv u4, iv u5, iv (1 : Int32), iv (1 : Int32), iv (2 : Int32), rv b58, .unset, .unset, .unset, .unset, .unset] [])) _
        refine XS.iload X65.here hx rfl (hb hby at_71) rfl ?_
        show Steps p.tables e below (T65.setTop (mkF m 73 #[iv u0, iv u1, iv u2, iv u3, iv u4, iv u5, iv (1 : Int32), iv (1 : Int32), iv (2 : Int32), rv b58, .unset, .unset, .unset, .unset, .unset] [(.int (2 : Int32))])) _
        refine XS.iconst X65.here hx rfl (hb hby at_73) ?_
        show Steps p.tables e below (T65.setTop (mkF m 74 #[iv u0, iv u1, iv u2, iv u3, iv u4, iv u5, iv (1 : Int32), iv (1 : Int32), iv (2 : Int32), rv b58, .unset, .unset, .unset, .unset, .unset] [(.int (4 : Int32)), (.int (2 : Int32))])) _
        refine XS.icmpYes X65.here hx rfl (pc0 := 74) (pc' := 84) rfl (hb hby at_74) rfl (flt (by decide : ¬ ((4 : Int32) < (2 : Int32)))).2.2.2 (by decide) (by decide) ?_
        show Steps p.tables e below (T65.setTop (mkF m 84 #[iv u0, iv u1, iv u2, iv u3, iv u4, iv u5, iv (1 : Int32), iv (1 : Int32), iv (2 : Int32), rv b58, .unset, .unset, .unset, .unset, .unset] [])) _
        refine XS.iload X65.here hx rfl (hb hby at_84) rfl ?_
        show Steps p.tables e below (T65.setTop (mkF m 86 #[iv u0, iv u1, iv u2, iv u3, iv u4, iv u5, iv (1 : Int32), iv (1 : Int32), iv (2 : Int32), rv b58, .unset, .unset, .unset, .unset, .unset] [(.int (1 : Int32))])) _
        refine XS.ifYes X65.here hx rfl (pc0 := 86) (pc' := 93) rfl (hb hby at_86) rfl ((if0 _ _).trans (feq (by decide : ¬ ((1 : Int32) = (0 : Int32)))).2) (by decide) (by decide) ?_
        show Steps p.tables e below (T65.setTop (mkF m 93 #[iv u0, iv u1, iv u2, iv u3, iv u4, iv u5, iv (1 : Int32), iv (1 : Int32), iv (2 : Int32), rv b58, .unset, .unset, .unset, .unset, .unset] [])) _
        refine XS.iloadN X65.here hx rfl (hb hby at_93) rfl ?_
        show Steps p.tables e below (T65.setTop (mkF m 94 #[iv u0, iv u1, iv u2, iv u3, iv u4, iv u5, iv (1 : Int32), iv (1 : Int32), iv (2 : Int32), rv b58, .unset, .unset, .unset, .unset, .unset] [(.int u1)])) _
        refine XS.sipush X65.here hx rfl (hb hby at_94) ?_
        show Steps p.tables e below (T65.setTop (mkF m 97 #[iv u0, iv u1, iv u2, iv u3, iv u4, iv u5, iv (1 : Int32), iv (1 : Int32), iv (2 : Int32), rv b58, .unset, .unset, .unset, .unset, .unset] [(.int (255 : Int32)), (.int u1)])) _
        refine XS.iand X65.here hx rfl (hb hby at_97) rfl ?_
        show Steps p.tables e below (T65.setTop (mkF m 98 #[iv u0, iv u1, iv u2, iv u3, iv u4, iv u5, iv (1 : Int32), iv (1 : Int32), iv (2 : Int32), rv b58, .unset, .unset, .unset, .unset, .unset] [(.int (u1 &&& (255 : Int32)))])) _
        refine XS.istore X65.here hx rfl (hb hby at_98) rfl (l' := #[iv u0, iv u1, iv u2, iv u3, iv u4, iv u5, iv (1 : Int32), iv (1 : Int32), iv (2 : Int32), rv b58, iv (u1 &&& (255 : Int32)), .unset, .unset, .unset, .unset]) rfl ?_
        show Steps p.tables e below (T65.setTop (mkF m 100 #[iv u0, iv u1, iv u2, iv u3, iv u4, iv u5, iv (1 : Int32), iv (1 : Int32), iv (2 : Int32), rv b58, iv (u1 &&& (255 : Int32)), .unset, .unset, .unset, .unset] [])) _
        refine XS.iload X65.here hx rfl (hb hby at_100) rfl ?_
        show Steps p.tables e below (T65.setTop (mkF m 102 #[iv u0, iv u1, iv u2, iv u3, iv u4, iv u5, iv (1 : Int32), iv (1 : Int32), iv (2 : Int32), rv b58, iv (u1 &&& (255 : Int32)), .unset, .unset, .unset, .unset] [(.int (1 : Int32))])) _
        refine XS.ifYes X65.here hx rfl (pc0 := 102) (pc' := 109) rfl (hb hby at_102) rfl ((if0 _ _).trans (feq (by decide : ¬ ((1 : Int32) = (0 : Int32)))).2) (by decide) (by decide) ?_
        show Steps p.tables e below (T65.setTop (mkF m 109 #[iv u0, iv u1, iv u2, iv u3, iv u4, iv u5, iv (1 : Int32), iv (1 : Int32), iv (2 : Int32), rv b58, iv (u1 &&& (255 : Int32)), .unset, .unset, .unset, .unset] [])) _
        refine XS.iloadN X65.here hx rfl (hb hby at_109) rfl ?_
        show Steps p.tables e below (T65.setTop (mkF m 110 #[iv u0, iv u1, iv u2, iv u3, iv u4, iv u5, iv (1 : Int32), iv (1 : Int32), iv (2 : Int32), rv b58, iv (u1 &&& (255 : Int32)), .unset, .unset, .unset, .unset] [(.int u2)])) _
        refine XS.sipush X65.here hx rfl (hb hby at_110) ?_
        show Steps p.tables e below (T65.setTop (mkF m 113 #[iv u0, iv u1, iv u2, iv u3, iv u4, iv u5, iv (1 : Int32), iv (1 : Int32), iv (2 : Int32), rv b58, iv (u1 &&& (255 : Int32)), .unset, .unset, .unset, .unset] [(.int (255 : Int32)), (.int u2)])) _
        refine XS.iand X65.here hx rfl (hb hby at_113) rfl ?_
        show Steps p.tables e below (T65.setTop (mkF m 114 #[iv u0, iv u1, iv u2, iv u3, iv u4, iv u5, iv (1 : Int32), iv (1 : Int32), iv (2 : Int32), rv b58, iv (u1 &&& (255 : Int32)), .unset, .unset, .unset, .unset] [(.int (u2 &&& (255 : Int32)))])) _
        refine XS.istore X65.here hx rfl (hb hby at_114) rfl (l' := #[iv u0, iv u1, iv u2, iv u3, iv u4, iv u5, iv (1 : Int32), iv (1 : Int32), iv (2 : Int32), rv b58, iv (u1 &&& (255 : Int32)), iv (u2 &&& (255 : Int32)), .unset, .unset, .unset]) rfl ?_
        show Steps p.tables e below (T65.setTop (mkF m 116 #[iv u0, iv u1, iv u2, iv u3, iv u4, iv u5, iv (1 : Int32), iv (1 : Int32), iv (2 : Int32), rv b58, iv (u1 &&& (255 : Int32)), iv (u2 &&& (255 : Int32)), .unset, .unset, .unset] [])) _
        refine XS.iload X65.here hx rfl (hb hby at_116) rfl ?_
        show Steps p.tables e below (T65.setTop (mkF m 118 #[iv u0, iv u1, iv u2, iv u3, iv u4, iv u5, iv (1 : Int32), iv (1 : Int32), iv (2 : Int32), rv b58, iv (u1 &&& (255 : Int32)), iv (u2 &&& (255 : Int32)), .unset, .unset, .unset] [(.int (1 : Int32))])) _
        refine XS.ifYes X65.here hx rfl (pc0 := 118) (pc' := 125) rfl (hb hby at_118) rfl ((if0 _ _).trans (feq (by decide : ¬ ((1 : Int32) = (0 : Int32)))).2) (by decide) (by decide) ?_
        show Steps p.tables e below (T65.setTop (mkF m 125 #[iv u0, iv u1, iv u2, iv u3, iv u4, iv u5, iv (1 : Int32), iv (1 : Int32), iv (2 : Int32), rv b58, iv (u1 &&& (255 : Int32)), iv (u2 &&& (255 : Int32)), .unset, .unset, .unset] [])) _
        refine XS.iloadN X65.here hx rfl (hb hby at_125) rfl ?_
        show Steps p.tables e below (T65.setTop (mkF m 126 #[iv u0, iv u1, iv u2, iv u3, iv u4, iv u5, iv (1 : Int32), iv (1 : Int32), iv (2 : Int32), rv b58, iv (u1 &&& (255 : Int32)), iv (u2 &&& (255 : Int32)), .unset, .unset, .unset] [(.int u3)])) _
        refine XS.sipush X65.here hx rfl (hb hby at_126) ?_
        show Steps p.tables e below (T65.setTop (mkF m 129 #[iv u0, iv u1, iv u2, iv u3, iv u4, iv u5, iv (1 : Int32), iv (1 : Int32), iv (2 : Int32), rv b58, iv (u1 &&& (255 : Int32)), iv (u2 &&& (255 : Int32)), .unset, .unset, .unset] [(.int (255 : Int32)), (.int u3)])) _
        refine XS.iand X65.here hx rfl (hb hby at_129) rfl ?_
        show Steps p.tables e below (T65.setTop (mkF m 130 #[iv u0, iv u1, iv u2, iv u3, iv u4, iv u5, iv (1 : Int32), iv (1 : Int32), iv (2 : Int32), rv b58, iv (u1 &&& (255 : Int32)), iv (u2 &&& (255 : Int32)), .unset, .unset, .unset] [(.int (u3 &&& (255 : Int32)))])) _
        refine XS.istore X65.here hx rfl (hb hby at_130) rfl (l' := #[iv u0, iv u1, iv u2, iv u3, iv u4, iv u5, iv (1 : Int32), iv (1 : Int32), iv (2 : Int32), rv b58, iv (u1 &&& (255 : Int32)), iv (u2 &&& (255 : Int32)), iv (u3 &&& (255 : Int32)), .unset, .unset]) rfl ?_
        show Steps p.tables e below (T65.setTop (mkF m 132 #[iv u0, iv u1, iv u2, iv u3, iv u4, iv u5, iv (1 : Int32), iv (1 : Int32), iv (2 : Int32), rv b58, iv (u1 &&& (255 : Int32)), iv (u2 &&& (255 : Int32)), iv (u3 &&& (255 : Int32)), .unset, .unset] [])) _
        refine XS.iload X65.here hx rfl (hb hby at_132) rfl ?_
        show Steps p.tables e below (T65.setTop (mkF m 134 #[iv u0, iv u1, iv u2, iv u3, iv u4, iv u5, iv (1 : Int32), iv (1 : Int32), iv (2 : Int32), rv b58, iv (u1 &&& (255 : Int32)), iv (u2 &&& (255 : Int32)), iv (u3 &&& (255 : Int32)), .unset, .unset] [(.int (1 : Int32))])) _
        refine XS.ifYes X65.here hx rfl (pc0 := 134) (pc' := 141) rfl (hb hby at_134) rfl ((if0 _ _).trans (feq (by decide : ¬ ((1 : Int32) = (0 : Int32)))).2) (by decide) (by decide) ?_
        show Steps p.tables e below (T65.setTop (mkF m 141 #[iv u0, iv u1, iv u2, iv u3, iv u4, iv u5, iv (1 : Int32), iv (1 : Int32), iv (2 : Int32), rv b58, iv (u1 &&& (255 : Int32)), iv (u2 &&& (255 : Int32)), iv (u3 &&& (255 : Int32)), .unset, .unset] [])) _
        refine XS.iload X65.here hx rfl (hb hby at_141) rfl ?_
        show Steps p.tables e below (T65.setTop (mkF m 143 #[iv u0, iv u1, iv u2, iv u3, iv u4, iv u5, iv (1 : Int32), iv (1 : Int32), iv (2 : Int32), rv b58, iv (u1 &&& (255 : Int32)), iv (u2 &&& (255 : Int32)), iv (u3 &&& (255 : Int32)), .unset, .unset] [(.int u4)])) _
        refine XS.sipush X65.here hx rfl (hb hby at_143) ?_
        show Steps p.tables e below (T65.setTop (mkF m 146 #[iv u0, iv u1, iv u2, iv u3, iv u4, iv u5, iv (1 : Int32), iv (1 : Int32), iv (2 : Int32), rv b58, iv (u1 &&& (255 : Int32)), iv (u2 &&& (255 : Int32)), iv (u3 &&& (255 : Int32)), .unset, .unset] [(.int (255 : Int32)), (.int u4)])) _
        refine XS.iand X65.here hx rfl (hb hby at_146) rfl ?_
        show Steps p.tables e below (T65.setTop (mkF m 147 #[iv u0, iv u1, iv u2, iv u3, iv u4, iv u5, iv (1 : Int32), iv (1 : Int32), iv (2 : Int32), rv b58, iv (u1 &&& (255 : Int32)), iv (u2 &&& (255 : Int32)), iv (u3 &&& (255 : Int32)), .unset, .unset] [(.int (u4 &&& (255 : Int32)))])) _
        refine XS.istore X65.here hx rfl (hb hby at_147) rfl (l' := #[iv u0, iv u1, iv u2, iv u3, iv u4, iv u5, iv (1 : Int32), iv (1 : Int32), iv (2 : Int32), rv b58, iv (u1 &&& (255 : Int32)), iv (u2 &&& (255 : Int32)), iv (u3 &&& (255 : Int32)), iv (u4 &&& (255 : Int32)), .unset]) rfl ?_
        show Steps p.tables e below (T65.setTop (mkF m 149 #[iv u0, iv u1, iv u2, iv u3, iv u4, iv u5, iv (1 : Int32), iv (1 : Int32), iv (2 : Int32), rv b58, iv (u1 &&& (255 : Int32)), iv (u2 &&& (255 : Int32)), iv (u3 &&& (255 : Int32)), iv (u4 &&& (255 : Int32)), .unset] [])) _
        refine XS.iload X65.here hx rfl (hb hby at_149) rfl ?_
        show Steps p.tables e below (T65.setTop (mkF m 151 #[iv u0, iv u1, iv u2, iv u3, iv u4, iv u5, iv (1 : Int32), iv (1 : Int32), iv (2 : Int32), rv b58, iv (u1 &&& (255 : Int32)), iv (u2 &&& (255 : Int32)), iv (u3 &&& (255 : Int32)), iv (u4 &&& (255 : Int32)), .unset] [(.int (u1 &&& (255 : Int32)))])) _
        refine XS.iload X65.here hx rfl (hb hby at_151) rfl ?_
        show Steps p.tables e below (T65.setTop (mkF m 153 #[iv u0, iv u1, iv u2, iv u3, iv u4, iv u5, iv (1 : Int32), iv (1 : Int32), iv (2 : Int32), rv b58, iv (u1 &&& (255 : Int32)), iv (u2 &&& (255 : Int32)), iv (u3 &&& (255 : Int32)), iv (u4 &&& (255 : Int32)), .unset] [(.int (u2 &&& (255 : Int32))), (.int (u1 &&& (255 : Int32)))])) _
        refine XS.iload X65.here hx rfl (hb hby at_153) rfl ?_
        show Steps p.tables e below (T65.setTop (mkF m 155 #[iv u0, iv u1, iv u2, iv u3, iv u4, iv u5, iv (1 : Int32), iv (1 : Int32), iv (2 : Int32), rv b58, iv (u1 &&& (255 : Int32)), iv (u2 &&& (255 : Int32)), iv (u3 &&& (255 : Int32)), iv (u4 &&& (255 : Int32)), .unset] [(.int (u3 &&& (255 : Int32))), (.int (u2 &&& (255 : Int32))), (.int (u1 &&& (255 : Int32)))])) _
        refine XS.iload X65.here hx rfl (hb hby at_155) rfl ?_
        show Steps p.tables e below (T65.setTop (mkF m 157 #[iv u0, iv u1, iv u2, iv u3, iv u4, iv u5, iv (1 : Int32), iv (1 : Int32), iv (2 : Int32), rv b58, iv (u1 &&& (255 : Int32)), iv (u2 &&& (255 : Int32)), iv (u3 &&& (255 : Int32)), iv (u4 &&& (255 : Int32)), .unset] [(.int (u4 &&& (255 : Int32))), (.int (u3 &&& (255 : Int32))), (.int (u2 &&& (255 : Int32))), (.int (u1 &&& (255 : Int32)))])) _
        refine XS.iload X65.here hx rfl (hb hby at_157) rfl ?_
        show Steps p.tables e below (T65.setTop (mkF m 159 #[iv u0, iv u1, iv u2, iv u3, iv u4, iv u5, iv (1 : Int32), iv (1 : Int32), iv (2 : Int32), rv b58, iv (u1 &&& (255 : Int32)), iv (u2 &&& (255 : Int32)), iv (u3 &&& (255 : Int32)), iv (u4 &&& (255 : Int32)), .unset] [(.int (1 : Int32)), (.int (u4 &&& (255 : Int32))), (.int (u3 &&& (255 : Int32))), (.int (u2 &&& (255 : Int32))), (.int (u1 &&& (255 : Int32)))])) _
        refine st68 _ ?_
        show Steps p.tables e below (T68.setTop (mkF m 162 #[iv u0, iv u1, iv u2, iv u3, iv u4, iv u5, iv (1 : Int32), iv (1 : Int32), iv (2 : Int32), rv b58, iv (u1 &&& (255 : Int32)), iv (u2 &&& (255 : Int32)), iv (u3 &&& (255 : Int32)), iv (u4 &&& (255 : Int32)), .unset] [(.int (own_ex (u1 &&& (255 : Int32)) (u2 &&& (255 : Int32)) (u3 &&& (255 : Int32)) (u4 &&& (255 : Int32)) (1 : Int32)))])) _
        refine XS.istore X68.here hx rfl (hb hby at_162) rfl (l' := #[iv u0, iv u1, iv u2, iv u3, iv u4, iv u5, iv (1 : Int32), iv (1 : Int32), iv (2 : Int32), rv b58, iv (u1 &&& (255 : Int32)), iv (u2 &&& (255 : Int32)), iv (u3 &&& (255 : Int32)), iv (u4 &&& (255 : Int32)), iv (own_ex (u1 &&& (255 : Int32)) (u2 &&& (255 : Int32)) (u3 &&& (255 : Int32)) (u4 &&& (255 : Int32)) (1 : Int32))]) rfl ?_
        show Steps p.tables e below (T68.setTop (mkF m 164 #[iv u0, iv u1, iv u2, iv u3, iv u4, iv u5, iv (1 : Int32), iv (1 : Int32), iv (2 : Int32), rv b58, iv (u1 &&& (255 : Int32)), iv (u2 &&& (255 : Int32)), iv (u3 &&& (255 : Int32)), iv (u4 &&& (255 : Int32)), iv (own_ex (u1 &&& (255 : Int32)) (u2 &&& (255 : Int32)) (u3 &&& (255 : Int32)) (u4 &&& (255 : Int32)) (1 : Int32))] [])) _
        refine XS.aload X68.here hx rfl (hb hby at_164) rfl rfl ?_
        show Steps p.tables e below (T68.setTop (mkF m 166 #[iv u0, iv u1, iv u2, iv u3, iv u4, iv u5, iv (1 : Int32), iv (1 : Int32), iv (2 : Int32), rv b58, iv (u1 &&& (255 : Int32)), iv (u2 &&& (255 : Int32)), iv (u3 &&& (255 : Int32)), iv (u4 &&& (255 : Int32)), iv (own_ex (u1 &&& (255 : Int32)) (u2 &&& (255 : Int32)) (u3 &&& (255 : Int32)) (u4 &&& (255 : Int32)) (1 : Int32))] [(.ref b58)])) _
        refine XS.iload X68.here hx rfl (hb hby at_166) rfl ?_
        show Steps p.tables e below (T68.setTop (mkF m 168 #[iv u0, iv u1, iv u2, iv u3, iv u4, iv u5, iv (1 : Int32), iv (1 : Int32), iv (2 : Int32), rv b58, iv (u1 &&& (255 : Int32)), iv (u2 &&& (255 : Int32)), iv (u3 &&& (255 : Int32)), iv (u4 &&& (255 : Int32)), iv (own_ex (u1 &&& (255 : Int32)) (u2 &&& (255 : Int32)) (u3 &&& (255 : Int32)) (u4 &&& (255 : Int32)) (1 : Int32))] [(.int (1 : Int32)), (.ref b58)])) _
        refine st69 _ ?_
        show Steps p.tables e below (T69.setTop (mkF m 171 #[iv u0, iv u1, iv u2, iv u3, iv u4, iv u5, iv (1 : Int32), iv (1 : Int32), iv (2 : Int32), rv b58, iv (u1 &&& (255 : Int32)), iv (u2 &&& (255 : Int32)), iv (u3 &&& (255 : Int32)), iv (u4 &&& (255 : Int32)), iv (own_ex (u1 &&& (255 : Int32)) (u2 &&& (255 : Int32)) (u3 &&& (255 : Int32)) (u4 &&& (255 : Int32)) (1 : Int32))] [(.int (own_sl1 (u1.toInt8.toInt32)))])) _
        refine XS.iload X69.here hx rfl (hb hby at_171) rfl ?_
        show Steps p.tables e below (T69.setTop (mkF m 173 #[iv u0, iv u1, iv u2, iv u3, iv u4, iv u5, iv (1 : Int32), iv (1 : Int32), iv (2 : Int32), rv b58, iv (u1 &&& (255 : Int32)), iv (u2 &&& (255 : Int32)), iv (u3 &&& (255 : Int32)), iv (u4 &&& (255 : Int32)), iv (own_ex (u1 &&& (255 : Int32)) (u2 &&& (255 : Int32)) (u3 &&& (255 : Int32)) (u4 &&& (255 : Int32)) (1 : Int32))] [(.int (own_ex (u1 &&& (255 : Int32)) (u2 &&& (255 : Int32)) (u3 &&& (255 : Int32)) (u4 &&& (255 : Int32)) (1 : Int32))), (.int (own_sl1 (u1.toInt8.toInt32)))])) _
        refine XS.icmpNo X69.here hx rfl (hb hby at_173) rfl (teq (own_plain1 _ _ _ _)).2 ?_
        show Steps p.tables e below (T69.setTop (mkF m 176 #[iv u0, iv u1, iv u2, iv u3, iv u4, iv u5, iv (1 : Int32), iv (1 : Int32), iv (2 : Int32), rv b58, iv (u1 &&& (255 : Int32)), iv (u2 &&& (255 : Int32)), iv (u3 &&& (255 : Int32)), iv (u4 &&& (255 : Int32)), iv (own_ex (u1 &&& (255 : Int32)) (u2 &&& (255 : Int32)) (u3 &&& (255 : Int32)) (u4 &&& (255 : Int32)) (1 : Int32))] [])) _
        refine XS.iconst X69.here hx rfl (hb hby at_176) ?_
        show Steps p.tables e below (T69.setTop (mkF m 177 #[iv u0, iv u1, iv u2, iv u3, iv u4, iv u5, iv (1 : Int32), iv (1 : Int32), iv (2 : Int32), rv b58, iv (u1 &&& (255 : Int32)), iv (u2 &&& (255 : Int32)), iv (u3 &&& (255 : Int32)), iv (u4 &&& (255 : Int32)), iv (own_ex (u1 &&& (255 : Int32)) (u2 &&& (255 : Int32)) (u3 &&& (255 : Int32)) (u4 &&& (255 : Int32)) (1 : Int32))] [(.int (1 : Int32))])) _
        refine XS.goto X69.here hx rfl (pc0 := 177) (pc' := 181) rfl (hb hby at_177) (by decide) (by decide) ?_
        show Steps p.tables e below (T69.setTop (mkF m 181 #[iv u0, iv u1, iv u2, iv u3, iv u4, iv u5, iv (1 : Int32), iv (1 : Int32), iv (2 : Int32), rv b58, iv (u1 &&& (255 : Int32)), iv (u2 &&& (255 : Int32)), iv (u3 &&& (255 : Int32)), iv (u4 &&& (255 : Int32)), iv (own_ex (u1 &&& (255 : Int32)) (u2 &&& (255 : Int32)) (u3 &&& (255 : Int32)) (u4 &&& (255 : Int32)) (1 : Int32))] [(.int (1 : Int32))])) _
        exact retN X69 hx (t := .boolean) Bd.returns (by simp) (hb hby at_181) hr
      · show Q0 Z u0 u1 u2 u3 u4 u5 la lc sa sc ta tc h0 n0 _ T69.heap _
        rw [eq69]
        exact ⟨rfl, N69⟩
    · skip
      rw [hv] at S1
      obtain ⟨T70, h70, k70, X70, e70, E70, A70, st70⟩ := newP X0 hx hZ (hw _ (List.mem_of_getElem? (i := 0) rfl)) e0 (g := (mkF m 25 #[iv u0, iv u1, iv u2, iv u3, iv u4, iv u5, iv (1 : Int32), iv (2 : Int32), iv (3 : Int32), .unset, .unset, .unset, .unset, .unset, .unset] [(.int (3 : Int32))])) rfl (hb hby at_25) rfl (by decide) (cap := 3) (by decide) (by decide) (by decide) (by decide)
      obtain ⟨b70, g70⟩ : ∃ z, z = h0.size := ⟨_, rfl⟩
      rw [← g70] at A70 st70
      have ge_b70 : n0 ≤ b70 := Nat.le_trans Z0 (Nat.le_of_eq g70.symm)
      have Od71 := hO.ext E70
      have V70 : Arv Z h70 b70 k70 .byte (3 : Int32) [(.int (0 : Int32)), (.int (0 : Int32)), (.int (0 : Int32))] (.int (0 : Int32)) := (Arv.new A70 (by decide)).pad (pad_rep [] (.int (0 : Int32)) 3)
      have Z70 : n0 ≤ h70.size := Nat.le_trans Z0 E70.1
      obtain ⟨cl72, Ar72, qa72, Sa72, Na72, Ha72, Ga72⟩ := id V70
      have hin72 : ¬ ((0 : Int32) < 0 ∨ cl72.slots.size ≤ ((0 : Int32)).toNatClampNeg) := inb_of Sa72 ⟨by decide, by decide⟩
      obtain ⟨T73, h73, X73, e73, W73, st73⟩ := stB X70 hx hZ e70 Ar72 (j := (0 : Int32)) hin72 (g := (mkF m 34 #[iv u0, iv u1, iv u2, iv u3, iv u4, iv u5, iv (1 : Int32), iv (2 : Int32), iv (3 : Int32), rv b70, .unset, .unset, .unset, .unset, .unset] [(.int (u0.toInt8.toInt32)), (.int (0 : Int32)), (.ref b70)])) rfl rfl (hb hby at_34)
      rw [own_nb] at W73
      have V73 : Arv Z h73 b70 k70 .byte (3 : Int32) [(.int (u0.toInt8.toInt32)), (.int (0 : Int32)), (.int (0 : Int32))] (.int (0 : Int32)) := Arv.set Ar72 qa72 Sa72 Na72 Ha72 Ga72 (own_fb _) W73 0 rfl (Nat.le_of_ble_eq_true rfl)
      have N73 := Fr.snoc X73 N0 ge_b70
      have Z73 : n0 ≤ h73.size := Nat.le_trans Z70 (Keep.of_wr W73).1
      have Od74 := Od71.wr W73 ge_b70
      obtain ⟨cl76, Ar76, qa76, Sa76, Na76, Ha76, Ga76⟩ := id V73
      have hin76 : ¬ ((1 : Int32) < 0 ∨ cl76.slots.size ≤ ((1 : Int32)).toNatClampNeg) := inb_of Sa76 ⟨by decide, by decide⟩
      obtain ⟨T77, h77, X77, e77, W77, st77⟩ := stB X73 hx hZ e73 Ar76 (j := (1 : Int32)) hin76 (g := (mkF m 46 #[iv u0, iv u1, iv u2, iv u3, iv u4, iv u5, iv (1 : Int32), iv (2 : Int32), iv (3 : Int32), rv b70, .unset, .unset, .unset, .unset, .unset] [(.int (u1.toInt8.toInt32)), (.int (1 : Int32)), (.ref b70)])) rfl rfl (hb hby at_46)
      rw [own_nb] at W77
      have V77 : Arv Z h77 b70 k70 .byte (3 : Int32) [(.int (u0.toInt8.toInt32)), (.int (u1.toInt8.toInt32)), (.int (0 : Int32))] (.int (0 : Int32)) := Arv.set Ar76 qa76 Sa76 Na76 Ha76 Ga76 (own_fb _) W77 1 rfl (Nat.le_of_ble_eq_true rfl)
      have N77 := Fr.snoc X77 N73 ge_b70
      have Z77 : n0 ≤ h77.size := Nat.le_trans Z73 (Keep.of_wr W77).1
      have Od78 := Od74.wr W77 ge_b70
      obtain ⟨cl80, Ar80, qa80, Sa80, Na80, Ha80, Ga80⟩ := id V77
      have hin80 : ¬ ((2 : Int32) < 0 ∨ cl80.slots.size ≤ ((2 : Int32)).toNatClampNeg) := inb_of Sa80 ⟨by decide, by decide⟩
      obtain ⟨T81, h81, X81, e81, W81, st81⟩ := stB X77 hx hZ e77 Ar80 (j := (2 : Int32)) hin80 (g := (mkF m 58 #[iv u0, iv u1, iv u2, iv u3, iv u4, iv u5, iv (1 : Int32), iv (2 : Int32), iv (3 : Int32), rv b70, .unset, .unset, .unset, .unset, .unset] [(.int (u2.toInt8.toInt32)), (.int (2 : Int32)), (.ref b70)])) rfl rfl (hb hby at_58)
      rw [own_nb] at W81
      have V81 : Arv Z h81 b70 k70 .byte (3 : Int32) [(.int (u0.toInt8.toInt32)), (.int (u1.toInt8.toInt32)), (.int (u2.toInt8.toInt32))] (.int (0 : Int32)) := Arv.set Ar80 qa80 Sa80 Na80 Ha80 Ga80 (own_fb _) W81 2 rfl (Nat.le_of_ble_eq_true rfl)
      have N81 := Fr.snoc X81 N77 ge_b70
      have Z81 : n0 ≤ h81.size := Nat.le_trans Z77 (Keep.of_wr W81).1
      have Od82 := Od78.wr W81 ge_b70
      obtain ⟨_, _, ⟨T84, L84, k84, n84⟩, -, X84, ⟨Lc84, hQ84, l84, y84, z84⟩, st84⟩ := Jvm.LawKit.callS X81 hx (y := (⟨"com/example/rivanna/rivanna/core/json/Utf8SequenceLengthPinLaw", "expected", "(IIIII)I"⟩ : MethodName)) hown (mvT hZ (hw _ (List.mem_of_getElem? (i := 1) rfl))) (mvT hZ (hw _ (List.mem_of_getElem? (i := 2) rfl))) (mvT hZ (hw _ (List.mem_of_getElem? (i := 3) rfl))) (mvT hZ (hw _ (List.mem_of_getElem? (i := 4) rfl))) (by decide) (backOf (W := 0) (rmEx l Z a0 hw [] (u1 &&& (255 : Int32)) (u2 &&& (255 : Int32)) (u3 &&& (255 : Int32)) (u4 &&& (255 : Int32)) (2 : Int32) h81 n0 Z81) hZ (hw _ (List.mem_of_getElem? (i := 4) rfl)) (hw _ (List.mem_of_getElem? (i := 3) rfl)) (by decide) (by decide)) (g := (mkF m 159 #[iv u0, iv u1, iv u2, iv u3, iv u4, iv u5, iv (1 : Int32), iv (2 : Int32), iv (3 : Int32), rv b70, iv (u1 &&& (255 : Int32)), iv (u2 &&& (255 : Int32)), iv (u3 &&& (255 : Int32)), iv (u4 &&& (255 : Int32)), .unset] [(.int (2 : Int32)), (.int (u4 &&& (255 : Int32))), (.int (u3 &&& (255 : Int32))), (.int (u2 &&& (255 : Int32))), (.int (u1 &&& (255 : Int32)))])) rfl (by rw [hml]; rfl) (argsL := [(.int (u1 &&& (255 : Int32))), (.int (u2 &&& (255 : Int32))), (.int (u3 &&& (255 : Int32))), (.int (u4 &&& (255 : Int32))), (.int (2 : Int32))]) (rest := []) (lenOf pd_1 rfl) rfl (by show 2 * 0 + _ ≤ _; exact Nat.le_of_eq rfl) (hb hby at_159) (fun _ _ => ⟨rfl, e81, (by decide : 1 + 0 ≤ _), (by decide : 3 + 0 ≤ _)⟩)
      dsimp only [Pt.U, Pt.locs, Pt.cells, Pt.slots] at X84 l84 y84 z84 st84 hQ84
      subst y84 z84
      obtain ⟨rfl, Nq84, eq84⟩ := hQ84
      have N84 : Fr n0 L84 := by rw [l84]; exact Fr.app N81 Nq84
      obtain ⟨_, _, ⟨T85, L85, k85, n85⟩, -, X85, ⟨Lc85, hQ85, l85, y85, z85⟩, st85⟩ := Jvm.LawKit.callS X84 hx (y := (⟨"com/example/rivanna/rivanna/core/json/Utf8", "sequenceLength", "([BI)I"⟩ : MethodName)) hown (mvT hZ (hw _ (List.mem_of_getElem? (i := 5) rfl))) (mvT hZ (hw _ (List.mem_of_getElem? (i := 6) rfl))) (mvT hZ (hw _ (List.mem_of_getElem? (i := 7) rfl))) (mvT hZ (hw _ (List.mem_of_getElem? (i := 8) rfl))) (by decide) (backOf (W := 0) (rmSL12 l Z a0 hw [] b70 k70 (u0.toInt8.toInt32) (u1.toInt8.toInt32) (u2.toInt8.toInt32) la lc sa sc ta tc h81 n0 Z81 V81 Od82 hS1 hT1 hS2 hT2 hS3 hT3) hZ (hw _ (List.mem_of_getElem? (i := 8) rfl)) (hw _ (List.mem_of_getElem? (i := 7) rfl)) (by decide) (by decide)) (g := (mkF m 168 #[iv u0, iv u1, iv u2, iv u3, iv u4, iv u5, iv (1 : Int32), iv (2 : Int32), iv (3 : Int32), rv b70, iv (u1 &&& (255 : Int32)), iv (u2 &&& (255 : Int32)), iv (u3 &&& (255 : Int32)), iv (u4 &&& (255 : Int32)), iv (own_ex (u1 &&& (255 : Int32)) (u2 &&& (255 : Int32)) (u3 &&& (255 : Int32)) (u4 &&& (255 : Int32)) (2 : Int32))] [(.int (1 : Int32)), (.ref b70)])) rfl (by rw [hml]; rfl) (argsL := [(.ref b70), (.int (1 : Int32))]) (rest := []) (lenOf pd_2 rfl) rfl (by show 2 * 0 + _ ≤ _; exact Nat.le_of_eq rfl) (hb hby at_168) (fun _ _ => ⟨rfl, eq84, (by decide : 1 + 0 ≤ _), (by decide : 3 + 0 ≤ _)⟩)
      dsimp only [Pt.U, Pt.locs, Pt.cells, Pt.slots] at X85 l85 y85 z85 st85 hQ85
      subst y85 z85
      obtain ⟨rfl, Nq85, eq85⟩ := hQ85
      have N85 : Fr n0 L85 := by rw [l85]; exact Fr.app N84 Nq85
      obtain ⟨fs, hr, hrun, hended, hW, hsame⟩ := X85.leave (v := some (.int (1 : Int32))) (fun h => by rw [Bd.returns] at h; cases h)
      refine ⟨_, _, S1 _ ?_, hrun, hended, _, _, rfl, ?_, ⟨_, rfl⟩, hW, hsame.mono (by decide) (by decide)⟩
      · skip
        show Steps p.tables e below (s₁.setTop (mkF m 16 #[iv u0, iv u1, iv u2, iv u3, iv u4, iv u5, iv (1 : Int32), iv (2 : Int32), .unset, .unset, .unset, .unset, .unset, .unset, .unset] [])) _
        refine XS.iload X0.here hx rfl (hb hby at_16) rfl ?_
        show Steps p.tables e below (s₁.setTop (mkF m 18 #[iv u0, iv u1, iv u2, iv u3, iv u4, iv u5, iv (1 : Int32), iv (2 : Int32), .unset, .unset, .unset, .unset, .unset, .unset, .unset] [(.int (1 : Int32))])) _
        refine XS.iload X0.here hx rfl (hb hby at_18) rfl ?_
        show Steps p.tables e below (s₁.setTop (mkF m 20 #[iv u0, iv u1, iv u2, iv u3, iv u4, iv u5, iv (1 : Int32), iv (2 : Int32), .unset, .unset, .unset, .unset, .unset, .unset, .unset] [(.int (2 : Int32)), (.int (1 : Int32))])) _
        refine XS.iadd X0.here hx rfl (hb hby at_20) rfl ?_
        show Steps p.tables e below (s₁.setTop (mkF m 21 #[iv u0, iv u1, iv u2, iv u3, iv u4, iv u5, iv (1 : Int32), iv (2 : Int32), .unset, .unset, .unset, .unset, .unset, .unset, .unset] [(.int (3 : Int32))])) _
        refine XS.istore X0.here hx rfl (hb hby at_21) rfl (l' := #[iv u0, iv u1, iv u2, iv u3, iv u4, iv u5, iv (1 : Int32), iv (2 : Int32), iv (3 : Int32), .unset, .unset, .unset, .unset, .unset, .unset]) rfl ?_
        show Steps p.tables e below (s₁.setTop (mkF m 23 #[iv u0, iv u1, iv u2, iv u3, iv u4, iv u5, iv (1 : Int32), iv (2 : Int32), iv (3 : Int32), .unset, .unset, .unset, .unset, .unset, .unset] [])) _
        refine XS.iload X0.here hx rfl (hb hby at_23) rfl ?_
        show Steps p.tables e below (s₁.setTop (mkF m 25 #[iv u0, iv u1, iv u2, iv u3, iv u4, iv u5, iv (1 : Int32), iv (2 : Int32), iv (3 : Int32), .unset, .unset, .unset, .unset, .unset, .unset] [(.int (3 : Int32))])) _
        refine st70 _ ?_
        show Steps p.tables e below (T70.setTop (mkF m 27 #[iv u0, iv u1, iv u2, iv u3, iv u4, iv u5, iv (1 : Int32), iv (2 : Int32), iv (3 : Int32), .unset, .unset, .unset, .unset, .unset, .unset] [(.ref b70)])) _
        refine XS.astore X70.here hx rfl (hb hby at_27) rfl rfl (l' := #[iv u0, iv u1, iv u2, iv u3, iv u4, iv u5, iv (1 : Int32), iv (2 : Int32), iv (3 : Int32), rv b70, .unset, .unset, .unset, .unset, .unset]) rfl ?_
        show Steps p.tables e below (T70.setTop (mkF m 29 #[iv u0, iv u1, iv u2, iv u3, iv u4, iv u5, iv (1 : Int32), iv (2 : Int32), iv (3 : Int32), rv b70, .unset, .unset, .unset, .unset, .unset] [])) _
        refine XS.aload X70.here hx rfl (hb hby at_29) rfl rfl ?_
        show Steps p.tables e below (T70.setTop (mkF m 31 #[iv u0, iv u1, iv u2, iv u3, iv u4, iv u5, iv (1 : Int32), iv (2 : Int32), iv (3 : Int32), rv b70, .unset, .unset, .unset, .unset, .unset] [(.ref b70)])) _
        refine XS.iconst X70.here hx rfl (hb hby at_31) ?_
        show Steps p.tables e below (T70.setTop (mkF m 32 #[iv u0, iv u1, iv u2, iv u3, iv u4, iv u5, iv (1 : Int32), iv (2 : Int32), iv (3 : Int32), rv b70, .unset, .unset, .unset, .unset, .unset] [(.int (0 : Int32)), (.ref b70)])) _
        refine XS.iloadN X70.here hx rfl (hb hby at_32) rfl ?_
        show Steps p.tables e below (T70.setTop (mkF m 33 #[iv u0, iv u1, iv u2, iv u3, iv u4, iv u5, iv (1 : Int32), iv (2 : Int32), iv (3 : Int32), rv b70, .unset, .unset, .unset, .unset, .unset] [(.int u0), (.int (0 : Int32)), (.ref b70)])) _
        refine XS.i2b X70.here hx rfl (hb hby at_33) rfl ?_
        show Steps p.tables e below (T70.setTop (mkF m 34 #[iv u0, iv u1, iv u2, iv u3, iv u4, iv u5, iv (1 : Int32), iv (2 : Int32), iv (3 : Int32), rv b70, .unset, .unset, .unset, .unset, .unset] [(.int (u0.toInt8.toInt32)), (.int (0 : Int32)), (.ref b70)])) _
        refine st73 _ ?_
        show Steps p.tables e below (T73.setTop (mkF m 35 #[iv u0, iv u1, iv u2, iv u3, iv u4, iv u5, iv (1 : Int32), iv (2 : Int32), iv (3 : Int32), rv b70, .unset, .unset, .unset, .unset, .unset] [])) _
        refine XS.iload X73.here hx rfl (hb hby at_35) rfl ?_
        show Steps p.tables e below (T73.setTop (mkF m 37 #[iv u0, iv u1, iv u2, iv u3, iv u4, iv u5, iv (1 : Int32), iv (2 : Int32), iv (3 : Int32), rv b70, .unset, .unset, .unset, .unset, .unset] [(.int (3 : Int32))])) _
        refine XS.iconst X73.here hx rfl (hb hby at_37) ?_
        show Steps p.tables e below (T73.setTop (mkF m 38 #[iv u0, iv u1, iv u2, iv u3, iv u4, iv u5, iv (1 : Int32), iv (2 : Int32), iv (3 : Int32), rv b70, .unset, .unset, .unset, .unset, .unset] [(.int (1 : Int32)), (.int (3 : Int32))])) _
        refine XS.icmpNo X73.here hx rfl (hb hby at_38) rfl (tlt (by decide : (1 : Int32) < (3 : Int32))).2.2.2 ?_
        show Steps p.tables e below (T73.setTop (mkF m 41 #[iv u0, iv u1, iv u2, iv u3, iv u4, iv u5, iv (1 : Int32), iv (2 : Int32), iv (3 : Int32), rv b70, .unset, .unset, .unset, .unset, .unset] [])) _
        refine XS.aload X73.here hx rfl (hb hby at_41) rfl rfl ?_
        show Steps p.tables e below (T73.setTop (mkF m 43 #[iv u0, iv u1, iv u2, iv u3, iv u4, iv u5, iv (1 : Int32), iv (2 : Int32), iv (3 : Int32), rv b70, .unset, .unset, .unset, .unset, .unset] [(.ref b70)])) _
        refine XS.iconst X73.here hx rfl (hb hby at_43) ?_
        show Steps p.tables e below (T73.setTop (mkF m 44 #[iv u0, iv u1, iv u2, iv u3, iv u4, iv u5, iv (1 : Int32), iv (2 : Int32), iv (3 : Int32), rv b70, .unset, .unset, .unset, .unset, .unset] [(.int (1 : Int32)), (.ref b70)])) _
        refine XS.iloadN X73.here hx rfl (hb hby at_44) rfl ?_
        show Steps p.tables e below (T73.setTop (mkF m 45 #[iv u0, iv u1, iv u2, iv u3, iv u4, iv u5, iv (1 : Int32), iv (2 : Int32), iv (3 : Int32), rv b70, .unset, .unset, .unset, .unset, .unset] [(.int u1), (.int (1 : Int32)), (.ref b70)])) _
        refine XS.i2b X73.here hx rfl (hb hby at_45) rfl ?_
        show Steps p.tables e below (T73.setTop (mkF m 46 #[iv u0, iv u1, iv u2, iv u3, iv u4, iv u5, iv (1 : Int32), iv (2 : Int32), iv (3 : Int32), rv b70, .unset, .unset, .unset, .unset, .unset] [(.int (u1.toInt8.toInt32)), (.int (1 : Int32)), (.ref b70)])) _
        refine st77 _ ?_
        show Steps p.tables e below (T77.setTop (mkF m 47 #[iv u0, iv u1, iv u2, iv u3, iv u4, iv u5, iv (1 : Int32), iv (2 : Int32), iv (3 : Int32), rv b70, .unset, .unset, .unset, .unset, .unset] [])) _
        refine XS.iload X77.here hx rfl (hb hby at_47) rfl ?_
        show Steps p.tables e below (T77.setTop (mkF m 49 #[iv u0, iv u1, iv u2, iv u3, iv u4, iv u5, iv (1 : Int32), iv (2 : Int32), iv (3 : Int32), rv b70, .unset, .unset, .unset, .unset, .unset] [(.int (3 : Int32))])) _
        refine XS.iconst X77.here hx rfl (hb hby at_49) ?_
        show Steps p.tables e below (T77.setTop (mkF m 50 #[iv u0, iv u1, iv u2, iv u3, iv u4, iv u5, iv (1 : Int32), iv (2 : Int32), iv (3 : Int32), rv b70, .unset, .unset, .unset, .unset, .unset] [(.int (2 : Int32)), (.int (3 : Int32))])) _
        refine XS.icmpNo X77.here hx rfl (hb hby at_50) rfl (tlt (by decide : (2 : Int32) < (3 : Int32))).2.2.2 ?_
        show Steps p.tables e below (T77.setTop (mkF m 53 #[iv u0, iv u1, iv u2, iv u3, iv u4, iv u5, iv (1 : Int32), iv (2 : Int32), iv (3 : Int32), rv b70, .unset, .unset, .unset, .unset, .unset] [])) _
        refine XS.aload X77.here hx rfl (hb hby at_53) rfl rfl ?_
        show Steps p.tables e below (T77.setTop (mkF m 55 #[iv u0, iv u1, iv u2, iv u3, iv u4, iv u5, iv (1 : Int32), iv (2 : Int32), iv (3 : Int32), rv b70, .unset, .unset, .unset, .unset, .unset] [(.ref b70)])) _
        refine XS.iconst X77.here hx rfl (hb hby at_55) ?_
        show Steps p.tables e below (T77.setTop (mkF m 56 #[iv u0, iv u1, iv u2, iv u3, iv u4, iv u5, iv (1 : Int32), iv (2 : Int32), iv (3 : Int32), rv b70, .unset, .unset, .unset, .unset, .unset] [(.int (2 : Int32)), (.ref b70)])) _
        refine XS.iloadN X77.here hx rfl (hb hby at_56) rfl ?_
        show Steps p.tables e below (T77.setTop (mkF m 57 #[iv u0, iv u1, iv u2, iv u3, iv u4, iv u5, iv (1 : Int32), iv (2 : Int32), iv (3 : Int32), rv b70, .unset, .unset, .unset, .unset, .unset] [(.int u2), (.int (2 : Int32)), (.ref b70)])) _
        refine XS.i2b X77.here hx rfl (hb hby at_57) rfl ?_
        show Steps p.tables e below (T77.setTop (mkF m 58 #[iv u0, iv u1, iv u2, iv u3, iv u4, iv u5, iv (1 : Int32), iv (2 : Int32), iv (3 : Int32), rv b70, .unset, .unset, .unset, .unset, .unset] [(.int (u2.toInt8.toInt32)), (.int (2 : Int32)), (.ref b70)])) _
        refine st81 _ ?_
        show Steps p.tables e below (T81.setTop (mkF m 59 #[iv u0, iv u1, iv u2, iv u3, iv u4, iv u5, iv (1 : Int32), iv (2 : Int32), iv (3 : Int32), rv b70, .unset, .unset, .unset, .unset, .unset] [])) _
        refine XS.iload X81.here hx rfl (hb hby at_59) rfl ?_
        show Steps p.tables e below (T81.setTop (mkF m 61 #[iv u0, iv u1, iv u2, iv u3, iv u4, iv u5, iv (1 : Int32), iv (2 : Int32), iv (3 : Int32), rv b70, .unset, .unset, .unset, .unset, .unset] [(.int (3 : Int32))])) _
        refine XS.iconst X81.here hx rfl (hb hby at_61) ?_
        show Steps p.tables e below (T81.setTop (mkF m 62 #[iv u0, iv u1, iv u2, iv u3, iv u4, iv u5, iv (1 : Int32), iv (2 : Int32), iv (3 : Int32), rv b70, .unset, .unset, .unset, .unset, .unset] [(.int (3 : Int32)), (.int (3 : Int32))])) _
        refine XS.icmpYes X81.here hx rfl (pc0 := 62) (pc' := 71) rfl (hb hby at_62) rfl (flt (by decide : ¬ ((3 : Int32) < (3 : Int32)))).2.2.2 (by decide) (by decide) ?_
        show Steps p.tables e below (T81.setTop (mkF m 71 #[iv u0, iv u1, iv u2, iv u3, iv u4, iv u5, iv (1 : Int32), iv (2 : Int32), iv (3 : Int32), rv b70, .unset, .unset, .unset, .unset, .unset] [])) _
        refine XS.iload X81.here hx rfl (hb hby at_71) rfl ?_
        show Steps p.tables e below (T81.setTop (mkF m 73 #[iv u0, iv u1, iv u2, iv u3, iv u4, iv u5, iv (1 : Int32), iv (2 : Int32), iv (3 : Int32), rv b70, .unset, .unset, .unset, .unset, .unset] [(.int (3 : Int32))])) _
        refine XS.iconst X81.here hx rfl (hb hby at_73) ?_
        show Steps p.tables e below (T81.setTop (mkF m 74 #[iv u0, iv u1, iv u2, iv u3, iv u4, iv u5, iv (1 : Int32), iv (2 : Int32), iv (3 : Int32), rv b70, .unset, .unset, .unset, .unset, .unset] [(.int (4 : Int32)), (.int (3 : Int32))])) _
        refine XS.icmpYes X81.here hx rfl (pc0 := 74) (pc' := 84) rfl (hb hby at_74) rfl (flt (by decide : ¬ ((4 : Int32) < (3 : Int32)))).2.2.2 (by decide) (by decide) ?_
        show Steps p.tables e below (T81.setTop (mkF m 84 #[iv u0, iv u1, iv u2, iv u3, iv u4, iv u5, iv (1 : Int32), iv (2 : Int32), iv (3 : Int32), rv b70, .unset, .unset, .unset, .unset, .unset] [])) _
        refine XS.iload X81.here hx rfl (hb hby at_84) rfl ?_
        show Steps p.tables e below (T81.setTop (mkF m 86 #[iv u0, iv u1, iv u2, iv u3, iv u4, iv u5, iv (1 : Int32), iv (2 : Int32), iv (3 : Int32), rv b70, .unset, .unset, .unset, .unset, .unset] [(.int (1 : Int32))])) _
        refine XS.ifYes X81.here hx rfl (pc0 := 86) (pc' := 93) rfl (hb hby at_86) rfl ((if0 _ _).trans (feq (by decide : ¬ ((1 : Int32) = (0 : Int32)))).2) (by decide) (by decide) ?_
        show Steps p.tables e below (T81.setTop (mkF m 93 #[iv u0, iv u1, iv u2, iv u3, iv u4, iv u5, iv (1 : Int32), iv (2 : Int32), iv (3 : Int32), rv b70, .unset, .unset, .unset, .unset, .unset] [])) _
        refine XS.iloadN X81.here hx rfl (hb hby at_93) rfl ?_
        show Steps p.tables e below (T81.setTop (mkF m 94 #[iv u0, iv u1, iv u2, iv u3, iv u4, iv u5, iv (1 : Int32), iv (2 : Int32), iv (3 : Int32), rv b70, .unset, .unset, .unset, .unset, .unset] [(.int u1)])) _
        refine XS.sipush X81.here hx rfl (hb hby at_94) ?_
        show Steps p.tables e below (T81.setTop (mkF m 97 #[iv u0, iv u1, iv u2, iv u3, iv u4, iv u5, iv (1 : Int32), iv (2 : Int32), iv (3 : Int32), rv b70, .unset, .unset, .unset, .unset, .unset] [(.int (255 : Int32)), (.int u1)])) _
        refine XS.iand X81.here hx rfl (hb hby at_97) rfl ?_
        show Steps p.tables e below (T81.setTop (mkF m 98 #[iv u0, iv u1, iv u2, iv u3, iv u4, iv u5, iv (1 : Int32), iv (2 : Int32), iv (3 : Int32), rv b70, .unset, .unset, .unset, .unset, .unset] [(.int (u1 &&& (255 : Int32)))])) _
        refine XS.istore X81.here hx rfl (hb hby at_98) rfl (l' := #[iv u0, iv u1, iv u2, iv u3, iv u4, iv u5, iv (1 : Int32), iv (2 : Int32), iv (3 : Int32), rv b70, iv (u1 &&& (255 : Int32)), .unset, .unset, .unset, .unset]) rfl ?_
        show Steps p.tables e below (T81.setTop (mkF m 100 #[iv u0, iv u1, iv u2, iv u3, iv u4, iv u5, iv (1 : Int32), iv (2 : Int32), iv (3 : Int32), rv b70, iv (u1 &&& (255 : Int32)), .unset, .unset, .unset, .unset] [])) _
        refine XS.iload X81.here hx rfl (hb hby at_100) rfl ?_
        show Steps p.tables e below (T81.setTop (mkF m 102 #[iv u0, iv u1, iv u2, iv u3, iv u4, iv u5, iv (1 : Int32), iv (2 : Int32), iv (3 : Int32), rv b70, iv (u1 &&& (255 : Int32)), .unset, .unset, .unset, .unset] [(.int (1 : Int32))])) _
        refine XS.ifYes X81.here hx rfl (pc0 := 102) (pc' := 109) rfl (hb hby at_102) rfl ((if0 _ _).trans (feq (by decide : ¬ ((1 : Int32) = (0 : Int32)))).2) (by decide) (by decide) ?_
        show Steps p.tables e below (T81.setTop (mkF m 109 #[iv u0, iv u1, iv u2, iv u3, iv u4, iv u5, iv (1 : Int32), iv (2 : Int32), iv (3 : Int32), rv b70, iv (u1 &&& (255 : Int32)), .unset, .unset, .unset, .unset] [])) _
        refine XS.iloadN X81.here hx rfl (hb hby at_109) rfl ?_
        show Steps p.tables e below (T81.setTop (mkF m 110 #[iv u0, iv u1, iv u2, iv u3, iv u4, iv u5, iv (1 : Int32), iv (2 : Int32), iv (3 : Int32), rv b70, iv (u1 &&& (255 : Int32)), .unset, .unset, .unset, .unset] [(.int u2)])) _
        refine XS.sipush X81.here hx rfl (hb hby at_110) ?_
        show Steps p.tables e below (T81.setTop (mkF m 113 #[iv u0, iv u1, iv u2, iv u3, iv u4, iv u5, iv (1 : Int32), iv (2 : Int32), iv (3 : Int32), rv b70, iv (u1 &&& (255 : Int32)), .unset, .unset, .unset, .unset] [(.int (255 : Int32)), (.int u2)])) _
        refine XS.iand X81.here hx rfl (hb hby at_113) rfl ?_
        show Steps p.tables e below (T81.setTop (mkF m 114 #[iv u0, iv u1, iv u2, iv u3, iv u4, iv u5, iv (1 : Int32), iv (2 : Int32), iv (3 : Int32), rv b70, iv (u1 &&& (255 : Int32)), .unset, .unset, .unset, .unset] [(.int (u2 &&& (255 : Int32)))])) _
        refine XS.istore X81.here hx rfl (hb hby at_114) rfl (l' := #[iv u0, iv u1, iv u2, iv u3, iv u4, iv u5, iv (1 : Int32), iv (2 : Int32), iv (3 : Int32), rv b70, iv (u1 &&& (255 : Int32)), iv (u2 &&& (255 : Int32)), .unset, .unset, .unset]) rfl ?_
        show Steps p.tables e below (T81.setTop (mkF m 116 #[iv u0, iv u1, iv u2, iv u3, iv u4, iv u5, iv (1 : Int32), iv (2 : Int32), iv (3 : Int32), rv b70, iv (u1 &&& (255 : Int32)), iv (u2 &&& (255 : Int32)), .unset, .unset, .unset] [])) _
        refine XS.iload X81.here hx rfl (hb hby at_116) rfl ?_
        show Steps p.tables e below (T81.setTop (mkF m 118 #[iv u0, iv u1, iv u2, iv u3, iv u4, iv u5, iv (1 : Int32), iv (2 : Int32), iv (3 : Int32), rv b70, iv (u1 &&& (255 : Int32)), iv (u2 &&& (255 : Int32)), .unset, .unset, .unset] [(.int (1 : Int32))])) _
        refine XS.ifYes X81.here hx rfl (pc0 := 118) (pc' := 125) rfl (hb hby at_118) rfl ((if0 _ _).trans (feq (by decide : ¬ ((1 : Int32) = (0 : Int32)))).2) (by decide) (by decide) ?_
        show Steps p.tables e below (T81.setTop (mkF m 125 #[iv u0, iv u1, iv u2, iv u3, iv u4, iv u5, iv (1 : Int32), iv (2 : Int32), iv (3 : Int32), rv b70, iv (u1 &&& (255 : Int32)), iv (u2 &&& (255 : Int32)), .unset, .unset, .unset] [])) _
        refine XS.iloadN X81.here hx rfl (hb hby at_125) rfl ?_
        show Steps p.tables e below (T81.setTop (mkF m 126 #[iv u0, iv u1, iv u2, iv u3, iv u4, iv u5, iv (1 : Int32), iv (2 : Int32), iv (3 : Int32), rv b70, iv (u1 &&& (255 : Int32)), iv (u2 &&& (255 : Int32)), .unset, .unset, .unset] [(.int u3)])) _
        refine XS.sipush X81.here hx rfl (hb hby at_126) ?_
        show Steps p.tables e below (T81.setTop (mkF m 129 #[iv u0, iv u1, iv u2, iv u3, iv u4, iv u5, iv (1 : Int32), iv (2 : Int32), iv (3 : Int32), rv b70, iv (u1 &&& (255 : Int32)), iv (u2 &&& (255 : Int32)), .unset, .unset, .unset] [(.int (255 : Int32)), (.int u3)])) _
        refine XS.iand X81.here hx rfl (hb hby at_129) rfl ?_
        show Steps p.tables e below (T81.setTop (mkF m 130 #[iv u0, iv u1, iv u2, iv u3, iv u4, iv u5, iv (1 : Int32), iv (2 : Int32), iv (3 : Int32), rv b70, iv (u1 &&& (255 : Int32)), iv (u2 &&& (255 : Int32)), .unset, .unset, .unset] [(.int (u3 &&& (255 : Int32)))])) _
        refine XS.istore X81.here hx rfl (hb hby at_130) rfl (l' := #[iv u0, iv u1, iv u2, iv u3, iv u4, iv u5, iv (1 : Int32), iv (2 : Int32), iv (3 : Int32), rv b70, iv (u1 &&& (255 : Int32)), iv (u2 &&& (255 : Int32)), iv (u3 &&& (255 : Int32)), .unset, .unset]) rfl ?_
        show Steps p.tables e below (T81.setTop (mkF m 132 #[iv u0, iv u1, iv u2, iv u3, iv u4, iv u5, iv (1 : Int32), iv (2 : Int32), iv (3 : Int32), rv b70, iv (u1 &&& (255 : Int32)), iv (u2 &&& (255 : Int32)), iv (u3 &&& (255 : Int32)), .unset, .unset] [])) _
        refine XS.iload X81.here hx rfl (hb hby at_132) rfl ?_
        show Steps p.tables e below (T81.setTop (mkF m 134 #[iv u0, iv u1, iv u2, iv u3, iv u4, iv u5, iv (1 : Int32), iv (2 : Int32), iv (3 : Int32), rv b70, iv (u1 &&& (255 : Int32)), iv (u2 &&& (255 : Int32)), iv (u3 &&& (255 : Int32)), .unset, .unset] [(.int (1 : Int32))])) _
        refine XS.ifYes X81.here hx rfl (pc0 := 134) (pc' := 141) rfl (hb hby at_134) rfl ((if0 _ _).trans (feq (by decide : ¬ ((1 : Int32) = (0 : Int32)))).2) (by decide) (by decide) ?_
        show Steps p.tables e below (T81.setTop (mkF m 141 #[iv u0, iv u1, iv u2, iv u3, iv u4, iv u5, iv (1 : Int32), iv (2 : Int32), iv (3 : Int32), rv b70, iv (u1 &&& (255 : Int32)), iv (u2 &&& (255 : Int32)), iv (u3 &&& (255 : Int32)), .unset, .unset] [])) _
        refine XS.iload X81.here hx rfl (hb hby at_141) rfl ?_
        show Steps p.tables e below (T81.setTop (mkF m 143 #[iv u0, iv u1, iv u2, iv u3, iv u4, iv u5, iv (1 : Int32), iv (2 : Int32), iv (3 : Int32), rv b70, iv (u1 &&& (255 : Int32)), iv (u2 &&& (255 : Int32)), iv (u3 &&& (255 : Int32)), .unset, .unset] [(.int u4)])) _
        refine XS.sipush X81.here hx rfl (hb hby at_143) ?_
        show Steps p.tables e below (T81.setTop (mkF m 146 #[iv u0, iv u1, iv u2, iv u3, iv u4, iv u5, iv (1 : Int32), iv (2 : Int32), iv (3 : Int32), rv b70, iv (u1 &&& (255 : Int32)), iv (u2 &&& (255 : Int32)), iv (u3 &&& (255 : Int32)), .unset, .unset] [(.int (255 : Int32)), (.int u4)])) _
        refine XS.iand X81.here hx rfl (hb hby at_146) rfl ?_
        show Steps p.tables e below (T81.setTop (mkF m 147 #[iv u0, iv u1, iv u2, iv u3, iv u4, iv u5, iv (1 : Int32), iv (2 : Int32), iv (3 : Int32), rv b70, iv (u1 &&& (255 : Int32)), iv (u2 &&& (255 : Int32)), iv (u3 &&& (255 : Int32)), .unset, .unset] [(.int (u4 &&& (255 : Int32)))])) _
        refine XS.istore X81.here hx rfl (hb hby at_147) rfl (l' := #[iv u0, iv u1, iv u2, iv u3, iv u4, iv u5, iv (1 : Int32), iv (2 : Int32), iv (3 : Int32), rv b70, iv (u1 &&& (255 : Int32)), iv (u2 &&& (255 : Int32)), iv (u3 &&& (255 : Int32)), iv (u4 &&& (255 : Int32)), .unset]) rfl ?_
        show Steps p.tables e below (T81.setTop (mkF m 149 #[iv u0, iv u1, iv u2, iv u3, iv u4, iv u5, iv (1 : Int32), iv (2 : Int32), iv (3 : Int32), rv b70, iv (u1 &&& (255 : Int32)), iv (u2 &&& (255 : Int32)), iv (u3 &&& (255 : Int32)), iv (u4 &&& (255 : Int32)), .unset] [])) _
        refine XS.iload X81.here hx rfl (hb hby at_149) rfl ?_
        show Steps p.tables e below (T81.setTop (mkF m 151 #[iv u0, iv u1, iv u2, iv u3, iv u4, iv u5, iv (1 : Int32), iv (2 : Int32), iv (3 : Int32), rv b70, iv (u1 &&& (255 : Int32)), iv (u2 &&& (255 : Int32)), iv (u3 &&& (255 : Int32)), iv (u4 &&& (255 : Int32)), .unset] [(.int (u1 &&& (255 : Int32)))])) _
        refine XS.iload X81.here hx rfl (hb hby at_151) rfl ?_
        show Steps p.tables e below (T81.setTop (mkF m 153 #[iv u0, iv u1, iv u2, iv u3, iv u4, iv u5, iv (1 : Int32), iv (2 : Int32), iv (3 : Int32), rv b70, iv (u1 &&& (255 : Int32)), iv (u2 &&& (255 : Int32)), iv (u3 &&& (255 : Int32)), iv (u4 &&& (255 : Int32)), .unset] [(.int (u2 &&& (255 : Int32))), (.int (u1 &&& (255 : Int32)))])) _
        refine XS.iload X81.here hx rfl (hb hby at_153) rfl ?_
        show Steps p.tables e below (T81.setTop (mkF m 155 #[iv u0, iv u1, iv u2, iv u3, iv u4, iv u5, iv (1 : Int32), iv (2 : Int32), iv (3 : Int32), rv b70, iv (u1 &&& (255 : Int32)), iv (u2 &&& (255 : Int32)), iv (u3 &&& (255 : Int32)), iv (u4 &&& (255 : Int32)), .unset] [(.int (u3 &&& (255 : Int32))), (.int (u2 &&& (255 : Int32))), (.int (u1 &&& (255 : Int32)))])) _
        refine XS.iload X81.here hx rfl (hb hby at_155) rfl ?_
        show Steps p.tables e below (T81.setTop (mkF m 157 #[iv u0, iv u1, iv u2, iv u3, iv u4, iv u5, iv (1 : Int32), iv (2 : Int32), iv (3 : Int32), rv b70, iv (u1 &&& (255 : Int32)), iv (u2 &&& (255 : Int32)), iv (u3 &&& (255 : Int32)), iv (u4 &&& (255 : Int32)), .unset] [(.int (u4 &&& (255 : Int32))), (.int (u3 &&& (255 : Int32))), (.int (u2 &&& (255 : Int32))), (.int (u1 &&& (255 : Int32)))])) _
        refine XS.iload X81.here hx rfl (hb hby at_157) rfl ?_
        show Steps p.tables e below (T81.setTop (mkF m 159 #[iv u0, iv u1, iv u2, iv u3, iv u4, iv u5, iv (1 : Int32), iv (2 : Int32), iv (3 : Int32), rv b70, iv (u1 &&& (255 : Int32)), iv (u2 &&& (255 : Int32)), iv (u3 &&& (255 : Int32)), iv (u4 &&& (255 : Int32)), .unset] [(.int (2 : Int32)), (.int (u4 &&& (255 : Int32))), (.int (u3 &&& (255 : Int32))), (.int (u2 &&& (255 : Int32))), (.int (u1 &&& (255 : Int32)))])) _
        refine st84 _ ?_
        show Steps p.tables e below (T84.setTop (mkF m 162 #[iv u0, iv u1, iv u2, iv u3, iv u4, iv u5, iv (1 : Int32), iv (2 : Int32), iv (3 : Int32), rv b70, iv (u1 &&& (255 : Int32)), iv (u2 &&& (255 : Int32)), iv (u3 &&& (255 : Int32)), iv (u4 &&& (255 : Int32)), .unset] [(.int (own_ex (u1 &&& (255 : Int32)) (u2 &&& (255 : Int32)) (u3 &&& (255 : Int32)) (u4 &&& (255 : Int32)) (2 : Int32)))])) _
        refine XS.istore X84.here hx rfl (hb hby at_162) rfl (l' := #[iv u0, iv u1, iv u2, iv u3, iv u4, iv u5, iv (1 : Int32), iv (2 : Int32), iv (3 : Int32), rv b70, iv (u1 &&& (255 : Int32)), iv (u2 &&& (255 : Int32)), iv (u3 &&& (255 : Int32)), iv (u4 &&& (255 : Int32)), iv (own_ex (u1 &&& (255 : Int32)) (u2 &&& (255 : Int32)) (u3 &&& (255 : Int32)) (u4 &&& (255 : Int32)) (2 : Int32))]) rfl ?_
        show Steps p.tables e below (T84.setTop (mkF m 164 #[iv u0, iv u1, iv u2, iv u3, iv u4, iv u5, iv (1 : Int32), iv (2 : Int32), iv (3 : Int32), rv b70, iv (u1 &&& (255 : Int32)), iv (u2 &&& (255 : Int32)), iv (u3 &&& (255 : Int32)), iv (u4 &&& (255 : Int32)), iv (own_ex (u1 &&& (255 : Int32)) (u2 &&& (255 : Int32)) (u3 &&& (255 : Int32)) (u4 &&& (255 : Int32)) (2 : Int32))] [])) _
        refine XS.aload X84.here hx rfl (hb hby at_164) rfl rfl ?_
        show Steps p.tables e below (T84.setTop (mkF m 166 #[iv u0, iv u1, iv u2, iv u3, iv u4, iv u5, iv (1 : Int32), iv (2 : Int32), iv (3 : Int32), rv b70, iv (u1 &&& (255 : Int32)), iv (u2 &&& (255 : Int32)), iv (u3 &&& (255 : Int32)), iv (u4 &&& (255 : Int32)), iv (own_ex (u1 &&& (255 : Int32)) (u2 &&& (255 : Int32)) (u3 &&& (255 : Int32)) (u4 &&& (255 : Int32)) (2 : Int32))] [(.ref b70)])) _
        refine XS.iload X84.here hx rfl (hb hby at_166) rfl ?_
        show Steps p.tables e below (T84.setTop (mkF m 168 #[iv u0, iv u1, iv u2, iv u3, iv u4, iv u5, iv (1 : Int32), iv (2 : Int32), iv (3 : Int32), rv b70, iv (u1 &&& (255 : Int32)), iv (u2 &&& (255 : Int32)), iv (u3 &&& (255 : Int32)), iv (u4 &&& (255 : Int32)), iv (own_ex (u1 &&& (255 : Int32)) (u2 &&& (255 : Int32)) (u3 &&& (255 : Int32)) (u4 &&& (255 : Int32)) (2 : Int32))] [(.int (1 : Int32)), (.ref b70)])) _
        refine st85 _ ?_
        show Steps p.tables e below (T85.setTop (mkF m 171 #[iv u0, iv u1, iv u2, iv u3, iv u4, iv u5, iv (1 : Int32), iv (2 : Int32), iv (3 : Int32), rv b70, iv (u1 &&& (255 : Int32)), iv (u2 &&& (255 : Int32)), iv (u3 &&& (255 : Int32)), iv (u4 &&& (255 : Int32)), iv (own_ex (u1 &&& (255 : Int32)) (u2 &&& (255 : Int32)) (u3 &&& (255 : Int32)) (u4 &&& (255 : Int32)) (2 : Int32))] [(.int (own_sl2 (u1.toInt8.toInt32) (u2.toInt8.toInt32)))])) _
        refine XS.iload X85.here hx rfl (hb hby at_171) rfl ?_
        show Steps p.tables e below (T85.setTop (mkF m 173 #[iv u0, iv u1, iv u2, iv u3, iv u4, iv u5, iv (1 : Int32), iv (2 : Int32), iv (3 : Int32), rv b70, iv (u1 &&& (255 : Int32)), iv (u2 &&& (255 : Int32)), iv (u3 &&& (255 : Int32)), iv (u4 &&& (255 : Int32)), iv (own_ex (u1 &&& (255 : Int32)) (u2 &&& (255 : Int32)) (u3 &&& (255 : Int32)) (u4 &&& (255 : Int32)) (2 : Int32))] [(.int (own_ex (u1 &&& (255 : Int32)) (u2 &&& (255 : Int32)) (u3 &&& (255 : Int32)) (u4 &&& (255 : Int32)) (2 : Int32))), (.int (own_sl2 (u1.toInt8.toInt32) (u2.toInt8.toInt32)))])) _
        refine XS.icmpNo X85.here hx rfl (hb hby at_173) rfl (teq (own_plain2 _ _ _ _)).2 ?_
        show Steps p.tables e below (T85.setTop (mkF m 176 #[iv u0, iv u1, iv u2, iv u3, iv u4, iv u5, iv (1 : Int32), iv (2 : Int32), iv (3 : Int32), rv b70, iv (u1 &&& (255 : Int32)), iv (u2 &&& (255 : Int32)), iv (u3 &&& (255 : Int32)), iv (u4 &&& (255 : Int32)), iv (own_ex (u1 &&& (255 : Int32)) (u2 &&& (255 : Int32)) (u3 &&& (255 : Int32)) (u4 &&& (255 : Int32)) (2 : Int32))] [])) _
        refine XS.iconst X85.here hx rfl (hb hby at_176) ?_
        show Steps p.tables e below (T85.setTop (mkF m 177 #[iv u0, iv u1, iv u2, iv u3, iv u4, iv u5, iv (1 : Int32), iv (2 : Int32), iv (3 : Int32), rv b70, iv (u1 &&& (255 : Int32)), iv (u2 &&& (255 : Int32)), iv (u3 &&& (255 : Int32)), iv (u4 &&& (255 : Int32)), iv (own_ex (u1 &&& (255 : Int32)) (u2 &&& (255 : Int32)) (u3 &&& (255 : Int32)) (u4 &&& (255 : Int32)) (2 : Int32))] [(.int (1 : Int32))])) _
        refine XS.goto X85.here hx rfl (pc0 := 177) (pc' := 181) rfl (hb hby at_177) (by decide) (by decide) ?_
        show Steps p.tables e below (T85.setTop (mkF m 181 #[iv u0, iv u1, iv u2, iv u3, iv u4, iv u5, iv (1 : Int32), iv (2 : Int32), iv (3 : Int32), rv b70, iv (u1 &&& (255 : Int32)), iv (u2 &&& (255 : Int32)), iv (u3 &&& (255 : Int32)), iv (u4 &&& (255 : Int32)), iv (own_ex (u1 &&& (255 : Int32)) (u2 &&& (255 : Int32)) (u3 &&& (255 : Int32)) (u4 &&& (255 : Int32)) (2 : Int32))] [(.int (1 : Int32))])) _
        exact retN X85 hx (t := .boolean) Bd.returns (by simp) (hb hby at_181) hr
      · show Q0 Z u0 u1 u2 u3 u4 u5 la lc sa sc ta tc h0 n0 _ T85.heap _
        rw [eq85]
        exact ⟨rfl, N85⟩
    · skip
      rw [hv] at S1
      obtain ⟨T86, h86, k86, X86, e86, E86, A86, st86⟩ := newP X0 hx hZ (hw _ (List.mem_of_getElem? (i := 0) rfl)) e0 (g := (mkF m 25 #[iv u0, iv u1, iv u2, iv u3, iv u4, iv u5, iv (1 : Int32), iv (3 : Int32), iv (4 : Int32), .unset, .unset, .unset, .unset, .unset, .unset] [(.int (4 : Int32))])) rfl (hb hby at_25) rfl (by decide) (cap := 4) (by decide) (by decide) (by decide) (by decide)
      obtain ⟨b86, g86⟩ : ∃ z, z = h0.size := ⟨_, rfl⟩
      rw [← g86] at A86 st86
      have ge_b86 : n0 ≤ b86 := Nat.le_trans Z0 (Nat.le_of_eq g86.symm)
      have Od87 := hO.ext E86
      have V86 : Arv Z h86 b86 k86 .byte (4 : Int32) [(.int (0 : Int32)), (.int (0 : Int32)), (.int (0 : Int32)), (.int (0 : Int32))] (.int (0 : Int32)) := (Arv.new A86 (by decide)).pad (pad_rep [] (.int (0 : Int32)) 4)
      have Z86 : n0 ≤ h86.size := Nat.le_trans Z0 E86.1
      obtain ⟨cl88, Ar88, qa88, Sa88, Na88, Ha88, Ga88⟩ := id V86
      have hin88 : ¬ ((0 : Int32) < 0 ∨ cl88.slots.size ≤ ((0 : Int32)).toNatClampNeg) := inb_of Sa88 ⟨by decide, by decide⟩
      obtain ⟨T89, h89, X89, e89, W89, st89⟩ := stB X86 hx hZ e86 Ar88 (j := (0 : Int32)) hin88 (g := (mkF m 34 #[iv u0, iv u1, iv u2, iv u3, iv u4, iv u5, iv (1 : Int32), iv (3 : Int32), iv (4 : Int32), rv b86, .unset, .unset, .unset, .unset, .unset] [(.int (u0.toInt8.toInt32)), (.int (0 : Int32)), (.ref b86)])) rfl rfl (hb hby at_34)
      rw [own_nb] at W89
      have V89 : Arv Z h89 b86 k86 .byte (4 : Int32) [(.int (u0.toInt8.toInt32)), (.int (0 : Int32)), (.int (0 : Int32)), (.int (0 : Int32))] (.int (0 : Int32)) := Arv.set Ar88 qa88 Sa88 Na88 Ha88 Ga88 (own_fb _) W89 0 rfl (Nat.le_of_ble_eq_true rfl)
      have N89 := Fr.snoc X89 N0 ge_b86
      have Z89 : n0 ≤ h89.size := Nat.le_trans Z86 (Keep.of_wr W89).1
      have Od90 := Od87.wr W89 ge_b86
      obtain ⟨cl92, Ar92, qa92, Sa92, Na92, Ha92, Ga92⟩ := id V89
      have hin92 : ¬ ((1 : Int32) < 0 ∨ cl92.slots.size ≤ ((1 : Int32)).toNatClampNeg) := inb_of Sa92 ⟨by decide, by decide⟩
      obtain ⟨T93, h93, X93, e93, W93, st93⟩ := stB X89 hx hZ e89 Ar92 (j := (1 : Int32)) hin92 (g := (mkF m 46 #[iv u0, iv u1, iv u2, iv u3, iv u4, iv u5, iv (1 : Int32), iv (3 : Int32), iv (4 : Int32), rv b86, .unset, .unset, .unset, .unset, .unset] [(.int (u1.toInt8.toInt32)), (.int (1 : Int32)), (.ref b86)])) rfl rfl (hb hby at_46)
      rw [own_nb] at W93
      have V93 : Arv Z h93 b86 k86 .byte (4 : Int32) [(.int (u0.toInt8.toInt32)), (.int (u1.toInt8.toInt32)), (.int (0 : Int32)), (.int (0 : Int32))] (.int (0 : Int32)) := Arv.set Ar92 qa92 Sa92 Na92 Ha92 Ga92 (own_fb _) W93 1 rfl (Nat.le_of_ble_eq_true rfl)
      have N93 := Fr.snoc X93 N89 ge_b86
      have Z93 : n0 ≤ h93.size := Nat.le_trans Z89 (Keep.of_wr W93).1
      have Od94 := Od90.wr W93 ge_b86
      obtain ⟨cl96, Ar96, qa96, Sa96, Na96, Ha96, Ga96⟩ := id V93
      have hin96 : ¬ ((2 : Int32) < 0 ∨ cl96.slots.size ≤ ((2 : Int32)).toNatClampNeg) := inb_of Sa96 ⟨by decide, by decide⟩
      obtain ⟨T97, h97, X97, e97, W97, st97⟩ := stB X93 hx hZ e93 Ar96 (j := (2 : Int32)) hin96 (g := (mkF m 58 #[iv u0, iv u1, iv u2, iv u3, iv u4, iv u5, iv (1 : Int32), iv (3 : Int32), iv (4 : Int32), rv b86, .unset, .unset, .unset, .unset, .unset] [(.int (u2.toInt8.toInt32)), (.int (2 : Int32)), (.ref b86)])) rfl rfl (hb hby at_58)
      rw [own_nb] at W97
      have V97 : Arv Z h97 b86 k86 .byte (4 : Int32) [(.int (u0.toInt8.toInt32)), (.int (u1.toInt8.toInt32)), (.int (u2.toInt8.toInt32)), (.int (0 : Int32))] (.int (0 : Int32)) := Arv.set Ar96 qa96 Sa96 Na96 Ha96 Ga96 (own_fb _) W97 2 rfl (Nat.le_of_ble_eq_true rfl)
      have N97 := Fr.snoc X97 N93 ge_b86
      have Z97 : n0 ≤ h97.size := Nat.le_trans Z93 (Keep.of_wr W97).1
      have Od98 := Od94.wr W97 ge_b86
      obtain ⟨cl100, Ar100, qa100, Sa100, Na100, Ha100, Ga100⟩ := id V97
      have hin100 : ¬ ((3 : Int32) < 0 ∨ cl100.slots.size ≤ ((3 : Int32)).toNatClampNeg) := inb_of Sa100 ⟨by decide, by decide⟩
      obtain ⟨T101, h101, X101, e101, W101, st101⟩ := stB X97 hx hZ e97 Ar100 (j := (3 : Int32)) hin100 (g := (mkF m 70 #[iv u0, iv u1, iv u2, iv u3, iv u4, iv u5, iv (1 : Int32), iv (3 : Int32), iv (4 : Int32), rv b86, .unset, .unset, .unset, .unset, .unset] [(.int (u3.toInt8.toInt32)), (.int (3 : Int32)), (.ref b86)])) rfl rfl (hb hby at_70)
      rw [own_nb] at W101
      have V101 : Arv Z h101 b86 k86 .byte (4 : Int32) [(.int (u0.toInt8.toInt32)), (.int (u1.toInt8.toInt32)), (.int (u2.toInt8.toInt32)), (.int (u3.toInt8.toInt32))] (.int (0 : Int32)) := Arv.set Ar100 qa100 Sa100 Na100 Ha100 Ga100 (own_fb _) W101 3 rfl (Nat.le_of_ble_eq_true rfl)
      have N101 := Fr.snoc X101 N97 ge_b86
      have Z101 : n0 ≤ h101.size := Nat.le_trans Z97 (Keep.of_wr W101).1
      have Od102 := Od98.wr W101 ge_b86
      obtain ⟨_, _, ⟨T104, L104, k104, n104⟩, -, X104, ⟨Lc104, hQ104, l104, y104, z104⟩, st104⟩ := Jvm.LawKit.callS X101 hx (y := (⟨"com/example/rivanna/rivanna/core/json/Utf8SequenceLengthPinLaw", "expected", "(IIIII)I"⟩ : MethodName)) hown (mvT hZ (hw _ (List.mem_of_getElem? (i := 1) rfl))) (mvT hZ (hw _ (List.mem_of_getElem? (i := 2) rfl))) (mvT hZ (hw _ (List.mem_of_getElem? (i := 3) rfl))) (mvT hZ (hw _ (List.mem_of_getElem? (i := 4) rfl))) (by decide) (backOf (W := 0) (rmEx l Z a0 hw [] (u1 &&& (255 : Int32)) (u2 &&& (255 : Int32)) (u3 &&& (255 : Int32)) (u4 &&& (255 : Int32)) (3 : Int32) h101 n0 Z101) hZ (hw _ (List.mem_of_getElem? (i := 4) rfl)) (hw _ (List.mem_of_getElem? (i := 3) rfl)) (by decide) (by decide)) (g := (mkF m 159 #[iv u0, iv u1, iv u2, iv u3, iv u4, iv u5, iv (1 : Int32), iv (3 : Int32), iv (4 : Int32), rv b86, iv (u1 &&& (255 : Int32)), iv (u2 &&& (255 : Int32)), iv (u3 &&& (255 : Int32)), iv (u4 &&& (255 : Int32)), .unset] [(.int (3 : Int32)), (.int (u4 &&& (255 : Int32))), (.int (u3 &&& (255 : Int32))), (.int (u2 &&& (255 : Int32))), (.int (u1 &&& (255 : Int32)))])) rfl (by rw [hml]; rfl) (argsL := [(.int (u1 &&& (255 : Int32))), (.int (u2 &&& (255 : Int32))), (.int (u3 &&& (255 : Int32))), (.int (u4 &&& (255 : Int32))), (.int (3 : Int32))]) (rest := []) (lenOf pd_1 rfl) rfl (by show 2 * 0 + _ ≤ _; exact Nat.le_of_eq rfl) (hb hby at_159) (fun _ _ => ⟨rfl, e101, (by decide : 1 + 0 ≤ _), (by decide : 4 + 0 ≤ _)⟩)
      dsimp only [Pt.U, Pt.locs, Pt.cells, Pt.slots] at X104 l104 y104 z104 st104 hQ104
      subst y104 z104
      obtain ⟨rfl, Nq104, eq104⟩ := hQ104
      have N104 : Fr n0 L104 := by rw [l104]; exact Fr.app N101 Nq104
      obtain ⟨_, _, ⟨T105, L105, k105, n105⟩, -, X105, ⟨Lc105, hQ105, l105, y105, z105⟩, st105⟩ := Jvm.LawKit.callS X104 hx (y := (⟨"com/example/rivanna/rivanna/core/json/Utf8", "sequenceLength", "([BI)I"⟩ : MethodName)) hown (mvT hZ (hw _ (List.mem_of_getElem? (i := 5) rfl))) (mvT hZ (hw _ (List.mem_of_getElem? (i := 6) rfl))) (mvT hZ (hw _ (List.mem_of_getElem? (i := 7) rfl))) (mvT hZ (hw _ (List.mem_of_getElem? (i := 8) rfl))) (by decide) (backOf (W := 0) (rmSL13 l Z a0 hw [] b86 k86 (u0.toInt8.toInt32) (u1.toInt8.toInt32) (u2.toInt8.toInt32) (u3.toInt8.toInt32) la lc sa sc ta tc h101 n0 Z101 V101 Od102 hS1 hT1 hS2 hT2 hS3 hT3) hZ (hw _ (List.mem_of_getElem? (i := 8) rfl)) (hw _ (List.mem_of_getElem? (i := 7) rfl)) (by decide) (by decide)) (g := (mkF m 168 #[iv u0, iv u1, iv u2, iv u3, iv u4, iv u5, iv (1 : Int32), iv (3 : Int32), iv (4 : Int32), rv b86, iv (u1 &&& (255 : Int32)), iv (u2 &&& (255 : Int32)), iv (u3 &&& (255 : Int32)), iv (u4 &&& (255 : Int32)), iv (own_ex (u1 &&& (255 : Int32)) (u2 &&& (255 : Int32)) (u3 &&& (255 : Int32)) (u4 &&& (255 : Int32)) (3 : Int32))] [(.int (1 : Int32)), (.ref b86)])) rfl (by rw [hml]; rfl) (argsL := [(.ref b86), (.int (1 : Int32))]) (rest := []) (lenOf pd_2 rfl) rfl (by show 2 * 0 + _ ≤ _; exact Nat.le_of_eq rfl) (hb hby at_168) (fun _ _ => ⟨rfl, eq104, (by decide : 1 + 0 ≤ _), (by decide : 4 + 0 ≤ _)⟩)
      dsimp only [Pt.U, Pt.locs, Pt.cells, Pt.slots] at X105 l105 y105 z105 st105 hQ105
      subst y105 z105
      obtain ⟨rfl, Nq105, eq105⟩ := hQ105
      have N105 : Fr n0 L105 := by rw [l105]; exact Fr.app N104 Nq105
      obtain ⟨fs, hr, hrun, hended, hW, hsame⟩ := X105.leave (v := some (.int (1 : Int32))) (fun h => by rw [Bd.returns] at h; cases h)
      refine ⟨_, _, S1 _ ?_, hrun, hended, _, _, rfl, ?_, ⟨_, rfl⟩, hW, hsame.mono (by decide) (by decide)⟩
      · skip
        show Steps p.tables e below (s₁.setTop (mkF m 16 #[iv u0, iv u1, iv u2, iv u3, iv u4, iv u5, iv (1 : Int32), iv (3 : Int32), .unset, .unset, .unset, .unset, .unset, .unset, .unset] [])) _
        refine XS.iload X0.here hx rfl (hb hby at_16) rfl ?_
        show Steps p.tables e below (s₁.setTop (mkF m 18 #[iv u0, iv u1, iv u2, iv u3, iv u4, iv u5, iv (1 : Int32), iv (3 : Int32), .unset, .unset, .unset, .unset, .unset, .unset, .unset] [(.int (1 : Int32))])) _
        refine XS.iload X0.here hx rfl (hb hby at_18) rfl ?_
        show Steps p.tables e below (s₁.setTop (mkF m 20 #[iv u0, iv u1, iv u2, iv u3, iv u4, iv u5, iv (1 : Int32), iv (3 : Int32), .unset, .unset, .unset, .unset, .unset, .unset, .unset] [(.int (3 : Int32)), (.int (1 : Int32))])) _
        refine XS.iadd X0.here hx rfl (hb hby at_20) rfl ?_
        show Steps p.tables e below (s₁.setTop (mkF m 21 #[iv u0, iv u1, iv u2, iv u3, iv u4, iv u5, iv (1 : Int32), iv (3 : Int32), .unset, .unset, .unset, .unset, .unset, .unset, .unset] [(.int (4 : Int32))])) _
        refine XS.istore X0.here hx rfl (hb hby at_21) rfl (l' := #[iv u0, iv u1, iv u2, iv u3, iv u4, iv u5, iv (1 : Int32), iv (3 : Int32), iv (4 : Int32), .unset, .unset, .unset, .unset, .unset, .unset]) rfl ?_
        show Steps p.tables e below (s₁.setTop (mkF m 23 #[iv u0, iv u1, iv u2, iv u3, iv u4, iv u5, iv (1 : Int32), iv (3 : Int32), iv (4 : Int32), .unset, .unset, .unset, .unset, .unset, .unset] [])) _
        refine XS.iload X0.here hx rfl (hb hby at_23) rfl ?_
        show Steps p.tables e below (s₁.setTop (mkF m 25 #[iv u0, iv u1, iv u2, iv u3, iv u4, iv u5, iv (1 : Int32), iv (3 : Int32), iv (4 : Int32), .unset, .unset, .unset, .unset, .unset, .unset] [(.int (4 : Int32))])) _
        refine st86 _ ?_
        show Steps p.tables e below (T86.setTop (mkF m 27 #[iv u0, iv u1, iv u2, iv u3, iv u4, iv u5, iv (1 : Int32), iv (3 : Int32), iv (4 : Int32), .unset, .unset, .unset, .unset, .unset, .unset] [(.ref b86)])) _
        refine XS.astore X86.here hx rfl (hb hby at_27) rfl rfl (l' := #[iv u0, iv u1, iv u2, iv u3, iv u4, iv u5, iv (1 : Int32), iv (3 : Int32), iv (4 : Int32), rv b86, .unset, .unset, .unset, .unset, .unset]) rfl ?_
        show Steps p.tables e below (T86.setTop (mkF m 29 #[iv u0, iv u1, iv u2, iv u3, iv u4, iv u5, iv (1 : Int32), iv (3 : Int32), iv (4 : Int32), rv b86, .unset, .unset, .unset, .unset, .unset] [])) _
        refine XS.aload X86.here hx rfl (hb hby at_29) rfl rfl ?_
        show Steps p.tables e below (T86.setTop (mkF m 31 #[iv u0, iv u1, iv u2, iv u3, iv u4, iv u5, iv (1 : Int32), iv (3 : Int32), iv (4 : Int32), rv b86, .unset, .unset, .unset, .unset, .unset] [(.ref b86)])) _
        refine XS.iconst X86.here hx rfl (hb hby at_31) ?_
        show Steps p.tables e below (T86.setTop (mkF m 32 #[iv u0, iv u1, iv u2, iv u3, iv u4, iv u5, iv (1 : Int32), iv (3 : Int32), iv (4 : Int32), rv b86, .unset, .unset, .unset, .unset, .unset] [(.int (0 : Int32)), (.ref b86)])) _
        refine XS.iloadN X86.here hx rfl (hb hby at_32) rfl ?_
        show Steps p.tables e below (T86.setTop (mkF m 33 #[iv u0, iv u1, iv u2, iv u3, iv u4, iv u5, iv (1 : Int32), iv (3 : Int32), iv (4 : Int32), rv b86, .unset, .unset, .unset, .unset, .unset] [(.int u0), (.int (0 : Int32)), (.ref b86)])) _
        refine XS.i2b X86.here hx rfl (hb hby at_33) rfl ?_
        show Steps p.tables e below (T86.setTop (mkF m 34 #[iv u0, iv u1, iv u2, iv u3, iv u4, iv u5, iv (1 : Int32), iv (3 : Int32), iv (4 : Int32), rv b86, .unset, .unset, .unset, .unset, .unset] [(.int (u0.toInt8.toInt32)), (.int (0 : Int32)), (.ref b86)])) _
        refine st89 _ ?_
        show Steps p.tables e below (T89.setTop (mkF m 35 #[iv u0, iv u1, iv u2, iv u3, iv u4, iv u5, iv (1 : Int32), iv (3 : Int32), iv (4 : Int32), rv b86, .unset, .unset, .unset, .unset, .unset] [])) _
        refine XS.iload X89.here hx rfl (hb hby at_35) rfl ?_
        show Steps p.tables e below (T89.setTop (mkF m 37 #[iv u0, iv u1, iv u2, iv u3, iv u4, iv u5, iv (1 : Int32), iv (3 : Int32), iv (4 : Int32), rv b86, .unset, .unset, .unset, .unset, .unset] [(.int (4 : Int32))])) _
        refine XS.iconst X89.here hx rfl (hb hby at_37) ?_
        show Steps p.tables e below (T89.setTop (mkF m 38 #[iv u0, iv u1, iv u2, iv u3, iv u4, iv u5, iv (1 : Int32), iv (3 : Int32), iv (4 : Int32), rv b86, .unset, .unset, .unset, .unset, .unset] [(.int (1 : Int32)), (.int (4 : Int32))])) _
        refine XS.icmpNo X89.here hx rfl (hb hby at_38) rfl (tlt (by decide : (1 : Int32) < (4 : Int32))).2.2.2 ?_
        show Steps p.tables e below (T89.setTop (mkF m 41 #[iv u0, iv u1, iv u2, iv u3, iv u4, iv u5, iv (1 : Int32), iv (3 : Int32), iv (4 : Int32), rv b86, .unset, .unset, .unset, .unset, .unset] [])) _
        refine XS.aload X89.here hx rfl (hb hby at_41) rfl rfl ?_
        show Steps p.tables e below (T89.setTop (mkF m 43 #[iv u0, iv u1, iv u2, iv u3, iv u4, iv u5, iv (1 : Int32), iv (3 : Int32), iv (4 : Int32), rv b86, .unset, .unset, .unset, .unset, .unset] [(.ref b86)])) _
        refine XS.iconst X89.here hx rfl (hb hby at_43) ?_
        show Steps p.tables e below (T89.setTop (mkF m 44 #[iv u0, iv u1, iv u2, iv u3, iv u4, iv u5, iv (1 : Int32), iv (3 : Int32), iv (4 : Int32), rv b86, .unset, .unset, .unset, .unset, .unset] [(.int (1 : Int32)), (.ref b86)])) _
        refine XS.iloadN X89.here hx rfl (hb hby at_44) rfl ?_
        show Steps p.tables e below (T89.setTop (mkF m 45 #[iv u0, iv u1, iv u2, iv u3, iv u4, iv u5, iv (1 : Int32), iv (3 : Int32), iv (4 : Int32), rv b86, .unset, .unset, .unset, .unset, .unset] [(.int u1), (.int (1 : Int32)), (.ref b86)])) _
        refine XS.i2b X89.here hx rfl (hb hby at_45) rfl ?_
        show Steps p.tables e below (T89.setTop (mkF m 46 #[iv u0, iv u1, iv u2, iv u3, iv u4, iv u5, iv (1 : Int32), iv (3 : Int32), iv (4 : Int32), rv b86, .unset, .unset, .unset, .unset, .unset] [(.int (u1.toInt8.toInt32)), (.int (1 : Int32)), (.ref b86)])) _
        refine st93 _ ?_
        show Steps p.tables e below (T93.setTop (mkF m 47 #[iv u0, iv u1, iv u2, iv u3, iv u4, iv u5, iv (1 : Int32), iv (3 : Int32), iv (4 : Int32), rv b86, .unset, .unset, .unset, .unset, .unset] [])) _
        refine XS.iload X93.here hx rfl (hb hby at_47) rfl ?_
        show Steps p.tables e below (T93.setTop (mkF m 49 #[iv u0, iv u1, iv u2, iv u3, iv u4, iv u5, iv (1 : Int32), iv (3 : Int32), iv (4 : Int32), rv b86, .unset, .unset, .unset, .unset, .unset] [(.int (4 : Int32))])) _
        refine XS.iconst X93.here hx rfl (hb hby at_49) ?_
        show Steps p.tables e below (T93.setTop (mkF m 50 #[iv u0, iv u1, iv u2, iv u3, iv u4, iv u5, iv (1 : Int32), iv (3 : Int32), iv (4 : Int32), rv b86, .unset, .unset, .unset, .unset, .unset] [(.int (2 : Int32)), (.int (4 : Int32))])) _
        refine XS.icmpNo X93.here hx rfl (hb hby at_50) rfl (tlt (by decide : (2 : Int32) < (4 : Int32))).2.2.2 ?_
        show Steps p.tables e below (T93.setTop (mkF m 53 #[iv u0, iv u1, iv u2, iv u3, iv u4, iv u5, iv (1 : Int32), iv (3 : Int32), iv (4 : Int32), rv b86, .unset, .unset, .unset, .unset, .unset] [])) _
        refine XS.aload X93.here hx rfl (hb hby at_53) rfl rfl ?_
        show Steps p.tables e below (T93.setTop (mkF m 55 #[iv u0, iv u1, iv u2, iv u3, iv u4, iv u5, iv (1 : Int32), iv (3 : Int32), iv (4 : Int32), rv b86, .unset, .unset, .unset, .unset, .unset] [(.ref b86)])) _
        refine XS.iconst X93.here hx rfl (hb hby at_55) ?_
        show Steps p.tables e below (T93.setTop (mkF m 56 #[iv u0, iv u1, iv u2, iv u3, iv u4, iv u5, iv (1 : Int32), iv (3 : Int32), iv (4 : Int32), rv b86, .unset, .unset, .unset, .unset, .unset] [(.int (2 : Int32)), (.ref b86)])) _
        refine XS.iloadN X93.here hx rfl (hb hby at_56) rfl ?_
        show Steps p.tables e below (T93.setTop (mkF m 57 #[iv u0, iv u1, iv u2, iv u3, iv u4, iv u5, iv (1 : Int32), iv (3 : Int32), iv (4 : Int32), rv b86, .unset, .unset, .unset, .unset, .unset] [(.int u2), (.int (2 : Int32)), (.ref b86)])) _
        refine XS.i2b X93.here hx rfl (hb hby at_57) rfl ?_
        show Steps p.tables e below (T93.setTop (mkF m 58 #[iv u0, iv u1, iv u2, iv u3, iv u4, iv u5, iv (1 : Int32), iv (3 : Int32), iv (4 : Int32), rv b86, .unset, .unset, .unset, .unset, .unset] [(.int (u2.toInt8.toInt32)), (.int (2 : Int32)), (.ref b86)])) _
        refine st97 _ ?_
        show Steps p.tables e below (T97.setTop (mkF m 59 #[iv u0, iv u1, iv u2, iv u3, iv u4, iv u5, iv (1 : Int32), iv (3 : Int32), iv (4 : Int32), rv b86, .unset, .unset, .unset, .unset, .unset] [])) _
        refine XS.iload X97.here hx rfl (hb hby at_59) rfl ?_
        show Steps p.tables e below (T97.setTop (mkF m 61 #[iv u0, iv u1, iv u2, iv u3, iv u4, iv u5, iv (1 : Int32), iv (3 : Int32), iv (4 : Int32), rv b86, .unset, .unset, .unset, .unset, .unset] [(.int (4 : Int32))])) _
        refine XS.iconst X97.here hx rfl (hb hby at_61) ?_
        show Steps p.tables e below (T97.setTop (mkF m 62 #[iv u0, iv u1, iv u2, iv u3, iv u4, iv u5, iv (1 : Int32), iv (3 : Int32), iv (4 : Int32), rv b86, .unset, .unset, .unset, .unset, .unset] [(.int (3 : Int32)), (.int (4 : Int32))])) _
        refine XS.icmpNo X97.here hx rfl (hb hby at_62) rfl (tlt (by decide : (3 : Int32) < (4 : Int32))).2.2.2 ?_
        show Steps p.tables e below (T97.setTop (mkF m 65 #[iv u0, iv u1, iv u2, iv u3, iv u4, iv u5, iv (1 : Int32), iv (3 : Int32), iv (4 : Int32), rv b86, .unset, .unset, .unset, .unset, .unset] [])) _
        refine XS.aload X97.here hx rfl (hb hby at_65) rfl rfl ?_
        show Steps p.tables e below (T97.setTop (mkF m 67 #[iv u0, iv u1, iv u2, iv u3, iv u4, iv u5, iv (1 : Int32), iv (3 : Int32), iv (4 : Int32), rv b86, .unset, .unset, .unset, .unset, .unset] [(.ref b86)])) _
        refine XS.iconst X97.here hx rfl (hb hby at_67) ?_
        show Steps p.tables e below (T97.setTop (mkF m 68 #[iv u0, iv u1, iv u2, iv u3, iv u4, iv u5, iv (1 : Int32), iv (3 : Int32), iv (4 : Int32), rv b86, .unset, .unset, .unset, .unset, .unset] [(.int (3 : Int32)), (.ref b86)])) _
        refine XS.iloadN X97.here hx rfl (hb hby at_68) rfl ?_
        show Steps p.tables e below (T97.setTop (mkF m 69 #[iv u0, iv u1, iv u2, iv u3, iv u4, iv u5, iv (1 : Int32), iv (3 : Int32), iv (4 : Int32), rv b86, .unset, .unset, .unset, .unset, .unset] [(.int u3), (.int (3 : Int32)), (.ref b86)])) _
        refine XS.i2b X97.here hx rfl (hb hby at_69) rfl ?_
        show Steps p.tables e below (T97.setTop (mkF m 70 #[iv u0, iv u1, iv u2, iv u3, iv u4, iv u5, iv (1 : Int32), iv (3 : Int32), iv (4 : Int32), rv b86, .unset, .unset, .unset, .unset, .unset] [(.int (u3.toInt8.toInt32)), (.int (3 : Int32)), (.ref b86)])) _
        refine st101 _ ?_
        show Steps p.tables e below (T101.setTop (mkF m 71 #[iv u0, iv u1, iv u2, iv u3, iv u4, iv u5, iv (1 : Int32), iv (3 : Int32), iv (4 : Int32), rv b86, .unset, .unset, .unset, .unset, .unset] [])) _
        refine XS.iload X101.here hx rfl (hb hby at_71) rfl ?_
        show Steps p.tables e below (T101.setTop (mkF m 73 #[iv u0, iv u1, iv u2, iv u3, iv u4, iv u5, iv (1 : Int32), iv (3 : Int32), iv (4 : Int32), rv b86, .unset, .unset, .unset, .unset, .unset] [(.int (4 : Int32))])) _
        refine XS.iconst X101.here hx rfl (hb hby at_73) ?_
        show Steps p.tables e below (T101.setTop (mkF m 74 #[iv u0, iv u1, iv u2, iv u3, iv u4, iv u5, iv (1 : Int32), iv (3 : Int32), iv (4 : Int32), rv b86, .unset, .unset, .unset, .unset, .unset] [(.int (4 : Int32)), (.int (4 : Int32))])) _
        refine XS.icmpYes X101.here hx rfl (pc0 := 74) (pc' := 84) rfl (hb hby at_74) rfl (flt (by decide : ¬ ((4 : Int32) < (4 : Int32)))).2.2.2 (by decide) (by decide) ?_
        show Steps p.tables e below (T101.setTop (mkF m 84 #[iv u0, iv u1, iv u2, iv u3, iv u4, iv u5, iv (1 : Int32), iv (3 : Int32), iv (4 : Int32), rv b86, .unset, .unset, .unset, .unset, .unset] [])) _
        refine XS.iload X101.here hx rfl (hb hby at_84) rfl ?_
        show Steps p.tables e below (T101.setTop (mkF m 86 #[iv u0, iv u1, iv u2, iv u3, iv u4, iv u5, iv (1 : Int32), iv (3 : Int32), iv (4 : Int32), rv b86, .unset, .unset, .unset, .unset, .unset] [(.int (1 : Int32))])) _
        refine XS.ifYes X101.here hx rfl (pc0 := 86) (pc' := 93) rfl (hb hby at_86) rfl ((if0 _ _).trans (feq (by decide : ¬ ((1 : Int32) = (0 : Int32)))).2) (by decide) (by decide) ?_
        show Steps p.tables e below (T101.setTop (mkF m 93 #[iv u0, iv u1, iv u2, iv u3, iv u4, iv u5, iv (1 : Int32), iv (3 : Int32), iv (4 : Int32), rv b86, .unset, .unset, .unset, .unset, .unset] [])) _
        refine XS.iloadN X101.here hx rfl (hb hby at_93) rfl ?_
        show Steps p.tables e below (T101.setTop (mkF m 94 #[iv u0, iv u1, iv u2, iv u3, iv u4, iv u5, iv (1 : Int32), iv (3 : Int32), iv (4 : Int32), rv b86, .unset, .unset, .unset, .unset, .unset] [(.int u1)])) _
        refine XS.sipush X101.here hx rfl (hb hby at_94) ?_
        show Steps p.tables e below (T101.setTop (mkF m 97 #[iv u0, iv u1, iv u2, iv u3, iv u4, iv u5, iv (1 : Int32), iv (3 : Int32), iv (4 : Int32), rv b86, .unset, .unset, .unset, .unset, .unset] [(.int (255 : Int32)), (.int u1)])) _
        refine XS.iand X101.here hx rfl (hb hby at_97) rfl ?_
        show Steps p.tables e below (T101.setTop (mkF m 98 #[iv u0, iv u1, iv u2, iv u3, iv u4, iv u5, iv (1 : Int32), iv (3 : Int32), iv (4 : Int32), rv b86, .unset, .unset, .unset, .unset, .unset] [(.int (u1 &&& (255 : Int32)))])) _
        refine XS.istore X101.here hx rfl (hb hby at_98) rfl (l' := #[iv u0, iv u1, iv u2, iv u3, iv u4, iv u5, iv (1 : Int32), iv (3 : Int32), iv (4 : Int32), rv b86, iv (u1 &&& (255 : Int32)), .unset, .unset, .unset, .unset]) rfl ?_
        show Steps p.tables e below (T101.setTop (mkF m 100 #[iv u0, iv u1, iv u2, iv u3, iv u4, iv u5, iv (1 : Int32), iv (3 : Int32), iv (4 : Int32), rv b86, iv (u1 &&& (255 : Int32)), .unset, .unset, .unset, .unset] [])) _
        refine XS.iload X101.here hx rfl (hb hby at_100) rfl ?_
        show Steps p.tables e below (T101.setTop (mkF m 102 #[iv u0, iv u1, iv u2, iv u3, iv u4, iv u5, iv (1 : Int32), iv (3 : Int32), iv (4 : Int32), rv b86, iv (u1 &&& (255 : Int32)), .unset, .unset, .unset, .unset] [(.int (1 : Int32))])) _
        refine XS.ifYes X101.here hx rfl (pc0 := 102) (pc' := 109) rfl (hb hby at_102) rfl ((if0 _ _).trans (feq (by decide : ¬ ((1 : Int32) = (0 : Int32)))).2) (by decide) (by decide) ?_
        show Steps p.tables e below (T101.setTop (mkF m 109 #[iv u0, iv u1, iv u2, iv u3, iv u4, iv u5, iv (1 : Int32), iv (3 : Int32), iv (4 : Int32), rv b86, iv (u1 &&& (255 : Int32)), .unset, .unset, .unset, .unset] [])) _
        refine XS.iloadN X101.here hx rfl (hb hby at_109) rfl ?_
        show Steps p.tables e below (T101.setTop (mkF m 110 #[iv u0, iv u1, iv u2, iv u3, iv u4, iv u5, iv (1 : Int32), iv (3 : Int32), iv (4 : Int32), rv b86, iv (u1 &&& (255 : Int32)), .unset, .unset, .unset, .unset] [(.int u2)])) _
        refine XS.sipush X101.here hx rfl (hb hby at_110) ?_
        show Steps p.tables e below (T101.setTop (mkF m 113 #[iv u0, iv u1, iv u2, iv u3, iv u4, iv u5, iv (1 : Int32), iv (3 : Int32), iv (4 : Int32), rv b86, iv (u1 &&& (255 : Int32)), .unset, .unset, .unset, .unset] [(.int (255 : Int32)), (.int u2)])) _
        refine XS.iand X101.here hx rfl (hb hby at_113) rfl ?_
        show Steps p.tables e below (T101.setTop (mkF m 114 #[iv u0, iv u1, iv u2, iv u3, iv u4, iv u5, iv (1 : Int32), iv (3 : Int32), iv (4 : Int32), rv b86, iv (u1 &&& (255 : Int32)), .unset, .unset, .unset, .unset] [(.int (u2 &&& (255 : Int32)))])) _
        refine XS.istore X101.here hx rfl (hb hby at_114) rfl (l' := #[iv u0, iv u1, iv u2, iv u3, iv u4, iv u5, iv (1 : Int32), iv (3 : Int32), iv (4 : Int32), rv b86, iv (u1 &&& (255 : Int32)), iv (u2 &&& (255 : Int32)), .unset, .unset, .unset]) rfl ?_
        show Steps p.tables e below (T101.setTop (mkF m 116 #[iv u0, iv u1, iv u2, iv u3, iv u4, iv u5, iv (1 : Int32), iv (3 : Int32), iv (4 : Int32), rv b86, iv (u1 &&& (255 : Int32)), iv (u2 &&& (255 : Int32)), .unset, .unset, .unset] [])) _
        refine XS.iload X101.here hx rfl (hb hby at_116) rfl ?_
        show Steps p.tables e below (T101.setTop (mkF m 118 #[iv u0, iv u1, iv u2, iv u3, iv u4, iv u5, iv (1 : Int32), iv (3 : Int32), iv (4 : Int32), rv b86, iv (u1 &&& (255 : Int32)), iv (u2 &&& (255 : Int32)), .unset, .unset, .unset] [(.int (1 : Int32))])) _
        refine XS.ifYes X101.here hx rfl (pc0 := 118) (pc' := 125) rfl (hb hby at_118) rfl ((if0 _ _).trans (feq (by decide : ¬ ((1 : Int32) = (0 : Int32)))).2) (by decide) (by decide) ?_
        show Steps p.tables e below (T101.setTop (mkF m 125 #[iv u0, iv u1, iv u2, iv u3, iv u4, iv u5, iv (1 : Int32), iv (3 : Int32), iv (4 : Int32), rv b86, iv (u1 &&& (255 : Int32)), iv (u2 &&& (255 : Int32)), .unset, .unset, .unset] [])) _
        refine XS.iloadN X101.here hx rfl (hb hby at_125) rfl ?_
        show Steps p.tables e below (T101.setTop (mkF m 126 #[iv u0, iv u1, iv u2, iv u3, iv u4, iv u5, iv (1 : Int32), iv (3 : Int32), iv (4 : Int32), rv b86, iv (u1 &&& (255 : Int32)), iv (u2 &&& (255 : Int32)), .unset, .unset, .unset] [(.int u3)])) _
        refine XS.sipush X101.here hx rfl (hb hby at_126) ?_
        show Steps p.tables e below (T101.setTop (mkF m 129 #[iv u0, iv u1, iv u2, iv u3, iv u4, iv u5, iv (1 : Int32), iv (3 : Int32), iv (4 : Int32), rv b86, iv (u1 &&& (255 : Int32)), iv (u2 &&& (255 : Int32)), .unset, .unset, .unset] [(.int (255 : Int32)), (.int u3)])) _
        refine XS.iand X101.here hx rfl (hb hby at_129) rfl ?_
        show Steps p.tables e below (T101.setTop (mkF m 130 #[iv u0, iv u1, iv u2, iv u3, iv u4, iv u5, iv (1 : Int32), iv (3 : Int32), iv (4 : Int32), rv b86, iv (u1 &&& (255 : Int32)), iv (u2 &&& (255 : Int32)), .unset, .unset, .unset] [(.int (u3 &&& (255 : Int32)))])) _
        refine XS.istore X101.here hx rfl (hb hby at_130) rfl (l' := #[iv u0, iv u1, iv u2, iv u3, iv u4, iv u5, iv (1 : Int32), iv (3 : Int32), iv (4 : Int32), rv b86, iv (u1 &&& (255 : Int32)), iv (u2 &&& (255 : Int32)), iv (u3 &&& (255 : Int32)), .unset, .unset]) rfl ?_
        show Steps p.tables e below (T101.setTop (mkF m 132 #[iv u0, iv u1, iv u2, iv u3, iv u4, iv u5, iv (1 : Int32), iv (3 : Int32), iv (4 : Int32), rv b86, iv (u1 &&& (255 : Int32)), iv (u2 &&& (255 : Int32)), iv (u3 &&& (255 : Int32)), .unset, .unset] [])) _
        refine XS.iload X101.here hx rfl (hb hby at_132) rfl ?_
        show Steps p.tables e below (T101.setTop (mkF m 134 #[iv u0, iv u1, iv u2, iv u3, iv u4, iv u5, iv (1 : Int32), iv (3 : Int32), iv (4 : Int32), rv b86, iv (u1 &&& (255 : Int32)), iv (u2 &&& (255 : Int32)), iv (u3 &&& (255 : Int32)), .unset, .unset] [(.int (1 : Int32))])) _
        refine XS.ifYes X101.here hx rfl (pc0 := 134) (pc' := 141) rfl (hb hby at_134) rfl ((if0 _ _).trans (feq (by decide : ¬ ((1 : Int32) = (0 : Int32)))).2) (by decide) (by decide) ?_
        show Steps p.tables e below (T101.setTop (mkF m 141 #[iv u0, iv u1, iv u2, iv u3, iv u4, iv u5, iv (1 : Int32), iv (3 : Int32), iv (4 : Int32), rv b86, iv (u1 &&& (255 : Int32)), iv (u2 &&& (255 : Int32)), iv (u3 &&& (255 : Int32)), .unset, .unset] [])) _
        refine XS.iload X101.here hx rfl (hb hby at_141) rfl ?_
        show Steps p.tables e below (T101.setTop (mkF m 143 #[iv u0, iv u1, iv u2, iv u3, iv u4, iv u5, iv (1 : Int32), iv (3 : Int32), iv (4 : Int32), rv b86, iv (u1 &&& (255 : Int32)), iv (u2 &&& (255 : Int32)), iv (u3 &&& (255 : Int32)), .unset, .unset] [(.int u4)])) _
        refine XS.sipush X101.here hx rfl (hb hby at_143) ?_
        show Steps p.tables e below (T101.setTop (mkF m 146 #[iv u0, iv u1, iv u2, iv u3, iv u4, iv u5, iv (1 : Int32), iv (3 : Int32), iv (4 : Int32), rv b86, iv (u1 &&& (255 : Int32)), iv (u2 &&& (255 : Int32)), iv (u3 &&& (255 : Int32)), .unset, .unset] [(.int (255 : Int32)), (.int u4)])) _
        refine XS.iand X101.here hx rfl (hb hby at_146) rfl ?_
        show Steps p.tables e below (T101.setTop (mkF m 147 #[iv u0, iv u1, iv u2, iv u3, iv u4, iv u5, iv (1 : Int32), iv (3 : Int32), iv (4 : Int32), rv b86, iv (u1 &&& (255 : Int32)), iv (u2 &&& (255 : Int32)), iv (u3 &&& (255 : Int32)), .unset, .unset] [(.int (u4 &&& (255 : Int32)))])) _
        refine XS.istore X101.here hx rfl (hb hby at_147) rfl (l' := #[iv u0, iv u1, iv u2, iv u3, iv u4, iv u5, iv (1 : Int32), iv (3 : Int32), iv (4 : Int32), rv b86, iv (u1 &&& (255 : Int32)), iv (u2 &&& (255 : Int32)), iv (u3 &&& (255 : Int32)), iv (u4 &&& (255 : Int32)), .unset]) rfl ?_
        show Steps p.tables e below (T101.setTop (mkF m 149 #[iv u0, iv u1, iv u2, iv u3, iv u4, iv u5, iv (1 : Int32), iv (3 : Int32), iv (4 : Int32), rv b86, iv (u1 &&& (255 : Int32)), iv (u2 &&& (255 : Int32)), iv (u3 &&& (255 : Int32)), iv (u4 &&& (255 : Int32)), .unset] [])) _
        refine XS.iload X101.here hx rfl (hb hby at_149) rfl ?_
        show Steps p.tables e below (T101.setTop (mkF m 151 #[iv u0, iv u1, iv u2, iv u3, iv u4, iv u5, iv (1 : Int32), iv (3 : Int32), iv (4 : Int32), rv b86, iv (u1 &&& (255 : Int32)), iv (u2 &&& (255 : Int32)), iv (u3 &&& (255 : Int32)), iv (u4 &&& (255 : Int32)), .unset] [(.int (u1 &&& (255 : Int32)))])) _
        refine XS.iload X101.here hx rfl (hb hby at_151) rfl ?_
        show Steps p.tables e below (T101.setTop (mkF m 153 #[iv u0, iv u1, iv u2, iv u3, iv u4, iv u5, iv (1 : Int32), iv (3 : Int32), iv (4 : Int32), rv b86, iv (u1 &&& (255 : Int32)), iv (u2 &&& (255 : Int32)), iv (u3 &&& (255 : Int32)), iv (u4 &&& (255 : Int32)), .unset] [(.int (u2 &&& (255 : Int32))), (.int (u1 &&& (255 : Int32)))])) _
        refine XS.iload X101.here hx rfl (hb hby at_153) rfl ?_
        show Steps p.tables e below (T101.setTop (mkF m 155 #[iv u0, iv u1, iv u2, iv u3, iv u4, iv u5, iv (1 : Int32), iv (3 : Int32), iv (4 : Int32), rv b86, iv (u1 &&& (255 : Int32)), iv (u2 &&& (255 : Int32)), iv (u3 &&& (255 : Int32)), iv (u4 &&& (255 : Int32)), .unset] [(.int (u3 &&& (255 : Int32))), (.int (u2 &&& (255 : Int32))), (.int (u1 &&& (255 : Int32)))])) _
        refine XS.iload X101.here hx rfl (hb hby at_155) rfl ?_
        show Steps p.tables e below (T101.setTop (mkF m 157 #[iv u0, iv u1, iv u2, iv u3, iv u4, iv u5, iv (1 : Int32), iv (3 : Int32), iv (4 : Int32), rv b86, iv (u1 &&& (255 : Int32)), iv (u2 &&& (255 : Int32)), iv (u3 &&& (255 : Int32)), iv (u4 &&& (255 : Int32)), .unset] [(.int (u4 &&& (255 : Int32))), (.int (u3 &&& (255 : Int32))), (.int (u2 &&& (255 : Int32))), (.int (u1 &&& (255 : Int32)))])) _
        refine XS.iload X101.here hx rfl (hb hby at_157) rfl ?_
        show Steps p.tables e below (T101.setTop (mkF m 159 #[iv u0, iv u1, iv u2, iv u3, iv u4, iv u5, iv (1 : Int32), iv (3 : Int32), iv (4 : Int32), rv b86, iv (u1 &&& (255 : Int32)), iv (u2 &&& (255 : Int32)), iv (u3 &&& (255 : Int32)), iv (u4 &&& (255 : Int32)), .unset] [(.int (3 : Int32)), (.int (u4 &&& (255 : Int32))), (.int (u3 &&& (255 : Int32))), (.int (u2 &&& (255 : Int32))), (.int (u1 &&& (255 : Int32)))])) _
        refine st104 _ ?_
        show Steps p.tables e below (T104.setTop (mkF m 162 #[iv u0, iv u1, iv u2, iv u3, iv u4, iv u5, iv (1 : Int32), iv (3 : Int32), iv (4 : Int32), rv b86, iv (u1 &&& (255 : Int32)), iv (u2 &&& (255 : Int32)), iv (u3 &&& (255 : Int32)), iv (u4 &&& (255 : Int32)), .unset] [(.int (own_ex (u1 &&& (255 : Int32)) (u2 &&& (255 : Int32)) (u3 &&& (255 : Int32)) (u4 &&& (255 : Int32)) (3 : Int32)))])) _
        refine XS.istore X104.here hx rfl (hb hby at_162) rfl (l' := #[iv u0, iv u1, iv u2, iv u3, iv u4, iv u5, iv (1 : Int32), iv (3 : Int32), iv (4 : Int32), rv b86, iv (u1 &&& (255 : Int32)), iv (u2 &&& (255 : Int32)), iv (u3 &&& (255 : Int32)), iv (u4 &&& (255 : Int32)), iv (own_ex (u1 &&& (255 : Int32)) (u2 &&& (255 : Int32)) (u3 &&& (255 : Int32)) (u4 &&& (255 : Int32)) (3 : Int32))]) rfl ?_
        show Steps p.tables e below (T104.setTop (mkF m 164 #[iv u0, iv u1, iv u2, iv u3, iv u4, iv u5, iv (1 : Int32), iv (3 : Int32), iv (4 : Int32), rv b86, iv (u1 &&& (255 : Int32)), iv (u2 &&& (255 : Int32)), iv (u3 &&& (255 : Int32)), iv (u4 &&& (255 : Int32)), iv (own_ex (u1 &&& (255 : Int32)) (u2 &&& (255 : Int32)) (u3 &&& (255 : Int32)) (u4 &&& (255 : Int32)) (3 : Int32))] [])) _
        refine XS.aload X104.here hx rfl (hb hby at_164) rfl rfl ?_
        show Steps p.tables e below (T104.setTop (mkF m 166 #[iv u0, iv u1, iv u2, iv u3, iv u4, iv u5, iv (1 : Int32), iv (3 : Int32), iv (4 : Int32), rv b86, iv (u1 &&& (255 : Int32)), iv (u2 &&& (255 : Int32)), iv (u3 &&& (255 : Int32)), iv (u4 &&& (255 : Int32)), iv (own_ex (u1 &&& (255 : Int32)) (u2 &&& (255 : Int32)) (u3 &&& (255 : Int32)) (u4 &&& (255 : Int32)) (3 : Int32))] [(.ref b86)])) _
        refine XS.iload X104.here hx rfl (hb hby at_166) rfl ?_
        show Steps p.tables e below (T104.setTop (mkF m 168 #[iv u0, iv u1, iv u2, iv u3, iv u4, iv u5, iv (1 : Int32), iv (3 : Int32), iv (4 : Int32), rv b86, iv (u1 &&& (255 : Int32)), iv (u2 &&& (255 : Int32)), iv (u3 &&& (255 : Int32)), iv (u4 &&& (255 : Int32)), iv (own_ex (u1 &&& (255 : Int32)) (u2 &&& (255 : Int32)) (u3 &&& (255 : Int32)) (u4 &&& (255 : Int32)) (3 : Int32))] [(.int (1 : Int32)), (.ref b86)])) _
        refine st105 _ ?_
        show Steps p.tables e below (T105.setTop (mkF m 171 #[iv u0, iv u1, iv u2, iv u3, iv u4, iv u5, iv (1 : Int32), iv (3 : Int32), iv (4 : Int32), rv b86, iv (u1 &&& (255 : Int32)), iv (u2 &&& (255 : Int32)), iv (u3 &&& (255 : Int32)), iv (u4 &&& (255 : Int32)), iv (own_ex (u1 &&& (255 : Int32)) (u2 &&& (255 : Int32)) (u3 &&& (255 : Int32)) (u4 &&& (255 : Int32)) (3 : Int32))] [(.int (own_sl3 (u1.toInt8.toInt32) (u2.toInt8.toInt32) (u3.toInt8.toInt32)))])) _
        refine XS.iload X105.here hx rfl (hb hby at_171) rfl ?_
        show Steps p.tables e below (T105.setTop (mkF m 173 #[iv u0, iv u1, iv u2, iv u3, iv u4, iv u5, iv (1 : Int32), iv (3 : Int32), iv (4 : Int32), rv b86, iv (u1 &&& (255 : Int32)), iv (u2 &&& (255 : Int32)), iv (u3 &&& (255 : Int32)), iv (u4 &&& (255 : Int32)), iv (own_ex (u1 &&& (255 : Int32)) (u2 &&& (255 : Int32)) (u3 &&& (255 : Int32)) (u4 &&& (255 : Int32)) (3 : Int32))] [(.int (own_ex (u1 &&& (255 : Int32)) (u2 &&& (255 : Int32)) (u3 &&& (255 : Int32)) (u4 &&& (255 : Int32)) (3 : Int32))), (.int (own_sl3 (u1.toInt8.toInt32) (u2.toInt8.toInt32) (u3.toInt8.toInt32)))])) _
        refine XS.icmpNo X105.here hx rfl (hb hby at_173) rfl (teq (own_plain3 _ _ _ _)).2 ?_
        show Steps p.tables e below (T105.setTop (mkF m 176 #[iv u0, iv u1, iv u2, iv u3, iv u4, iv u5, iv (1 : Int32), iv (3 : Int32), iv (4 : Int32), rv b86, iv (u1 &&& (255 : Int32)), iv (u2 &&& (255 : Int32)), iv (u3 &&& (255 : Int32)), iv (u4 &&& (255 : Int32)), iv (own_ex (u1 &&& (255 : Int32)) (u2 &&& (255 : Int32)) (u3 &&& (255 : Int32)) (u4 &&& (255 : Int32)) (3 : Int32))] [])) _
        refine XS.iconst X105.here hx rfl (hb hby at_176) ?_
        show Steps p.tables e below (T105.setTop (mkF m 177 #[iv u0, iv u1, iv u2, iv u3, iv u4, iv u5, iv (1 : Int32), iv (3 : Int32), iv (4 : Int32), rv b86, iv (u1 &&& (255 : Int32)), iv (u2 &&& (255 : Int32)), iv (u3 &&& (255 : Int32)), iv (u4 &&& (255 : Int32)), iv (own_ex (u1 &&& (255 : Int32)) (u2 &&& (255 : Int32)) (u3 &&& (255 : Int32)) (u4 &&& (255 : Int32)) (3 : Int32))] [(.int (1 : Int32))])) _
        refine XS.goto X105.here hx rfl (pc0 := 177) (pc' := 181) rfl (hb hby at_177) (by decide) (by decide) ?_
        show Steps p.tables e below (T105.setTop (mkF m 181 #[iv u0, iv u1, iv u2, iv u3, iv u4, iv u5, iv (1 : Int32), iv (3 : Int32), iv (4 : Int32), rv b86, iv (u1 &&& (255 : Int32)), iv (u2 &&& (255 : Int32)), iv (u3 &&& (255 : Int32)), iv (u4 &&& (255 : Int32)), iv (own_ex (u1 &&& (255 : Int32)) (u2 &&& (255 : Int32)) (u3 &&& (255 : Int32)) (u4 &&& (255 : Int32)) (3 : Int32))] [(.int (1 : Int32))])) _
        exact retN X105 hx (t := .boolean) Bd.returns (by simp) (hb hby at_181) hr
      · show Q0 Z u0 u1 u2 u3 u4 u5 la lc sa sc ta tc h0 n0 _ T105.heap _
        rw [eq105]
        exact ⟨rfl, N105⟩
    · skip
      rw [hv] at S1
      obtain ⟨T106, h106, k106, X106, e106, E106, A106, st106⟩ := newP X0 hx hZ (hw _ (List.mem_of_getElem? (i := 0) rfl)) e0 (g := (mkF m 25 #[iv u0, iv u1, iv u2, iv u3, iv u4, iv u5, iv (1 : Int32), iv (4 : Int32), iv (5 : Int32), .unset, .unset, .unset, .unset, .unset, .unset] [(.int (5 : Int32))])) rfl (hb hby at_25) rfl (by decide) (cap := 5) (by decide) (by decide) (by decide) (by decide)
      obtain ⟨b106, g106⟩ : ∃ z, z = h0.size := ⟨_, rfl⟩
      rw [← g106] at A106 st106
      have ge_b106 : n0 ≤ b106 := Nat.le_trans Z0 (Nat.le_of_eq g106.symm)
      have Od107 := hO.ext E106
      have V106 : Arv Z h106 b106 k106 .byte (5 : Int32) [(.int (0 : Int32)), (.int (0 : Int32)), (.int (0 : Int32)), (.int (0 : Int32)), (.int (0 : Int32))] (.int (0 : Int32)) := (Arv.new A106 (by decide)).pad (pad_rep [] (.int (0 : Int32)) 5)
      have Z106 : n0 ≤ h106.size := Nat.le_trans Z0 E106.1
      obtain ⟨cl108, Ar108, qa108, Sa108, Na108, Ha108, Ga108⟩ := id V106
      have hin108 : ¬ ((0 : Int32) < 0 ∨ cl108.slots.size ≤ ((0 : Int32)).toNatClampNeg) := inb_of Sa108 ⟨by decide, by decide⟩
      obtain ⟨T109, h109, X109, e109, W109, st109⟩ := stB X106 hx hZ e106 Ar108 (j := (0 : Int32)) hin108 (g := (mkF m 34 #[iv u0, iv u1, iv u2, iv u3, iv u4, iv u5, iv (1 : Int32), iv (4 : Int32), iv (5 : Int32), rv b106, .unset, .unset, .unset, .unset, .unset] [(.int (u0.toInt8.toInt32)), (.int (0 : Int32)), (.ref b106)])) rfl rfl (hb hby at_34)
      rw [own_nb] at W109
      have V109 : Arv Z h109 b106 k106 .byte (5 : Int32) [(.int (u0.toInt8.toInt32)), (.int (0 : Int32)), (.int (0 : Int32)), (.int (0 : Int32)), (.int (0 : Int32))] (.int (0 : Int32)) := Arv.set Ar108 qa108 Sa108 Na108 Ha108 Ga108 (own_fb _) W109 0 rfl (Nat.le_of_ble_eq_true rfl)
      have N109 := Fr.snoc X109 N0 ge_b106
      have Z109 : n0 ≤ h109.size := Nat.le_trans Z106 (Keep.of_wr W109).1
      have Od110 := Od107.wr W109 ge_b106
      obtain ⟨cl112, Ar112, qa112, Sa112, Na112, Ha112, Ga112⟩ := id V109
      have hin112 : ¬ ((1 : Int32) < 0 ∨ cl112.slots.size ≤ ((1 : Int32)).toNatClampNeg) := inb_of Sa112 ⟨by decide, by decide⟩
      obtain ⟨T113, h113, X113, e113, W113, st113⟩ := stB X109 hx hZ e109 Ar112 (j := (1 : Int32)) hin112 (g := (mkF m 46 #[iv u0, iv u1, iv u2, iv u3, iv u4, iv u5, iv (1 : Int32), iv (4 : Int32), iv (5 : Int32), rv b106, .unset, .unset, .unset, .unset, .unset] [(.int (u1.toInt8.toInt32)), (.int (1 : Int32)), (.ref b106)])) rfl rfl (hb hby at_46)
      rw [own_nb] at W113
      have V113 : Arv Z h113 b106 k106 .byte (5 : Int32) [(.int (u0.toInt8.toInt32)), (.int (u1.toInt8.toInt32)), (.int (0 : Int32)), (.int (0 : Int32)), (.int (0 : Int32))] (.int (0 : Int32)) := Arv.set Ar112 qa112 Sa112 Na112 Ha112 Ga112 (own_fb _) W113 1 rfl (Nat.le_of_ble_eq_true rfl)
      have N113 := Fr.snoc X113 N109 ge_b106
      have Z113 : n0 ≤ h113.size := Nat.le_trans Z109 (Keep.of_wr W113).1
      have Od114 := Od110.wr W113 ge_b106
      obtain ⟨cl116, Ar116, qa116, Sa116, Na116, Ha116, Ga116⟩ := id V113
      have hin116 : ¬ ((2 : Int32) < 0 ∨ cl116.slots.size ≤ ((2 : Int32)).toNatClampNeg) := inb_of Sa116 ⟨by decide, by decide⟩
      obtain ⟨T117, h117, X117, e117, W117, st117⟩ := stB X113 hx hZ e113 Ar116 (j := (2 : Int32)) hin116 (g := (mkF m 58 #[iv u0, iv u1, iv u2, iv u3, iv u4, iv u5, iv (1 : Int32), iv (4 : Int32), iv (5 : Int32), rv b106, .unset, .unset, .unset, .unset, .unset] [(.int (u2.toInt8.toInt32)), (.int (2 : Int32)), (.ref b106)])) rfl rfl (hb hby at_58)
      rw [own_nb] at W117
      have V117 : Arv Z h117 b106 k106 .byte (5 : Int32) [(.int (u0.toInt8.toInt32)), (.int (u1.toInt8.toInt32)), (.int (u2.toInt8.toInt32)), (.int (0 : Int32)), (.int (0 : Int32))] (.int (0 : Int32)) := Arv.set Ar116 qa116 Sa116 Na116 Ha116 Ga116 (own_fb _) W117 2 rfl (Nat.le_of_ble_eq_true rfl)
      have N117 := Fr.snoc X117 N113 ge_b106
      have Z117 : n0 ≤ h117.size := Nat.le_trans Z113 (Keep.of_wr W117).1
      have Od118 := Od114.wr W117 ge_b106
      obtain ⟨cl120, Ar120, qa120, Sa120, Na120, Ha120, Ga120⟩ := id V117
      have hin120 : ¬ ((3 : Int32) < 0 ∨ cl120.slots.size ≤ ((3 : Int32)).toNatClampNeg) := inb_of Sa120 ⟨by decide, by decide⟩
      obtain ⟨T121, h121, X121, e121, W121, st121⟩ := stB X117 hx hZ e117 Ar120 (j := (3 : Int32)) hin120 (g := (mkF m 70 #[iv u0, iv u1, iv u2, iv u3, iv u4, iv u5, iv (1 : Int32), iv (4 : Int32), iv (5 : Int32), rv b106, .unset, .unset, .unset, .unset, .unset] [(.int (u3.toInt8.toInt32)), (.int (3 : Int32)), (.ref b106)])) rfl rfl (hb hby at_70)
      rw [own_nb] at W121
      have V121 : Arv Z h121 b106 k106 .byte (5 : Int32) [(.int (u0.toInt8.toInt32)), (.int (u1.toInt8.toInt32)), (.int (u2.toInt8.toInt32)), (.int (u3.toInt8.toInt32)), (.int (0 : Int32))] (.int (0 : Int32)) := Arv.set Ar120 qa120 Sa120 Na120 Ha120 Ga120 (own_fb _) W121 3 rfl (Nat.le_of_ble_eq_true rfl)
      have N121 := Fr.snoc X121 N117 ge_b106
      have Z121 : n0 ≤ h121.size := Nat.le_trans Z117 (Keep.of_wr W121).1
      have Od122 := Od118.wr W121 ge_b106
      obtain ⟨cl124, Ar124, qa124, Sa124, Na124, Ha124, Ga124⟩ := id V121
      have hin124 : ¬ ((4 : Int32) < 0 ∨ cl124.slots.size ≤ ((4 : Int32)).toNatClampNeg) := inb_of Sa124 ⟨by decide, by decide⟩
      obtain ⟨T125, h125, X125, e125, W125, st125⟩ := stB X121 hx hZ e121 Ar124 (j := (4 : Int32)) hin124 (g := (mkF m 83 #[iv u0, iv u1, iv u2, iv u3, iv u4, iv u5, iv (1 : Int32), iv (4 : Int32), iv (5 : Int32), rv b106, .unset, .unset, .unset, .unset, .unset] [(.int (u4.toInt8.toInt32)), (.int (4 : Int32)), (.ref b106)])) rfl rfl (hb hby at_83)
      rw [own_nb] at W125
      have V125 : Arv Z h125 b106 k106 .byte (5 : Int32) [(.int (u0.toInt8.toInt32)), (.int (u1.toInt8.toInt32)), (.int (u2.toInt8.toInt32)), (.int (u3.toInt8.toInt32)), (.int (u4.toInt8.toInt32))] (.int (0 : Int32)) := Arv.set Ar124 qa124 Sa124 Na124 Ha124 Ga124 (own_fb _) W125 4 rfl (Nat.le_of_ble_eq_true rfl)
      have N125 := Fr.snoc X125 N121 ge_b106
      have Z125 : n0 ≤ h125.size := Nat.le_trans Z121 (Keep.of_wr W125).1
      have Od126 := Od122.wr W125 ge_b106
      obtain ⟨_, _, ⟨T128, L128, k128, n128⟩, -, X128, ⟨Lc128, hQ128, l128, y128, z128⟩, st128⟩ := Jvm.LawKit.callS X125 hx (y := (⟨"com/example/rivanna/rivanna/core/json/Utf8SequenceLengthPinLaw", "expected", "(IIIII)I"⟩ : MethodName)) hown (mvT hZ (hw _ (List.mem_of_getElem? (i := 1) rfl))) (mvT hZ (hw _ (List.mem_of_getElem? (i := 2) rfl))) (mvT hZ (hw _ (List.mem_of_getElem? (i := 3) rfl))) (mvT hZ (hw _ (List.mem_of_getElem? (i := 4) rfl))) (by decide) (backOf (W := 0) (rmEx l Z a0 hw [] (u1 &&& (255 : Int32)) (u2 &&& (255 : Int32)) (u3 &&& (255 : Int32)) (u4 &&& (255 : Int32)) (4 : Int32) h125 n0 Z125) hZ (hw _ (List.mem_of_getElem? (i := 4) rfl)) (hw _ (List.mem_of_getElem? (i := 3) rfl)) (by decide) (by decide)) (g := (mkF m 159 #[iv u0, iv u1, iv u2, iv u3, iv u4, iv u5, iv (1 : Int32), iv (4 : Int32), iv (5 : Int32), rv b106, iv (u1 &&& (255 : Int32)), iv (u2 &&& (255 : Int32)), iv (u3 &&& (255 : Int32)), iv (u4 &&& (255 : Int32)), .unset] [(.int (4 : Int32)), (.int (u4 &&& (255 : Int32))), (.int (u3 &&& (255 : Int32))), (.int (u2 &&& (255 : Int32))), (.int (u1 &&& (255 : Int32)))])) rfl (by rw [hml]; rfl) (argsL := [(.int (u1 &&& (255 : Int32))), (.int (u2 &&& (255 : Int32))), (.int (u3 &&& (255 : Int32))), (.int (u4 &&& (255 : Int32))), (.int (4 : Int32))]) (rest := []) (lenOf pd_1 rfl) rfl (by show 2 * 0 + _ ≤ _; exact Nat.le_of_eq rfl) (hb hby at_159) (fun _ _ => ⟨rfl, e125, (by decide : 1 + 0 ≤ _), (by decide : 5 + 0 ≤ _)⟩)
      dsimp only [Pt.U, Pt.locs, Pt.cells, Pt.slots] at X128 l128 y128 z128 st128 hQ128
      subst y128 z128
      obtain ⟨rfl, Nq128, eq128⟩ := hQ128
      have N128 : Fr n0 L128 := by rw [l128]; exact Fr.app N125 Nq128
      obtain ⟨_, _, ⟨T129, L129, k129, n129⟩, -, X129, ⟨Lc129, hQ129, l129, y129, z129⟩, st129⟩ := Jvm.LawKit.callS X128 hx (y := (⟨"com/example/rivanna/rivanna/core/json/Utf8", "sequenceLength", "([BI)I"⟩ : MethodName)) hown (mvT hZ (hw _ (List.mem_of_getElem? (i := 5) rfl))) (mvT hZ (hw _ (List.mem_of_getElem? (i := 6) rfl))) (mvT hZ (hw _ (List.mem_of_getElem? (i := 7) rfl))) (mvT hZ (hw _ (List.mem_of_getElem? (i := 8) rfl))) (by decide) (backOf (W := 0) (rmSL14 l Z a0 hw [] b106 k106 (u0.toInt8.toInt32) (u1.toInt8.toInt32) (u2.toInt8.toInt32) (u3.toInt8.toInt32) (u4.toInt8.toInt32) la lc sa sc ta tc h125 n0 Z125 V125 Od126 hS1 hT1 hS2 hT2 hS3 hT3) hZ (hw _ (List.mem_of_getElem? (i := 8) rfl)) (hw _ (List.mem_of_getElem? (i := 7) rfl)) (by decide) (by decide)) (g := (mkF m 168 #[iv u0, iv u1, iv u2, iv u3, iv u4, iv u5, iv (1 : Int32), iv (4 : Int32), iv (5 : Int32), rv b106, iv (u1 &&& (255 : Int32)), iv (u2 &&& (255 : Int32)), iv (u3 &&& (255 : Int32)), iv (u4 &&& (255 : Int32)), iv (own_ex (u1 &&& (255 : Int32)) (u2 &&& (255 : Int32)) (u3 &&& (255 : Int32)) (u4 &&& (255 : Int32)) (4 : Int32))] [(.int (1 : Int32)), (.ref b106)])) rfl (by rw [hml]; rfl) (argsL := [(.ref b106), (.int (1 : Int32))]) (rest := []) (lenOf pd_2 rfl) rfl (by show 2 * 0 + _ ≤ _; exact Nat.le_of_eq rfl) (hb hby at_168) (fun _ _ => ⟨rfl, eq128, (by decide : 1 + 0 ≤ _), (by decide : 5 + 0 ≤ _)⟩)
      dsimp only [Pt.U, Pt.locs, Pt.cells, Pt.slots] at X129 l129 y129 z129 st129 hQ129
      subst y129 z129
      obtain ⟨rfl, Nq129, eq129⟩ := hQ129
      have N129 : Fr n0 L129 := by rw [l129]; exact Fr.app N128 Nq129
      obtain ⟨fs, hr, hrun, hended, hW, hsame⟩ := X129.leave (v := some (.int (1 : Int32))) (fun h => by rw [Bd.returns] at h; cases h)
      refine ⟨_, _, S1 _ ?_, hrun, hended, _, _, rfl, ?_, ⟨_, rfl⟩, hW, hsame.mono (by decide) (by decide)⟩
      · skip
        show Steps p.tables e below (s₁.setTop (mkF m 16 #[iv u0, iv u1, iv u2, iv u3, iv u4, iv u5, iv (1 : Int32), iv (4 : Int32), .unset, .unset, .unset, .unset, .unset, .unset, .unset] [])) _
        refine XS.iload X0.here hx rfl (hb hby at_16) rfl ?_
        show Steps p.tables e below (s₁.setTop (mkF m 18 #[iv u0, iv u1, iv u2, iv u3, iv u4, iv u5, iv (1 : Int32), iv (4 : Int32), .unset, .unset, .unset, .unset, .unset, .unset, .unset] [(.int (1 : Int32))])) _
        refine XS.iload X0.here hx rfl (hb hby at_18) rfl ?_
        show Steps p.tables e below (s₁.setTop (mkF m 20 #[iv u0, iv u1, iv u2, iv u3, iv u4, iv u5, iv (1 : Int32), iv (4 : Int32), .unset, .unset, .unset, .unset, .unset, .unset, .unset] [(.int (4 : Int32)), (.int (1 : Int32))])) _
        refine XS.iadd X0.here hx rfl (hb hby at_20) rfl ?_
        show Steps p.tables e below (s₁.setTop (mkF m 21 #[iv u0, iv u1, iv u2, iv u3, iv u4, iv u5, iv (1 : Int32), iv (4 : Int32), .unset, .unset, .unset, .unset, .unset, .unset, .unset] [(.int (5 : Int32))])) _
        refine XS.istore X0.here hx rfl (hb hby at_21) rfl (l' := #[iv u0, iv u1, iv u2, iv u3, iv u4, iv u5, iv (1 : Int32), iv (4 : Int32), iv (5 : Int32), .unset, .unset, .unset, .unset, .unset, .unset]) rfl ?_
        show Steps p.tables e below (s₁.setTop (mkF m 23 #[iv u0, iv u1, iv u2, iv u3, iv u4, iv u5, iv (1 : Int32), iv (4 : Int32), iv (5 : Int32), .unset, .unset, .unset, .unset, .unset, .unset] [])) _
        refine XS.iload X0.here hx rfl (hb hby at_23) rfl ?_
        show Steps p.tables e below (s₁.setTop (mkF m 25 #[iv u0, iv u1, iv u2, iv u3, iv u4, iv u5, iv (1 : Int32), iv (4 : Int32), iv (5 : Int32), .unset, .unset, .unset, .unset, .unset, .unset] [(.int (5 : Int32))])) _
        refine st106 _ ?_
        show Steps p.tables e below (T106.setTop (mkF m 27 #[iv u0, iv u1, iv u2, iv u3, iv u4, iv u5, iv (1 : Int32), iv (4 : Int32), iv (5 : Int32), .unset, .unset, .unset, .unset, .unset, .unset] [(.ref b106)])) _
        refine XS.astore X106.here hx rfl (hb hby at_27) rfl rfl (l' := #[iv u0, iv u1, iv u2, iv u3, iv u4, iv u5, iv (1 : Int32), iv (4 : Int32), iv (5 : Int32), rv b106, .unset, .unset, .unset, .unset, .unset]) rfl ?_
        show Steps p.tables e below (T106.setTop (mkF m 29 #[iv u0, iv u1, iv u2, iv u3, iv u4, iv u5, iv (1 : Int32), iv (4 : Int32), iv (5 : Int32), rv b106, .unset, .unset, .unset, .unset, .unset] [])) _
        refine XS.aload X106.here hx rfl (hb hby at_29) rfl rfl ?_
        show Steps p.tables e below (T106.setTop (mkF m 31 #[iv u0, iv u1, iv u2, iv u3, iv u4, iv u5, iv (1 : Int32), iv (4 : Int32), iv (5 : Int32), rv b106, .unset, .unset, .unset, .unset, .unset] [(.ref b106)])) _
        refine XS.iconst X106.here hx rfl (hb hby at_31) ?_
        show Steps p.tables e below (T106.setTop (mkF m 32 #[iv u0, iv u1, iv u2, iv u3, iv u4, iv u5, iv (1 : Int32), iv (4 : Int32), iv (5 : Int32), rv b106, .unset, .unset, .unset, .unset, .unset] [(.int (0 : Int32)), (.ref b106)])) _
        refine XS.iloadN X106.here hx rfl (hb hby at_32) rfl ?_
        show Steps p.tables e below (T106.setTop (mkF m 33 #[iv u0, iv u1, iv u2, iv u3, iv u4, iv u5, iv (1 : Int32), iv (4 : Int32), iv (5 : Int32), rv b106, .unset, .unset, .unset, .unset, .unset] [(.int u0), (.int (0 : Int32)), (.ref b106)])) _
        refine XS.i2b X106.here hx rfl (hb hby at_33) rfl ?_
        show Steps p.tables e below (T106.setTop (mkF m 34 #[iv u0, iv u1, iv u2, iv u3, iv u4, iv u5, iv (1 : Int32), iv (4 : Int32), iv (5 : Int32), rv b106, .unset, .unset, .unset, .unset, .unset] [(.int (u0.toInt8.toInt32)), (.int (0 : Int32)), (.ref b106)])) _
        refine st109 _ ?_
        show Steps p.tables e below (T109.setTop (mkF m 35 #[iv u0, iv u1, iv u2, iv u3, iv u4, iv u5, iv (1 : Int32), iv (4 : Int32), iv (5 : Int32), rv b106, .unset, .unset, .unset, .unset, .unset] [])) _
        refine XS.iload X109.here hx rfl (hb hby at_35) rfl ?_
        show Steps p.tables e below (T109.setTop (mkF m 37 #[iv u0, iv u1, iv u2, iv u3, iv u4, iv u5, iv (1 : Int32), iv (4 : Int32), iv (5 : Int32), rv b106, .unset, .unset, .unset, .unset, .unset] [(.int (5 : Int32))])) _
        refine XS.iconst X109.here hx rfl (hb hby at_37) ?_
        show Steps p.tables e below (T109.setTop (mkF m 38 #[iv u0, iv u1, iv u2, iv u3, iv u4, iv u5, iv (1 : Int32), iv (4 : Int32), iv (5 : Int32), rv b106, .unset, .unset, .unset, .unset, .unset] [(.int (1 : Int32)), (.int (5 : Int32))])) _
        refine XS.icmpNo X109.here hx rfl (hb hby at_38) rfl (tlt (by decide : (1 : Int32) < (5 : Int32))).2.2.2 ?_
        show Steps p.tables e below (T109.setTop (mkF m 41 #[iv u0, iv u1, iv u2, iv u3, iv u4, iv u5, iv (1 : Int32), iv (4 : Int32), iv (5 : Int32), rv b106, .unset, .unset, .unset, .unset, .unset] [])) _
        refine XS.aload X109.here hx rfl (hb hby at_41) rfl rfl ?_
        show Steps p.tables e below (T109.setTop (mkF m 43 #[iv u0, iv u1, iv u2, iv u3, iv u4, iv u5, iv (1 : Int32), iv (4 : Int32), iv (5 : Int32), rv b106, .unset, .unset, .unset, .unset, .unset] [(.ref b106)])) _
        refine XS.iconst X109.here hx rfl (hb hby at_43) ?_
        show Steps p.tables e below (T109.setTop (mkF m 44 #[iv u0, iv u1, iv u2, iv u3, iv u4, iv u5, iv (1 : Int32), iv (4 : Int32), iv (5 : Int32), rv b106, .unset, .unset, .unset, .unset, .unset] [(.int (1 : Int32)), (.ref b106)])) _
        refine XS.iloadN X109.here hx rfl (hb hby at_44) rfl ?_
        show Steps p.tables e below (T109.setTop (mkF m 45 #[iv u0, iv u1, iv u2, iv u3, iv u4, iv u5, iv (1 : Int32), iv (4 : Int32), iv (5 : Int32), rv b106, .unset, .unset, .unset, .unset, .unset] [(.int u1), (.int (1 : Int32)), (.ref b106)])) _
        refine XS.i2b X109.here hx rfl (hb hby at_45) rfl ?_
        show Steps p.tables e below (T109.setTop (mkF m 46 #[iv u0, iv u1, iv u2, iv u3, iv u4, iv u5, iv (1 : Int32), iv (4 : Int32), iv (5 : Int32), rv b106, .unset, .unset, .unset, .unset, .unset] [(.int (u1.toInt8.toInt32)), (.int (1 : Int32)), (.ref b106)])) _
        refine st113 _ ?_
        show Steps p.tables e below (T113.setTop (mkF m 47 #[iv u0, iv u1, iv u2, iv u3, iv u4, iv u5, iv (1 : Int32), iv (4 : Int32), iv (5 : Int32), rv b106, .unset, .unset, .unset, .unset, .unset] [])) _
        refine XS.iload X113.here hx rfl (hb hby at_47) rfl ?_
        show Steps p.tables e below (T113.setTop (mkF m 49 #[iv u0, iv u1, iv u2, iv u3, iv u4, iv u5, iv (1 : Int32), iv (4 : Int32), iv (5 : Int32), rv b106, .unset, .unset, .unset, .unset, .unset] [(.int (5 : Int32))])) _
        refine XS.iconst X113.here hx rfl (hb hby at_49) ?_
        show Steps p.tables e below (T113.setTop (mkF m 50 #[iv u0, iv u1, iv u2, iv u3, iv u4, iv u5, iv (1 : Int32), iv (4 : Int32), iv (5 : Int32), rv b106, .unset, .unset, .unset, .unset, .unset] [(.int (2 : Int32)), (.int (5 : Int32))])) _
        refine XS.icmpNo X113.here hx rfl (hb hby at_50) rfl (tlt (by decide : (2 : Int32) < (5 : Int32))).2.2.2 ?_
        show Steps p.tables e below (T113.setTop (mkF m 53 #[iv u0, iv u1, iv u2, iv u3, iv u4, iv u5, iv (1 : Int32), iv (4 : Int32), iv (5 : Int32), rv b106, .unset, .unset, .unset, .unset, .unset] [])) _
        refine XS.aload X113.here hx rfl (hb hby at_53) rfl rfl ?_
        show Steps p.tables e below (T113.setTop (mkF m 55 #[iv u0, iv u1, iv u2, iv u3, iv u4, iv u5, iv (1 : Int32), iv (4 : Int32), iv (5 : Int32), rv b106, .unset, .unset, .unset, .unset, .unset] [(.ref b106)])) _
        refine XS.iconst X113.here hx rfl (hb hby at_55) ?_
        show Steps p.tables e below (T113.setTop (mkF m 56 #[iv u0, iv u1, iv u2, iv u3, iv u4, iv u5, iv (1 : Int32), iv (4 : Int32), iv (5 : Int32), rv b106, .unset, .unset, .unset, .unset, .unset] [(.int (2 : Int32)), (.ref b106)])) _
        refine XS.iloadN X113.here hx rfl (hb hby at_56) rfl ?_
        show Steps p.tables e below (T113.setTop (mkF m 57 #[iv u0, iv u1, iv u2, iv u3, iv u4, iv u5, iv (1 : Int32), iv (4 : Int32), iv (5 : Int32), rv b106, .unset, .unset, .unset, .unset, .unset] [(.int u2), (.int (2 : Int32)), (.ref b106)])) _
        refine XS.i2b X113.here hx rfl (hb hby at_57) rfl ?_
        show Steps p.tables e below (T113.setTop (mkF m 58 #[iv u0, iv u1, iv u2, iv u3, iv u4, iv u5, iv (1 : Int32), iv (4 : Int32), iv (5 : Int32), rv b106, .unset, .unset, .unset, .unset, .unset] [(.int (u2.toInt8.toInt32)), (.int (2 : Int32)), (.ref b106)])) _
        refine st117 _ ?_
        show Steps p.tables e below (T117.setTop (mkF m 59 #[iv u0, iv u1, iv u2, iv u3, iv u4, iv u5, iv (1 : Int32), iv (4 : Int32), iv (5 : Int32), rv b106, .unset, .unset, .unset, .unset, .unset] [])) _
        refine XS.iload X117.here hx rfl (hb hby at_59) rfl ?_
        show Steps p.tables e below (T117.setTop (mkF m 61 #[iv u0, iv u1, iv u2, iv u3, iv u4, iv u5, iv (1 : Int32), iv (4 : Int32), iv (5 : Int32), rv b106, .unset, .unset, .unset, .unset, .unset] [(.int (5 : Int32))])) _
        refine XS.iconst X117.here hx rfl (hb hby at_61) ?_
        show Steps p.tables e below (T117.setTop (mkF m 62 #[iv u0, iv u1, iv u2, iv u3, iv u4, iv u5, iv (1 : Int32), iv (4 : Int32), iv (5 : Int32), rv b106, .unset, .unset, .unset, .unset, .unset] [(.int (3 : Int32)), (.int (5 : Int32))])) _
        refine XS.icmpNo X117.here hx rfl (hb hby at_62) rfl (tlt (by decide : (3 : Int32) < (5 : Int32))).2.2.2 ?_
        show Steps p.tables e below (T117.setTop (mkF m 65 #[iv u0, iv u1, iv u2, iv u3, iv u4, iv u5, iv (1 : Int32), iv (4 : Int32), iv (5 : Int32), rv b106, .unset, .unset, .unset, .unset, .unset] [])) _
        refine XS.aload X117.here hx rfl (hb hby at_65) rfl rfl ?_
        show Steps p.tables e below (T117.setTop (mkF m 67 #[iv u0, iv u1, iv u2, iv u3, iv u4, iv u5, iv (1 : Int32), iv (4 : Int32), iv (5 : Int32), rv b106, .unset, .unset, .unset, .unset, .unset] [(.ref b106)])) _
        refine XS.iconst X117.here hx rfl (hb hby at_67) ?_
        show Steps p.tables e below (T117.setTop (mkF m 68 #[iv u0, iv u1, iv u2, iv u3, iv u4, iv u5, iv (1 : Int32), iv (4 : Int32), iv (5 : Int32), rv b106, .unset, .unset, .unset, .unset, .unset] [(.int (3 : Int32)), (.ref b106)])) _
        refine XS.iloadN X117.here hx rfl (hb hby at_68) rfl ?_
        show Steps p.tables e below (T117.setTop (mkF m 69 #[iv u0, iv u1, iv u2, iv u3, iv u4, iv u5, iv (1 : Int32), iv (4 : Int32), iv (5 : Int32), rv b106, .unset, .unset, .unset, .unset, .unset] [(.int u3), (.int (3 : Int32)), (.ref b106)])) _
        refine XS.i2b X117.here hx rfl (hb hby at_69) rfl ?_
        show Steps p.tables e below (T117.setTop (mkF m 70 #[iv u0, iv u1, iv u2, iv u3, iv u4, iv u5, iv (1 : Int32), iv (4 : Int32), iv (5 : Int32), rv b106, .unset, .unset, .unset, .unset, .unset] [(.int (u3.toInt8.toInt32)), (.int (3 : Int32)), (.ref b106)])) _
        refine st121 _ ?_
        show Steps p.tables e below (T121.setTop (mkF m 71 #[iv u0, iv u1, iv u2, iv u3, iv u4, iv u5, iv (1 : Int32), iv (4 : Int32), iv (5 : Int32), rv b106, .unset, .unset, .unset, .unset, .unset] [])) _
        refine XS.iload X121.here hx rfl (hb hby at_71) rfl ?_
        show Steps p.tables e below (T121.setTop (mkF m 73 #[iv u0, iv u1, iv u2, iv u3, iv u4, iv u5, iv (1 : Int32), iv (4 : Int32), iv (5 : Int32), rv b106, .unset, .unset, .unset, .unset, .unset] [(.int (5 : Int32))])) _
        refine XS.iconst X121.here hx rfl (hb hby at_73) ?_
        show Steps p.tables e below (T121.setTop (mkF m 74 #[iv u0, iv u1, iv u2, iv u3, iv u4, iv u5, iv (1 : Int32), iv (4 : Int32), iv (5 : Int32), rv b106, .unset, .unset, .unset, .unset, .unset] [(.int (4 : Int32)), (.int (5 : Int32))])) _
        refine XS.icmpNo X121.here hx rfl (hb hby at_74) rfl (tlt (by decide : (4 : Int32) < (5 : Int32))).2.2.2 ?_
        show Steps p.tables e below (T121.setTop (mkF m 77 #[iv u0, iv u1, iv u2, iv u3, iv u4, iv u5, iv (1 : Int32), iv (4 : Int32), iv (5 : Int32), rv b106, .unset, .unset, .unset, .unset, .unset] [])) _
        refine XS.aload X121.here hx rfl (hb hby at_77) rfl rfl ?_
        show Steps p.tables e below (T121.setTop (mkF m 79 #[iv u0, iv u1, iv u2, iv u3, iv u4, iv u5, iv (1 : Int32), iv (4 : Int32), iv (5 : Int32), rv b106, .unset, .unset, .unset, .unset, .unset] [(.ref b106)])) _
        refine XS.iconst X121.here hx rfl (hb hby at_79) ?_
        show Steps p.tables e below (T121.setTop (mkF m 80 #[iv u0, iv u1, iv u2, iv u3, iv u4, iv u5, iv (1 : Int32), iv (4 : Int32), iv (5 : Int32), rv b106, .unset, .unset, .unset, .unset, .unset] [(.int (4 : Int32)), (.ref b106)])) _
        refine XS.iload X121.here hx rfl (hb hby at_80) rfl ?_
        show Steps p.tables e below (T121.setTop (mkF m 82 #[iv u0, iv u1, iv u2, iv u3, iv u4, iv u5, iv (1 : Int32), iv (4 : Int32), iv (5 : Int32), rv b106, .unset, .unset, .unset, .unset, .unset] [(.int u4), (.int (4 : Int32)), (.ref b106)])) _
        refine XS.i2b X121.here hx rfl (hb hby at_82) rfl ?_
        show Steps p.tables e below (T121.setTop (mkF m 83 #[iv u0, iv u1, iv u2, iv u3, iv u4, iv u5, iv (1 : Int32), iv (4 : Int32), iv (5 : Int32), rv b106, .unset, .unset, .unset, .unset, .unset] [(.int (u4.toInt8.toInt32)), (.int (4 : Int32)), (.ref b106)])) _
        refine st125 _ ?_
        show Steps p.tables e below (T125.setTop (mkF m 84 #[iv u0, iv u1, iv u2, iv u3, iv u4, iv u5, iv (1 : Int32), iv (4 : Int32), iv (5 : Int32), rv b106, .unset, .unset, .unset, .unset, .unset] [])) _
        refine XS.iload X125.here hx rfl (hb hby at_84) rfl ?_
        show Steps p.tables e below (T125.setTop (mkF m 86 #[iv u0, iv u1, iv u2, iv u3, iv u4, iv u5, iv (1 : Int32), iv (4 : Int32), iv (5 : Int32), rv b106, .unset, .unset, .unset, .unset, .unset] [(.int (1 : Int32))])) _
        refine XS.ifYes X125.here hx rfl (pc0 := 86) (pc' := 93) rfl (hb hby at_86) rfl ((if0 _ _).trans (feq (by decide : ¬ ((1 : Int32) = (0 : Int32)))).2) (by decide) (by decide) ?_
        show Steps p.tables e below (T125.setTop (mkF m 93 #[iv u0, iv u1, iv u2, iv u3, iv u4, iv u5, iv (1 : Int32), iv (4 : Int32), iv (5 : Int32), rv b106, .unset, .unset, .unset, .unset, .unset] [])) _
        refine XS.iloadN X125.here hx rfl (hb hby at_93) rfl ?_
        show Steps p.tables e below (T125.setTop (mkF m 94 #[iv u0, iv u1, iv u2, iv u3, iv u4, iv u5, iv (1 : Int32), iv (4 : Int32), iv (5 : Int32), rv b106, .unset, .unset, .unset, .unset, .unset] [(.int u1)])) _
        refine XS.sipush X125.here hx rfl (hb hby at_94) ?_
        show Steps p.tables e below (T125.setTop (mkF m 97 #[iv u0, iv u1, iv u2, iv u3, iv u4, iv u5, iv (1 : Int32), iv (4 : Int32), iv (5 : Int32), rv b106, .unset, .unset, .unset, .unset, .unset] [(.int (255 : Int32)), (.int u1)])) _
        refine XS.iand X125.here hx rfl (hb hby at_97) rfl ?_
        show Steps p.tables e below (T125.setTop (mkF m 98 #[iv u0, iv u1, iv u2, iv u3, iv u4, iv u5, iv (1 : Int32), iv (4 : Int32), iv (5 : Int32), rv b106, .unset, .unset, .unset, .unset, .unset] [(.int (u1 &&& (255 : Int32)))])) _
        refine XS.istore X125.here hx rfl (hb hby at_98) rfl (l' := #[iv u0, iv u1, iv u2, iv u3, iv u4, iv u5, iv (1 : Int32), iv (4 : Int32), iv (5 : Int32), rv b106, iv (u1 &&& (255 : Int32)), .unset, .unset, .unset, .unset]) rfl ?_
        show Steps p.tables e below (T125.setTop (mkF m 100 #[iv u0, iv u1, iv u2, iv u3, iv u4, iv u5, iv (1 : Int32), iv (4 : Int32), iv (5 : Int32), rv b106, iv (u1 &&& (255 : Int32)), .unset, .unset, .unset, .unset] [])) _
        refine XS.iload X125.here hx rfl (hb hby at_100) rfl ?_
        show Steps p.tables e below (T125.setTop (mkF m 102 #[iv u0, iv u1, iv u2, iv u3, iv u4, iv u5, iv (1 : Int32), iv (4 : Int32), iv (5 : Int32), rv b106, iv (u1 &&& (255 : Int32)), .unset, .unset, .unset, .unset] [(.int (1 : Int32))])) _
        refine XS.ifYes X125.here hx rfl (pc0 := 102) (pc' := 109) rfl (hb hby at_102) rfl ((if0 _ _).trans (feq (by decide : ¬ ((1 : Int32) = (0 : Int32)))).2) (by decide) (by decide) ?_
        show Steps p.tables e below (T125.setTop (mkF m 109 #[iv u0, iv u1, iv u2, iv u3, iv u4, iv u5, iv (1 : Int32), iv (4 : Int32), iv (5 : Int32), rv b106, iv (u1 &&& (255 : Int32)), .unset, .unset, .unset, .unset] [])) _
        refine XS.iloadN X125.here hx rfl (hb hby at_109) rfl ?_
        show Steps p.tables e below (T125.setTop (mkF m 110 #[iv u0, iv u1, iv u2, iv u3, iv u4, iv u5, iv (1 : Int32), iv (4 : Int32), iv (5 : Int32), rv b106, iv (u1 &&& (255 : Int32)), .unset, .unset, .unset, .unset] [(.int u2)])) _
        refine XS.sipush X125.here hx rfl (hb hby at_110) ?_
        show Steps p.tables e below (T125.setTop (mkF m 113 #[iv u0, iv u1, iv u2, iv u3, iv u4, iv u5, iv (1 : Int32), iv (4 : Int32), iv (5 : Int32), rv b106, iv (u1 &&& (255 : Int32)), .unset, .unset, .unset, .unset] [(.int (255 : Int32)), (.int u2)])) _
        refine XS.iand X125.here hx rfl (hb hby at_113) rfl ?_
        show Steps p.tables e below (T125.setTop (mkF m 114 #[iv u0, iv u1, iv u2, iv u3, iv u4, iv u5, iv (1 : Int32), iv (4 : Int32), iv (5 : Int32), rv b106, iv (u1 &&& (255 : Int32)), .unset, .unset, .unset, .unset] [(.int (u2 &&& (255 : Int32)))])) _
        refine XS.istore X125.here hx rfl (hb hby at_114) rfl (l' := #[iv u0, iv u1, iv u2, iv u3, iv u4, iv u5, iv (1 : Int32), iv (4 : Int32), iv (5 : Int32), rv b106, iv (u1 &&& (255 : Int32)), iv (u2 &&& (255 : Int32)), .unset, .unset, .unset]) rfl ?_
        show Steps p.tables e below (T125.setTop (mkF m 116 #[iv u0, iv u1, iv u2, iv u3, iv u4, iv u5, iv (1 : Int32), iv (4 : Int32), iv (5 : Int32), rv b106, iv (u1 &&& (255 : Int32)), iv (u2 &&& (255 : Int32)), .unset, .unset, .unset] [])) _
        refine XS.iload X125.here hx rfl (hb hby at_116) rfl ?_
        show Steps p.tables e below (T125.setTop (mkF m 118 #[iv u0, iv u1, iv u2, iv u3, iv u4, iv u5, iv (1 : Int32), iv (4 : Int32), iv (5 : Int32), rv b106, iv (u1 &&& (255 : Int32)), iv (u2 &&& (255 : Int32)), .unset, .unset, .unset] [(.int (1 : Int32))])) _
        refine XS.ifYes X125.here hx rfl (pc0 := 118) (pc' := 125) rfl (hb hby at_118) rfl ((if0 _ _).trans (feq (by decide : ¬ ((1 : Int32) = (0 : Int32)))).2) (by decide) (by decide) ?_
        show Steps p.tables e below (T125.setTop (mkF m 125 #[iv u0, iv u1, iv u2, iv u3, iv u4, iv u5, iv (1 : Int32), iv (4 : Int32), iv (5 : Int32), rv b106, iv (u1 &&& (255 : Int32)), iv (u2 &&& (255 : Int32)), .unset, .unset, .unset] [])) _
        refine XS.iloadN X125.here hx rfl (hb hby at_125) rfl ?_
        show Steps p.tables e below (T125.setTop (mkF m 126 #[iv u0, iv u1, iv u2, iv u3, iv u4, iv u5, iv (1 : Int32), iv (4 : Int32), iv (5 : Int32), rv b106, iv (u1 &&& (255 : Int32)), iv (u2 &&& (255 : Int32)), .unset, .unset, .unset] [(.int u3)])) _
        refine XS.sipush X125.here hx rfl (hb hby at_126) ?_
        show Steps p.tables e below (T125.setTop (mkF m 129 #[iv u0, iv u1, iv u2, iv u3, iv u4, iv u5, iv (1 : Int32), iv (4 : Int32), iv (5 : Int32), rv b106, iv (u1 &&& (255 : Int32)), iv (u2 &&& (255 : Int32)), .unset, .unset, .unset] [(.int (255 : Int32)), (.int u3)])) _
        refine XS.iand X125.here hx rfl (hb hby at_129) rfl ?_
        show Steps p.tables e below (T125.setTop (mkF m 130 #[iv u0, iv u1, iv u2, iv u3, iv u4, iv u5, iv (1 : Int32), iv (4 : Int32), iv (5 : Int32), rv b106, iv (u1 &&& (255 : Int32)), iv (u2 &&& (255 : Int32)), .unset, .unset, .unset] [(.int (u3 &&& (255 : Int32)))])) _
        refine XS.istore X125.here hx rfl (hb hby at_130) rfl (l' := #[iv u0, iv u1, iv u2, iv u3, iv u4, iv u5, iv (1 : Int32), iv (4 : Int32), iv (5 : Int32), rv b106, iv (u1 &&& (255 : Int32)), iv (u2 &&& (255 : Int32)), iv (u3 &&& (255 : Int32)), .unset, .unset]) rfl ?_
        show Steps p.tables e below (T125.setTop (mkF m 132 #[iv u0, iv u1, iv u2, iv u3, iv u4, iv u5, iv (1 : Int32), iv (4 : Int32), iv (5 : Int32), rv b106, iv (u1 &&& (255 : Int32)), iv (u2 &&& (255 : Int32)), iv (u3 &&& (255 : Int32)), .unset, .unset] [])) _
        refine XS.iload X125.here hx rfl (hb hby at_132) rfl ?_
        show Steps p.tables e below (T125.setTop (mkF m 134 #[iv u0, iv u1, iv u2, iv u3, iv u4, iv u5, iv (1 : Int32), iv (4 : Int32), iv (5 : Int32), rv b106, iv (u1 &&& (255 : Int32)), iv (u2 &&& (255 : Int32)), iv (u3 &&& (255 : Int32)), .unset, .unset] [(.int (1 : Int32))])) _
        refine XS.ifYes X125.here hx rfl (pc0 := 134) (pc' := 141) rfl (hb hby at_134) rfl ((if0 _ _).trans (feq (by decide : ¬ ((1 : Int32) = (0 : Int32)))).2) (by decide) (by decide) ?_
        show Steps p.tables e below (T125.setTop (mkF m 141 #[iv u0, iv u1, iv u2, iv u3, iv u4, iv u5, iv (1 : Int32), iv (4 : Int32), iv (5 : Int32), rv b106, iv (u1 &&& (255 : Int32)), iv (u2 &&& (255 : Int32)), iv (u3 &&& (255 : Int32)), .unset, .unset] [])) _
        refine XS.iload X125.here hx rfl (hb hby at_141) rfl ?_
        show Steps p.tables e below (T125.setTop (mkF m 143 #[iv u0, iv u1, iv u2, iv u3, iv u4, iv u5, iv (1 : Int32), iv (4 : Int32), iv (5 : Int32), rv b106, iv (u1 &&& (255 : Int32)), iv (u2 &&& (255 : Int32)), iv (u3 &&& (255 : Int32)), .unset, .unset] [(.int u4)])) _
        refine XS.sipush X125.here hx rfl (hb hby at_143) ?_
        show Steps p.tables e below (T125.setTop (mkF m 146 #[iv u0, iv u1, iv u2, iv u3, iv u4, iv u5, iv (1 : Int32), iv (4 : Int32), iv (5 : Int32), rv b106, iv (u1 &&& (255 : Int32)), iv (u2 &&& (255 : Int32)), iv (u3 &&& (255 : Int32)), .unset, .unset] [(.int (255 : Int32)), (.int u4)])) _
        refine XS.iand X125.here hx rfl (hb hby at_146) rfl ?_
        show Steps p.tables e below (T125.setTop (mkF m 147 #[iv u0, iv u1, iv u2, iv u3, iv u4, iv u5, iv (1 : Int32), iv (4 : Int32), iv (5 : Int32), rv b106, iv (u1 &&& (255 : Int32)), iv (u2 &&& (255 : Int32)), iv (u3 &&& (255 : Int32)), .unset, .unset] [(.int (u4 &&& (255 : Int32)))])) _
        refine XS.istore X125.here hx rfl (hb hby at_147) rfl (l' := #[iv u0, iv u1, iv u2, iv u3, iv u4, iv u5, iv (1 : Int32), iv (4 : Int32), iv (5 : Int32), rv b106, iv (u1 &&& (255 : Int32)), iv (u2 &&& (255 : Int32)), iv (u3 &&& (255 : Int32)), iv (u4 &&& (255 : Int32)), .unset]) rfl ?_
        show Steps p.tables e below (T125.setTop (mkF m 149 #[iv u0, iv u1, iv u2, iv u3, iv u4, iv u5, iv (1 : Int32), iv (4 : Int32), iv (5 : Int32), rv b106, iv (u1 &&& (255 : Int32)), iv (u2 &&& (255 : Int32)), iv (u3 &&& (255 : Int32)), iv (u4 &&& (255 : Int32)), .unset] [])) _
        refine XS.iload X125.here hx rfl (hb hby at_149) rfl ?_
        show Steps p.tables e below (T125.setTop (mkF m 151 #[iv u0, iv u1, iv u2, iv u3, iv u4, iv u5, iv (1 : Int32), iv (4 : Int32), iv (5 : Int32), rv b106, iv (u1 &&& (255 : Int32)), iv (u2 &&& (255 : Int32)), iv (u3 &&& (255 : Int32)), iv (u4 &&& (255 : Int32)), .unset] [(.int (u1 &&& (255 : Int32)))])) _
        refine XS.iload X125.here hx rfl (hb hby at_151) rfl ?_
        show Steps p.tables e below (T125.setTop (mkF m 153 #[iv u0, iv u1, iv u2, iv u3, iv u4, iv u5, iv (1 : Int32), iv (4 : Int32), iv (5 : Int32), rv b106, iv (u1 &&& (255 : Int32)), iv (u2 &&& (255 : Int32)), iv (u3 &&& (255 : Int32)), iv (u4 &&& (255 : Int32)), .unset] [(.int (u2 &&& (255 : Int32))), (.int (u1 &&& (255 : Int32)))])) _
        refine XS.iload X125.here hx rfl (hb hby at_153) rfl ?_
        show Steps p.tables e below (T125.setTop (mkF m 155 #[iv u0, iv u1, iv u2, iv u3, iv u4, iv u5, iv (1 : Int32), iv (4 : Int32), iv (5 : Int32), rv b106, iv (u1 &&& (255 : Int32)), iv (u2 &&& (255 : Int32)), iv (u3 &&& (255 : Int32)), iv (u4 &&& (255 : Int32)), .unset] [(.int (u3 &&& (255 : Int32))), (.int (u2 &&& (255 : Int32))), (.int (u1 &&& (255 : Int32)))])) _
        refine XS.iload X125.here hx rfl (hb hby at_155) rfl ?_
        show Steps p.tables e below (T125.setTop (mkF m 157 #[iv u0, iv u1, iv u2, iv u3, iv u4, iv u5, iv (1 : Int32), iv (4 : Int32), iv (5 : Int32), rv b106, iv (u1 &&& (255 : Int32)), iv (u2 &&& (255 : Int32)), iv (u3 &&& (255 : Int32)), iv (u4 &&& (255 : Int32)), .unset] [(.int (u4 &&& (255 : Int32))), (.int (u3 &&& (255 : Int32))), (.int (u2 &&& (255 : Int32))), (.int (u1 &&& (255 : Int32)))])) _
        refine XS.iload X125.here hx rfl (hb hby at_157) rfl ?_
        show Steps p.tables e below (T125.setTop (mkF m 159 #[iv u0, iv u1, iv u2, iv u3, iv u4, iv u5, iv (1 : Int32), iv (4 : Int32), iv (5 : Int32), rv b106, iv (u1 &&& (255 : Int32)), iv (u2 &&& (255 : Int32)), iv (u3 &&& (255 : Int32)), iv (u4 &&& (255 : Int32)), .unset] [(.int (4 : Int32)), (.int (u4 &&& (255 : Int32))), (.int (u3 &&& (255 : Int32))), (.int (u2 &&& (255 : Int32))), (.int (u1 &&& (255 : Int32)))])) _
        refine st128 _ ?_
        show Steps p.tables e below (T128.setTop (mkF m 162 #[iv u0, iv u1, iv u2, iv u3, iv u4, iv u5, iv (1 : Int32), iv (4 : Int32), iv (5 : Int32), rv b106, iv (u1 &&& (255 : Int32)), iv (u2 &&& (255 : Int32)), iv (u3 &&& (255 : Int32)), iv (u4 &&& (255 : Int32)), .unset] [(.int (own_ex (u1 &&& (255 : Int32)) (u2 &&& (255 : Int32)) (u3 &&& (255 : Int32)) (u4 &&& (255 : Int32)) (4 : Int32)))])) _
        refine XS.istore X128.here hx rfl (hb hby at_162) rfl (l' := #[iv u0, iv u1, iv u2, iv u3, iv u4, iv u5, iv (1 : Int32), iv (4 : Int32), iv (5 : Int32), rv b106, iv (u1 &&& (255 : Int32)), iv (u2 &&& (255 : Int32)), iv (u3 &&& (255 : Int32)), iv (u4 &&& (255 : Int32)), iv (own_ex (u1 &&& (255 : Int32)) (u2 &&& (255 : Int32)) (u3 &&& (255 : Int32)) (u4 &&& (255 : Int32)) (4 : Int32))]) rfl ?_
        show Steps p.tables e below (T128.setTop (mkF m 164 #[iv u0, iv u1, iv u2, iv u3, iv u4, iv u5, iv (1 : Int32), iv (4 : Int32), iv (5 : Int32), rv b106, iv (u1 &&& (255 : Int32)), iv (u2 &&& (255 : Int32)), iv (u3 &&& (255 : Int32)), iv (u4 &&& (255 : Int32)), iv (own_ex (u1 &&& (255 : Int32)) (u2 &&& (255 : Int32)) (u3 &&& (255 : Int32)) (u4 &&& (255 : Int32)) (4 : Int32))] [])) _
        refine XS.aload X128.here hx rfl (hb hby at_164) rfl rfl ?_
        show Steps p.tables e below (T128.setTop (mkF m 166 #[iv u0, iv u1, iv u2, iv u3, iv u4, iv u5, iv (1 : Int32), iv (4 : Int32), iv (5 : Int32), rv b106, iv (u1 &&& (255 : Int32)), iv (u2 &&& (255 : Int32)), iv (u3 &&& (255 : Int32)), iv (u4 &&& (255 : Int32)), iv (own_ex (u1 &&& (255 : Int32)) (u2 &&& (255 : Int32)) (u3 &&& (255 : Int32)) (u4 &&& (255 : Int32)) (4 : Int32))] [(.ref b106)])) _
        refine XS.iload X128.here hx rfl (hb hby at_166) rfl ?_
        show Steps p.tables e below (T128.setTop (mkF m 168 #[iv u0, iv u1, iv u2, iv u3, iv u4, iv u5, iv (1 : Int32), iv (4 : Int32), iv (5 : Int32), rv b106, iv (u1 &&& (255 : Int32)), iv (u2 &&& (255 : Int32)), iv (u3 &&& (255 : Int32)), iv (u4 &&& (255 : Int32)), iv (own_ex (u1 &&& (255 : Int32)) (u2 &&& (255 : Int32)) (u3 &&& (255 : Int32)) (u4 &&& (255 : Int32)) (4 : Int32))] [(.int (1 : Int32)), (.ref b106)])) _
        refine st129 _ ?_
        show Steps p.tables e below (T129.setTop (mkF m 171 #[iv u0, iv u1, iv u2, iv u3, iv u4, iv u5, iv (1 : Int32), iv (4 : Int32), iv (5 : Int32), rv b106, iv (u1 &&& (255 : Int32)), iv (u2 &&& (255 : Int32)), iv (u3 &&& (255 : Int32)), iv (u4 &&& (255 : Int32)), iv (own_ex (u1 &&& (255 : Int32)) (u2 &&& (255 : Int32)) (u3 &&& (255 : Int32)) (u4 &&& (255 : Int32)) (4 : Int32))] [(.int (own_sl4 (u1.toInt8.toInt32) (u2.toInt8.toInt32) (u3.toInt8.toInt32) (u4.toInt8.toInt32)))])) _
        refine XS.iload X129.here hx rfl (hb hby at_171) rfl ?_
        show Steps p.tables e below (T129.setTop (mkF m 173 #[iv u0, iv u1, iv u2, iv u3, iv u4, iv u5, iv (1 : Int32), iv (4 : Int32), iv (5 : Int32), rv b106, iv (u1 &&& (255 : Int32)), iv (u2 &&& (255 : Int32)), iv (u3 &&& (255 : Int32)), iv (u4 &&& (255 : Int32)), iv (own_ex (u1 &&& (255 : Int32)) (u2 &&& (255 : Int32)) (u3 &&& (255 : Int32)) (u4 &&& (255 : Int32)) (4 : Int32))] [(.int (own_ex (u1 &&& (255 : Int32)) (u2 &&& (255 : Int32)) (u3 &&& (255 : Int32)) (u4 &&& (255 : Int32)) (4 : Int32))), (.int (own_sl4 (u1.toInt8.toInt32) (u2.toInt8.toInt32) (u3.toInt8.toInt32) (u4.toInt8.toInt32)))])) _
        refine XS.icmpNo X129.here hx rfl (hb hby at_173) rfl (teq (own_plain4 _ _ _ _)).2 ?_
        show Steps p.tables e below (T129.setTop (mkF m 176 #[iv u0, iv u1, iv u2, iv u3, iv u4, iv u5, iv (1 : Int32), iv (4 : Int32), iv (5 : Int32), rv b106, iv (u1 &&& (255 : Int32)), iv (u2 &&& (255 : Int32)), iv (u3 &&& (255 : Int32)), iv (u4 &&& (255 : Int32)), iv (own_ex (u1 &&& (255 : Int32)) (u2 &&& (255 : Int32)) (u3 &&& (255 : Int32)) (u4 &&& (255 : Int32)) (4 : Int32))] [])) _
        refine XS.iconst X129.here hx rfl (hb hby at_176) ?_
        show Steps p.tables e below (T129.setTop (mkF m 177 #[iv u0, iv u1, iv u2, iv u3, iv u4, iv u5, iv (1 : Int32), iv (4 : Int32), iv (5 : Int32), rv b106, iv (u1 &&& (255 : Int32)), iv (u2 &&& (255 : Int32)), iv (u3 &&& (255 : Int32)), iv (u4 &&& (255 : Int32)), iv (own_ex (u1 &&& (255 : Int32)) (u2 &&& (255 : Int32)) (u3 &&& (255 : Int32)) (u4 &&& (255 : Int32)) (4 : Int32))] [(.int (1 : Int32))])) _
        refine XS.goto X129.here hx rfl (pc0 := 177) (pc' := 181) rfl (hb hby at_177) (by decide) (by decide) ?_
        show Steps p.tables e below (T129.setTop (mkF m 181 #[iv u0, iv u1, iv u2, iv u3, iv u4, iv u5, iv (1 : Int32), iv (4 : Int32), iv (5 : Int32), rv b106, iv (u1 &&& (255 : Int32)), iv (u2 &&& (255 : Int32)), iv (u3 &&& (255 : Int32)), iv (u4 &&& (255 : Int32)), iv (own_ex (u1 &&& (255 : Int32)) (u2 &&& (255 : Int32)) (u3 &&& (255 : Int32)) (u4 &&& (255 : Int32)) (4 : Int32))] [(.int (1 : Int32))])) _
        exact retN X129 hx (t := .boolean) Bd.returns (by simp) (hb hby at_181) hr
      · show Q0 Z u0 u1 u2 u3 u4 u5 la lc sa sc ta tc h0 n0 _ T129.heap _
        rw [eq129]
        exact ⟨rfl, N129⟩
theorem own_len {Z : State} {args : Array Value} {t : Term} {a : Addr} {cl : Cell} {k : Int32} (ht : t.eval args Z none [] Z = some (.ref a)) (ha : Z.arrayAt? a = some cl) (h : (Jvm.Cond.eq (.length t) (.int k)).value args Z none Z [] = some true) : cl.slots.size < 2 ^ 31 ∧ cl.slots.size.toInt32 = k := by
  by_cases q : cl.slots.size < 2 ^ 31
  · exact ⟨q, gotT (Cond.eq_ints (len_f ht ha q) rfl) h⟩
  · simp [Cond.value, Term.eval, ht, ha, q] at h
theorem own_len256 {n : Nat} (h1 : n < 2 ^ 31) (h2 : n.toInt32 = (256 : Int32)) : n = (256 : Int32).toNatClampNeg := by
  have e := len_toInt h1
  rw [h2] at e
  have : (256 : Int32).toInt = 256 := by decide
  have q : (256 : Int32).toNatClampNeg = 256 := by decide
  omega
section Tab
variable {Z : State} {args : Array Value} {U n d : String} {a : Addr} {cl : Cell} {j k k' y : Int32}
theorem own_all_at (e : (Jvm.Term.static U n d).eval args Z none [] Z = some (.ref a)) (A : Arr Z Z.heap a cl .int) (nn : ¬ j < 0) (hlt : j.toNatClampNeg < cl.slots.size) (c : Jvm.Cond) (h : (Jvm.Cond.all (Jvm.Term.static U n d) c).value args Z none Z [] = some true) : c.value args Z none Z [j.toNatClampNeg] = some true :=
  Cond.all_elim e (A.fin (Vm.Alike.refl _)) h _ hlt
theorem own_at (e : (Jvm.Term.static U n d).eval args Z none [] Z = some (.ref a)) (A : Arr Z Z.heap a cl .int) (nn : ¬ j < 0) (h : (Jvm.Cond.eq (Jvm.Term.elem (Jvm.Term.static U n d) (Jvm.Term.index 0)) (Jvm.Term.int y)).value args Z none Z [j.toNatClampNeg] = some true) : cl.slots[j.toNatClampNeg]? = some (.int y) :=
  (elem_f (show (Jvm.Term.static U n d).eval args Z none [j.toNatClampNeg] Z = some (.ref a) from e) (idx_at nn) (A.fin (Vm.Alike.refl _)) nn).symm.trans (eqv_i rfl h)
theorem own_one (e : (Jvm.Term.static U n d).eval args Z none [] Z = some (.ref a)) (A : Arr Z Z.heap a cl .int) (h1 : ¬ j < k) (h2 : j < k') (h : (Jvm.Cond.eq (Jvm.Term.elem (Jvm.Term.static U n d) (Jvm.Term.int k)) (Jvm.Term.int y)).value args Z none Z [] = some true) (hk : k'.toInt = k.toInt + 1 := by decide) (hk0 : ¬ k < 0 := by decide) : cl.slots[j.toNatClampNeg]? = some (.int y) := by
  have ej : j = k := by
    rw [Int32.lt_iff_toInt_lt] at h1 h2
    exact Int32.toInt_inj.mp (by omega)
  rw [ej]
  exact (elem_f e (show (Jvm.Term.int k).eval args Z none [] Z = some (.int k) from rfl) (A.fin (Vm.Alike.refl _)) hk0).symm.trans (eqv_i rfl h)
theorem own_orF {G X : Jvm.Cond} {P : Prop} [Decidable P] {idx : List Nat} (h : (Jvm.Cond.or G X).value args Z none Z idx = some true) (hG : G.value args Z none Z idx = some (decide P)) (hP : ¬ P) : X.value args Z none Z idx = some true := by
  simp [Cond.value, hG, hP] at h; exact h
theorem own_rB {X : Jvm.Cond} (nn : ¬ j < 0) (h1 : j < k) (h : (Jvm.Cond.or (Jvm.Cond.le (Jvm.Term.int k) (Jvm.Term.index 0)) X).value args Z none Z [j.toNatClampNeg] = some true) : X.value args Z none Z [j.toNatClampNeg] = some true :=
  own_orF h (Cond.le_ints rfl (idx_at nn)) (Int32.not_le.mpr h1)
theorem own_rT {X : Jvm.Cond} (nn : ¬ j < 0) (h1 : ¬ j < k) (h : (Jvm.Cond.or (Jvm.Cond.lt (Jvm.Term.index 0) (Jvm.Term.int k)) X).value args Z none Z [j.toNatClampNeg] = some true) : X.value args Z none Z [j.toNatClampNeg] = some true :=
  own_orF h (Cond.lt_ints (idx_at nn) rfl) h1
theorem own_rR {X : Jvm.Cond} (nn : ¬ j < 0) (h1 : ¬ j < k) (h2 : j < k') (h : (Jvm.Cond.or (Jvm.Cond.lt (Jvm.Term.index 0) (Jvm.Term.int k)) (Jvm.Cond.or (Jvm.Cond.le (Jvm.Term.int k') (Jvm.Term.index 0)) X)).value args Z none Z [j.toNatClampNeg] = some true) : X.value args Z none Z [j.toNatClampNeg] = some true :=
  own_rB nn h2 (own_rT nn h1 h)
end Tab
set_option maxRecDepth 65536 in
set_option maxHeartbeats 40000000 in
theorem comes_1 {Post : Tables → Env → Array Value → State → Outcome → State → Prop} (hpost : ∀ tb e args s v u, (limb_1_1.after args s (.returned v) u = true ∧ limb_1_2.after args s (.returned v) u = true ∧ True) → FrameEnd s (.returned v) u (Jvm.fieldLocs frame_1_writes args s ++ Jvm.arrayLocs frame_1_arrays args s ++ Jvm.staticLocs frame_1_statics s) 16 128 → Post tb e args s (.returned v) u) :
    ArmFor flags0 classFile x code maxLocals ret World_1 tables_1 room_1 Calls_1 rest_1 Pre_1 Post := by
  intro l hfl _ _ p e ha hc hk s m args below hf hA hF happ hP
  obtain ⟨hcalls, hrest, hpre⟩ := hP
  obtain ⟨-, -, -, hnamed, -, -, -, hat⟩ := (Spec.applies_iff hf).mp happ
  obtain ⟨hg, hn⟩ := and_e (Cond.before_iff.mp (show (Jvm.Cond.and given_1 narrow_1).before args s = true from hpre))
  obtain ⟨g1, g2⟩ := and_e hg
  obtain ⟨g3, g4⟩ := and_e g2
  obtain ⟨g5, g6⟩ := and_e g4
  obtain ⟨g7, g8⟩ := and_e g6
  obtain ⟨g9, g10⟩ := and_e g8
  obtain ⟨g11, g12⟩ := and_e g10
  obtain ⟨w0, w1, w2, w3, w4, w5, rfl⟩ : ∃ w0 w1 w2 w3 w4 w5 : Value, args = #[w0, w1, w2, w3, w4, w5] := by
    have hs : args.size = 6 := by simpa [Cond.value, given_1] using g1
    obtain ⟨L⟩ := args
    match L, hs with
    | [w0, w1, w2, w3, w4, w5], _ => exact ⟨w0, w1, w2, w3, w4, w5, rfl⟩
  have hw := fun d (hd : d ∈ tables_1) => atoms_spec (ws := Jvm.Cond.code x code maxLocals ret :: tables_1) hat d (List.mem_cons_of_mem _ hd)
  have hfit : Fit s := fun {y c} hc i hi => by
    obtain ⟨ha, rfl⟩ := Array.getElem?_eq_some_iff.mp hc
    have q := List.all_eq_true.mp ((Array.all_eq_true_iff_forall_mem.mp hF) _ (Array.getElem_mem ha)) i (List.mem_range.mpr hi)
    simpa [Array.getElem?_eq_getElem hi] using q
  obtain ⟨i0, ei0⟩ := is_v g3
  obtain rfl : w0 = (.int i0) := Option.some.inj ei0
  obtain ⟨i1, ei1⟩ := is_v g5
  obtain rfl : w1 = (.int i1) := Option.some.inj ei1
  obtain ⟨i2, ei2⟩ := is_v g7
  obtain rfl : w2 = (.int i2) := Option.some.inj ei2
  obtain ⟨i3, ei3⟩ := is_v g9
  obtain rfl : w3 = (.int i3) := Option.some.inj ei3
  obtain ⟨i4, ei4⟩ := is_v g11
  obtain rfl : w4 = (.int i4) := Option.some.inj ei4
  obtain ⟨i5, ei5⟩ := is_v g12
  obtain rfl : w5 = (.int i5) := Option.some.inj ei5
  obtain ⟨c0, r0⟩ := and_e hn
  obtain ⟨c1, r1⟩ := and_e r0
  obtain ⟨c2, r2⟩ := and_e r1
  obtain ⟨c3, r3⟩ := and_e r2
  obtain ⟨c4, r4⟩ := and_e r3
  obtain ⟨c5, r5⟩ := and_e r4
  obtain ⟨c6, r6⟩ := and_e r5
  obtain ⟨c7, r7⟩ := and_e r6
  obtain ⟨c8, r8⟩ := and_e r7
  obtain ⟨c9, r9⟩ := and_e r8
  obtain ⟨c10, r10⟩ := and_e r9
  obtain ⟨c11, r11⟩ := and_e r10
  obtain ⟨c12, r12⟩ := and_e r11
  obtain ⟨c13, r13⟩ := and_e r12
  obtain ⟨c14, r14⟩ := and_e r13
  obtain ⟨c15, r15⟩ := and_e r14
  obtain ⟨c16, r16⟩ := and_e r15
  obtain ⟨c17, r17⟩ := and_e r16
  obtain ⟨c18, r18⟩ := and_e r17
  obtain ⟨c19, r19⟩ := and_e r18
  obtain ⟨c20, r20⟩ := and_e r19
  obtain ⟨c21, r21⟩ := and_e r20
  obtain ⟨c22, r22⟩ := and_e r21
  have c23 := r22
  obtain ⟨la, e_la⟩ := arr_v c0
  obtain ⟨lc, A_la⟩ := Arr.start e_la c0
  obtain ⟨l1_la, l2_la⟩ := own_len e_la (A_la.fin (Vm.Alike.refl _)) c1
  have hS1 := Sta.start e_la (Or.inr ⟨(hw _ (List.mem_of_getElem? (i := 7) rfl)), (hw _ (List.mem_of_getElem? (i := 10) rfl))⟩)
  have hT1 : own_Tab s la lc own_L := by
    refine ⟨A_la, own_len256 l1_la l2_la, fun j hj => ?_⟩
    have nn : ¬ j < 0 := fun x => hj (Or.inl x)
    have hlt : j.toNatClampNeg < lc.slots.size := Nat.lt_of_not_le fun x => hj (Or.inr x)
    have el := own_all_at e_la A_la nn hlt
    unfold own_L
    by_cases b194 : j < (194 : Int32)
    · rw [if_pos b194]; exact own_at e_la A_la nn (own_rB nn b194 (el _ c6))
    by_cases b224 : j < (224 : Int32)
    · rw [if_neg b194, if_pos b224]; exact own_at e_la A_la nn (own_rR nn b194 b224 (el _ c7))
    by_cases b240 : j < (240 : Int32)
    · rw [if_neg b194, if_neg b224, if_pos b240]; exact own_at e_la A_la nn (own_rR nn b224 b240 (el _ c8))
    by_cases b245 : j < (245 : Int32)
    · rw [if_neg b194, if_neg b224, if_neg b240, if_pos b245]; exact own_at e_la A_la nn (own_rR nn b240 b245 (el _ c9))
    rw [if_neg b194, if_neg b224, if_neg b240, if_neg b245]; exact own_at e_la A_la nn (own_rT nn b245 (el _ c10))
  obtain ⟨sa, e_sa⟩ := arr_v c2
  obtain ⟨sc, A_sa⟩ := Arr.start e_sa c2
  obtain ⟨l1_sa, l2_sa⟩ := own_len e_sa (A_sa.fin (Vm.Alike.refl _)) c3
  have hS2 := Sta.start e_sa (Or.inr ⟨(hw _ (List.mem_of_getElem? (i := 7) rfl)), (hw _ (List.mem_of_getElem? (i := 15) rfl))⟩)
  have hT2 : own_Tab s sa sc own_lo := by
    refine ⟨A_sa, own_len256 l1_sa l2_sa, fun j hj => ?_⟩
    have nn : ¬ j < 0 := fun x => hj (Or.inl x)
    have hlt : j.toNatClampNeg < sc.slots.size := Nat.lt_of_not_le fun x => hj (Or.inr x)
    have el := own_all_at e_sa A_sa nn hlt
    unfold own_lo
    by_cases b194 : j < (194 : Int32)
    · rw [if_pos b194]; exact own_at e_sa A_sa nn (own_rB nn b194 (el _ c11))
    by_cases b224 : j < (224 : Int32)
    · rw [if_neg b194, if_pos b224]; exact own_at e_sa A_sa nn (own_rR nn b194 b224 (el _ c12))
    by_cases b225 : j < (225 : Int32)
    · rw [if_neg b194, if_neg b224, if_pos b225]; exact own_one e_sa A_sa b224 b225 c13
    by_cases b240 : j < (240 : Int32)
    · rw [if_neg b194, if_neg b224, if_neg b225, if_pos b240]; exact own_at e_sa A_sa nn (own_rR nn b225 b240 (el _ c14))
    by_cases b241 : j < (241 : Int32)
    · rw [if_neg b194, if_neg b224, if_neg b225, if_neg b240, if_pos b241]; exact own_one e_sa A_sa b240 b241 c15
    by_cases b245 : j < (245 : Int32)
    · rw [if_neg b194, if_neg b224, if_neg b225, if_neg b240, if_neg b241, if_pos b245]; exact own_at e_sa A_sa nn (own_rR nn b241 b245 (el _ c16))
    rw [if_neg b194, if_neg b224, if_neg b225, if_neg b240, if_neg b241, if_neg b245]; exact own_at e_sa A_sa nn (own_rT nn b245 (el _ c17))
  obtain ⟨ta, e_ta⟩ := arr_v c4
  obtain ⟨tc, A_ta⟩ := Arr.start e_ta c4
  obtain ⟨l1_ta, l2_ta⟩ := own_len e_ta (A_ta.fin (Vm.Alike.refl _)) c5
  have hS3 := Sta.start e_ta (Or.inr ⟨(hw _ (List.mem_of_getElem? (i := 7) rfl)), (hw _ (List.mem_of_getElem? (i := 17) rfl))⟩)
  have hT3 : own_Tab s ta tc own_hi := by
    refine ⟨A_ta, own_len256 l1_ta l2_ta, fun j hj => ?_⟩
    have nn : ¬ j < 0 := fun x => hj (Or.inl x)
    have hlt : j.toNatClampNeg < tc.slots.size := Nat.lt_of_not_le fun x => hj (Or.inr x)
    have el := own_all_at e_ta A_ta nn hlt
    unfold own_hi
    by_cases b194 : j < (194 : Int32)
    · rw [if_pos b194]; exact own_at e_ta A_ta nn (own_rB nn b194 (el _ c18))
    by_cases b237 : j < (237 : Int32)
    · rw [if_neg b194, if_pos b237]; exact own_at e_ta A_ta nn (own_rR nn b194 b237 (el _ c19))
    by_cases b238 : j < (238 : Int32)
    · rw [if_neg b194, if_neg b237, if_pos b238]; exact own_one e_ta A_ta b237 b238 c20
    by_cases b244 : j < (244 : Int32)
    · rw [if_neg b194, if_neg b237, if_neg b238, if_pos b244]; exact own_at e_ta A_ta nn (own_rR nn b238 b244 (el _ c21))
    by_cases b245 : j < (245 : Int32)
    · rw [if_neg b194, if_neg b237, if_neg b238, if_neg b244, if_pos b245]; exact own_one e_ta A_ta b244 b245 c22
    rw [if_neg b194, if_neg b237, if_neg b238, if_neg b244, if_neg b245]; exact own_at e_ta A_ta nn (own_rT nn b245 (el _ c23))
  obtain ⟨n, o, h1, h2, h3, _, L, rfl, ⟨rfl, N⟩, hq⟩ := rm0 l s _ hw tables_1 i0 i1 i2 i3 i4 i5 la lc sa sc ta tc s.heap s.heap.size (Nat.le_refl _) (Old.start s) hS1 hT1 hS2 hT2 hS3 hT3 p e ha hc hk s m _ below hf ((Spec.applies_iff_loose hf).mp happ).1 ⟨rfl, State.Warmed39.refl s, rfl⟩ trivial
  refine ⟨n, _, h1, h2, h3, hpost _ _ _ _ _ _ ⟨Cond.after_iff.mpr rfl, Cond.after_iff.mpr (eq_i res_at (Term.int_eval (1)) rfl), trivial⟩ ⟨hq.1, hq.2.1, (hq.2.2.sift fun y hy => Or.inr (N y hy)).mono (by decide) (by decide)⟩⟩
theorem main_1_1 : Claimed_1_1 := comes_1 fun _ _ _ _ _ _ h hF => ⟨h.1, hF⟩
theorem main_1_2 : Claimed_1_2 := comes_1 fun _ _ _ _ _ _ h hF => ⟨h.2.1, hF⟩
end Jvm.Pilot.@@N@@
namespace Jvm.Pilot.@@N@@
open Jvm Jvm.ClassFile Sem Op Lib Jvm.Free Jvm.Stand Jvm.Pilot.@@N@@.Jvm.D
/-! MADE BY PROGRAM (witnessworld.py) out of the Statement's table words and the real class files: 9 classes; the members and pool entries that the words name. The judged class is class 1, her method 1. -/
namespace start1
open Jvm.ClassFile
def u (s : String) : CpInfo := .utf8 (stringToUtf16 s)
/-- a pool by its gaps: so many unusable entries, then the entry; so many at the end -/
def gap : Nat → List CpInfo → List CpInfo
  | 0, r => r
  | n + 1, r => .unusable :: gap n r
def poolList (es : List (Nat × CpInfo)) (last : Nat) : List CpInfo := es.foldr (fun e r => gap e.1 (e.2 :: r)) (gap last [])
def pool (es : List (Nat × CpInfo)) (last : Nat) : Array CpInfo := ⟨poolList es last⟩
def fileOf (pool : Array CpInfo) (this : Nat) (attrs : Array Attribute := #[]) (ms : Array MethodInfo := #[]) (fl : Nat := 33) (sup : Nat := 0) (ifs : Array Nat := #[]) (fds : Array FieldInfo := #[]) : ClassFile where
  minorVersion := 0
  majorVersion := 65
  constantPool := pool
  accessFlags := fl
  thisClass := this
  superClass := sup
  interfaces := ifs
  fields := fds
  methods := ms
  attributes := attrs
def plain (name : String) (sup : Option ClassId) : Class where
  name := name
  kind := .ordinary
  loader := none
  accessFlags := 33
  super := sup
  interfaces := #[]
  cf := none
  fields := #[]
  methods := #[]
  instanceTypes := #[]
  staticTypes := #[]
  resolved := #[]
  callSites := []
  init := .initialized
  statics := none
  mirror := none

def pool0 : Array CpInfo := pool [(5, u "<init>"), (0, u "()V"), (1, .class_ 10), (1, u "java/lang/Object")] 113

def k0m0 : Method := { name := "<init>", desc := "()V", sig := { parameters := [], returnType := none }, accessFlags := 1, code := none }
/-- java/lang/Object -/
def k0 : Class := { plain "java/lang/Object" none with
  accessFlags := 33
  interfaces := #[]
  cf := some (fileOf pool0 8 #[] #[{ accessFlags := 1, nameIndex := 5, descriptorIndex := 6, attributes := #[] }] 33 0 #[] #[])
  fields := #[]
  methods := #[k0m0]
  instanceTypes := #[]
  staticTypes := #[]
  resolved := Array.replicate 124 none
  statics := none }

def pool1 : Array CpInfo := pool [(2, .class_ 4), (1, u "java/lang/Object"), (0, u "<init>"), (0, u "()V"), (0, .methodref 8 9), (0, .class_ 10), (0, .nameAndType 11 12), (0, u "com/example/rivanna/rivanna/core/json/Utf8SequenceLengthPinLaw"), (0, u "expected"), (0, u "(IIIII)I"), (0, .methodref 14 15), (0, .class_ 16), (0, .nameAndType 17 18), (0, u "com/example/rivanna/rivanna/core/json/Utf8"), (0, u "sequenceLength"), (0, u "([BI)I"), (0, .methodref 8 20), (0, .nameAndType 21 22), (0, u "cont"), (0, u "(I)Z"), (0, .integer 55296), (0, .integer 57343), (0, .integer 65536), (0, .integer 1114111), (2, u "law"), (0, u "(IIIIII)Z")] 5

def k1m0 : Method := { name := "<init>", desc := "()V", sig := { parameters := [], returnType := none }, accessFlags := 2, code := none }
def k1c1 : Code := { maxStack := 5, maxLocals := 15, code := code, exceptionTable := #[], attributes := #[] }
def k1m1 : Method := { name := "law", desc := "(IIIIII)Z", sig := { parameters := [.int, .int, .int, .int, .int, .int], returnType := some .boolean }, accessFlags := 9, code := some k1c1 }
def k1c2 : Code := { maxStack := 2, maxLocals := 1, code := method_3_code, exceptionTable := #[], attributes := #[] }
def k1m2 : Method := { name := "cont", desc := "(I)Z", sig := { parameters := [.int], returnType := some .boolean }, accessFlags := 10, code := some k1c2 }
def k1c3 : Code := { maxStack := 3, maxLocals := 7, code := method_4_code, exceptionTable := #[], attributes := #[] }
def k1m3 : Method := { name := "expected", desc := "(IIIII)I", sig := { parameters := [.int, .int, .int, .int, .int], returnType := some .int }, accessFlags := 10, code := some k1c3 }
/-- com/example/rivanna/rivanna/core/json/Utf8SequenceLengthPinLaw -/
def k1 : Class := { plain "com/example/rivanna/rivanna/core/json/Utf8SequenceLengthPinLaw" (some 0) with
  accessFlags := 49
  interfaces := #[]
  cf := some (fileOf pool1 8 #[] #[{ accessFlags := 2, nameIndex := 5, descriptorIndex := 6, attributes := #[] }, { accessFlags := 9, nameIndex := 29, descriptorIndex := 30, attributes := #[] }, { accessFlags := 10, nameIndex := 21, descriptorIndex := 22, attributes := #[] }, { accessFlags := 10, nameIndex := 11, descriptorIndex := 12, attributes := #[] }] 49 2 #[] #[])
  fields := #[]
  methods := #[k1m0, k1m1, k1m2, k1m3]
  instanceTypes := #[]
  staticTypes := #[]
  resolved := Array.replicate 36 none
  statics := none }

def pool2 : Array CpInfo := pool [(2, .class_ 4), (1, u "java/lang/Object"), (0, u "<init>"), (0, u "()V"), (11, .class_ 20), (1, u "com/example/rivanna/rivanna/core/json/Utf8"), (0, u "sequenceLength"), (0, u "([BI)I"), (0, .fieldref 18 24), (0, .nameAndType 25 26), (0, u "LENGTH"), (0, u "[I"), (0, .fieldref 18 28), (0, .nameAndType 29 26), (0, u "SECOND_LOW"), (0, .fieldref 18 31), (0, .nameAndType 32 26), (0, u "SECOND_HIGH")] 12

def k2m0 : Method := { name := "<init>", desc := "()V", sig := { parameters := [], returnType := none }, accessFlags := 2, code := none }
def k2c1 : Code := { maxStack := 3, maxLocals := 6, code := prog_28_method_3_code, exceptionTable := #[], attributes := #[] }
def k2m1 : Method := { name := "sequenceLength", desc := "([BI)I", sig := { parameters := [(.array .byte), .int], returnType := some .int }, accessFlags := 9, code := some k2c1 }
/-- com/example/rivanna/rivanna/core/json/Utf8 -/
def k2 : Class := { plain "com/example/rivanna/rivanna/core/json/Utf8" (some 0) with
  accessFlags := 49
  interfaces := #[]
  cf := some (fileOf pool2 18 #[] #[{ accessFlags := 2, nameIndex := 5, descriptorIndex := 6, attributes := #[] }, { accessFlags := 9, nameIndex := 21, descriptorIndex := 22, attributes := #[] }] 49 2 #[] #[{ accessFlags := 26, nameIndex := 25, descriptorIndex := 26, attributes := #[] }, { accessFlags := 26, nameIndex := 29, descriptorIndex := 26, attributes := #[] }, { accessFlags := 26, nameIndex := 32, descriptorIndex := 26, attributes := #[] }])
  fields := #[{ name := "LENGTH", type := (.array .int), accessFlags := 26, slot := 0, constantValue := 0 }, { name := "SECOND_LOW", type := (.array .int), accessFlags := 26, slot := 1, constantValue := 0 }, { name := "SECOND_HIGH", type := (.array .int), accessFlags := 26, slot := 2, constantValue := 0 }]
  methods := #[k2m0, k2m1]
  instanceTypes := #[]
  staticTypes := #[(.array .int), (.array .int), (.array .int)]
  resolved := Array.replicate 45 none
  statics := some 0 }

def pool3 : Array CpInfo := pool [(1, u "java/lang/Cloneable"), (0, .class_ 1), (0, u "java/lang/Object"), (0, .class_ 3)] 3

/-- java/lang/Cloneable -/
def k3 : Class := { plain "java/lang/Cloneable" (some 0) with
  accessFlags := 1537
  interfaces := #[]
  cf := some (fileOf pool3 2 #[] #[] 1537 4 #[] #[])
  fields := #[]
  methods := #[]
  instanceTypes := #[]
  staticTypes := #[]
  resolved := Array.replicate 8 none
  statics := none }

def pool4 : Array CpInfo := pool [(1, u "java/io/Serializable"), (0, .class_ 1), (0, u "java/lang/Object"), (0, .class_ 3)] 3

/-- java/io/Serializable -/
def k4 : Class := { plain "java/io/Serializable" (some 0) with
  accessFlags := 1537
  interfaces := #[]
  cf := some (fileOf pool4 2 #[] #[] 1537 4 #[] #[])
  fields := #[]
  methods := #[]
  instanceTypes := #[]
  staticTypes := #[]
  resolved := Array.replicate 8 none
  statics := none }

/-- the primitive byte -/
def k5 : Class := { plain "byte" none with kind := .primitive 'B', accessFlags := 0x411 }
/-- [B -/
def k6 : Class := { plain "[B" (some 0) with kind := .array 5 .byte, interfaces := #[3, 4], accessFlags := 1041 }

/-- the primitive int -/
def k7 : Class := { plain "int" none with kind := .primitive 'I', accessFlags := 0x411 }
/-- [I -/
def k8 : Class := { plain "[I" (some 0) with kind := .array 7 .int, interfaces := #[3, 4], accessFlags := 1041 }

def heap : Heap := #[{ cls := 2, slots := #[.ref 1, .ref 2, .ref 3], vm := .statics 2 },
  { cls := 8, slots := #[.int 0, .int 0, .int 0, .int 0, .int 0, .int 0, .int 0, .int 0, .int 0, .int 0, .int 0, .int 0, .int 0, .int 0, .int 0, .int 0, .int 0, .int 0, .int 0, .int 0, .int 0, .int 0, .int 0, .int 0, .int 0, .int 0, .int 0, .int 0, .int 0, .int 0, .int 0, .int 0, .int 0, .int 0, .int 0, .int 0, .int 0, .int 0, .int 0, .int 0, .int 0, .int 0, .int 0, .int 0, .int 0, .int 0, .int 0, .int 0, .int 0, .int 0, .int 0, .int 0, .int 0, .int 0, .int 0, .int 0, .int 0, .int 0, .int 0, .int 0, .int 0, .int 0, .int 0, .int 0, .int 0, .int 0, .int 0, .int 0, .int 0, .int 0, .int 0, .int 0, .int 0, .int 0, .int 0, .int 0, .int 0, .int 0, .int 0, .int 0, .int 0, .int 0, .int 0, .int 0, .int 0, .int 0, .int 0, .int 0, .int 0, .int 0, .int 0, .int 0, .int 0, .int 0, .int 0, .int 0, .int 0, .int 0, .int 0, .int 0, .int 0, .int 0, .int 0, .int 0, .int 0, .int 0, .int 0, .int 0, .int 0, .int 0, .int 0, .int 0, .int 0, .int 0, .int 0, .int 0, .int 0, .int 0, .int 0, .int 0, .int 0, .int 0, .int 0, .int 0, .int 0, .int 0, .int 0, .int 0, .int 0, .int 0, .int 0, .int 0, .int 0, .int 0, .int 0, .int 0, .int 0, .int 0, .int 0, .int 0, .int 0, .int 0, .int 0, .int 0, .int 0, .int 0, .int 0, .int 0, .int 0, .int 0, .int 0, .int 0, .int 0, .int 0, .int 0, .int 0, .int 0, .int 0, .int 0, .int 0, .int 0, .int 0, .int 0, .int 0, .int 0, .int 0, .int 0, .int 0, .int 0, .int 0, .int 0, .int 0, .int 0, .int 0, .int 0, .int 0, .int 0, .int 0, .int 0, .int 0, .int 0, .int 0, .int 0, .int 0, .int 0, .int 0, .int 0, .int 0, .int 0, .int 0, .int 0, .int 0, .int 0, .int 0, .int 2, .int 2, .int 2, .int 2, .int 2, .int 2, .int 2, .int 2, .int 2, .int 2, .int 2, .int 2, .int 2, .int 2, .int 2, .int 2, .int 2, .int 2, .int 2, .int 2, .int 2, .int 2, .int 2, .int 2, .int 2, .int 2, .int 2, .int 2, .int 2, .int 2, .int 3, .int 3, .int 3, .int 3, .int 3, .int 3, .int 3, .int 3, .int 3, .int 3, .int 3, .int 3, .int 3, .int 3, .int 3, .int 3, .int 4, .int 4, .int 4, .int 4, .int 4, .int 0, .int 0, .int 0, .int 0, .int 0, .int 0, .int 0, .int 0, .int 0, .int 0, .int 0], vm := .none },
  { cls := 8, slots := #[.int 0, .int 0, .int 0, .int 0, .int 0, .int 0, .int 0, .int 0, .int 0, .int 0, .int 0, .int 0, .int 0, .int 0, .int 0, .int 0, .int 0, .int 0, .int 0, .int 0, .int 0, .int 0, .int 0, .int 0, .int 0, .int 0, .int 0, .int 0, .int 0, .int 0, .int 0, .int 0, .int 0, .int 0, .int 0, .int 0, .int 0, .int 0, .int 0, .int 0, .int 0, .int 0, .int 0, .int 0, .int 0, .int 0, .int 0, .int 0, .int 0, .int 0, .int 0, .int 0, .int 0, .int 0, .int 0, .int 0, .int 0, .int 0, .int 0, .int 0, .int 0, .int 0, .int 0, .int 0, .int 0, .int 0, .int 0, .int 0, .int 0, .int 0, .int 0, .int 0, .int 0, .int 0, .int 0, .int 0, .int 0, .int 0, .int 0, .int 0, .int 0, .int 0, .int 0, .int 0, .int 0, .int 0, .int 0, .int 0, .int 0, .int 0, .int 0, .int 0, .int 0, .int 0, .int 0, .int 0, .int 0, .int 0, .int 0, .int 0, .int 0, .int 0, .int 0, .int 0, .int 0, .int 0, .int 0, .int 0, .int 0, .int 0, .int 0, .int 0, .int 0, .int 0, .int 0, .int 0, .int 0, .int 0, .int 0, .int 0, .int 0, .int 0, .int 0, .int 0, .int 0, .int 0, .int 0, .int 0, .int 0, .int 0, .int 0, .int 0, .int 0, .int 0, .int 0, .int 0, .int 0, .int 0, .int 0, .int 0, .int 0, .int 0, .int 0, .int 0, .int 0, .int 0, .int 0, .int 0, .int 0, .int 0, .int 0, .int 0, .int 0, .int 0, .int 0, .int 0, .int 0, .int 0, .int 0, .int 0, .int 0, .int 0, .int 0, .int 0, .int 0, .int 0, .int 0, .int 0, .int 0, .int 0, .int 0, .int 0, .int 0, .int 0, .int 0, .int 0, .int 0, .int 0, .int 0, .int 0, .int 0, .int 0, .int 0, .int 0, .int 0, .int 0, .int 0, .int 0, .int 0, .int 0, .int 0, .int 0, .int 0, .int 0, .int 128, .int 128, .int 128, .int 128, .int 128, .int 128, .int 128, .int 128, .int 128, .int 128, .int 128, .int 128, .int 128, .int 128, .int 128, .int 128, .int 128, .int 128, .int 128, .int 128, .int 128, .int 128, .int 128, .int 128, .int 128, .int 128, .int 128, .int 128, .int 128, .int 128, .int 160, .int 128, .int 128, .int 128, .int 128, .int 128, .int 128, .int 128, .int 128, .int 128, .int 128, .int 128, .int 128, .int 128, .int 128, .int 128, .int 144, .int 128, .int 128, .int 128, .int 128, .int 0, .int 0, .int 0, .int 0, .int 0, .int 0, .int 0, .int 0, .int 0, .int 0, .int 0], vm := .none },
  { cls := 8, slots := #[.int 0, .int 0, .int 0, .int 0, .int 0, .int 0, .int 0, .int 0, .int 0, .int 0, .int 0, .int 0, .int 0, .int 0, .int 0, .int 0, .int 0, .int 0, .int 0, .int 0, .int 0, .int 0, .int 0, .int 0, .int 0, .int 0, .int 0, .int 0, .int 0, .int 0, .int 0, .int 0, .int 0, .int 0, .int 0, .int 0, .int 0, .int 0, .int 0, .int 0, .int 0, .int 0, .int 0, .int 0, .int 0, .int 0, .int 0, .int 0, .int 0, .int 0, .int 0, .int 0, .int 0, .int 0, .int 0, .int 0, .int 0, .int 0, .int 0, .int 0, .int 0, .int 0, .int 0, .int 0, .int 0, .int 0, .int 0, .int 0, .int 0, .int 0, .int 0, .int 0, .int 0, .int 0, .int 0, .int 0, .int 0, .int 0, .int 0, .int 0, .int 0, .int 0, .int 0, .int 0, .int 0, .int 0, .int 0, .int 0, .int 0, .int 0, .int 0, .int 0, .int 0, .int 0, .int 0, .int 0, .int 0, .int 0, .int 0, .int 0, .int 0, .int 0, .int 0, .int 0, .int 0, .int 0, .int 0, .int 0, .int 0, .int 0, .int 0, .int 0, .int 0, .int 0, .int 0, .int 0, .int 0, .int 0, .int 0, .int 0, .int 0, .int 0, .int 0, .int 0, .int 0, .int 0, .int 0, .int 0, .int 0, .int 0, .int 0, .int 0, .int 0, .int 0, .int 0, .int 0, .int 0, .int 0, .int 0, .int 0, .int 0, .int 0, .int 0, .int 0, .int 0, .int 0, .int 0, .int 0, .int 0, .int 0, .int 0, .int 0, .int 0, .int 0, .int 0, .int 0, .int 0, .int 0, .int 0, .int 0, .int 0, .int 0, .int 0, .int 0, .int 0, .int 0, .int 0, .int 0, .int 0, .int 0, .int 0, .int 0, .int 0, .int 0, .int 0, .int 0, .int 0, .int 0, .int 0, .int 0, .int 0, .int 0, .int 0, .int 0, .int 0, .int 0, .int 0, .int 0, .int 0, .int 0, .int 0, .int 0, .int 0, .int 0, .int 191, .int 191, .int 191, .int 191, .int 191, .int 191, .int 191, .int 191, .int 191, .int 191, .int 191, .int 191, .int 191, .int 191, .int 191, .int 191, .int 191, .int 191, .int 191, .int 191, .int 191, .int 191, .int 191, .int 191, .int 191, .int 191, .int 191, .int 191, .int 191, .int 191, .int 191, .int 191, .int 191, .int 191, .int 191, .int 191, .int 191, .int 191, .int 191, .int 191, .int 191, .int 191, .int 191, .int 159, .int 191, .int 191, .int 191, .int 191, .int 191, .int 191, .int 143, .int 0, .int 0, .int 0, .int 0, .int 0, .int 0, .int 0, .int 0, .int 0, .int 0, .int 0], vm := .none }]
def classes : Array Class := #[k0, k1, k2, k3, k4, k5, k6, k7, k8]
def interned : List (Array UInt16 × Addr) := []
def slotsUsed : Nat := 771
def theMethod : MethodId := ⟨1, 1⟩
def args0 : Array Value := #[.int 65, .int 66, .int 67, .int 68, .int 69, .int 6]
def aboutOver (below : List Frame) : State where
  vm := { classes := classes, interned := interned.toArray }
  heap := heap
  slotsUsed := slotsUsed
  threads := #[{ frames := .invoking theMethod args0 :: below }]
def below0 : List Frame := [.native { method := ⟨0, 0⟩, args := #[] }]
def about1 : State := aboutOver below0
def p0 : Program := .bare "" "" ""
def e0 : Env := launch0.env 0 0 0
theorem w_frames : about1.frames = Frame.invoking theMethod args0 :: below0 := rfl
set_option maxRecDepth 65536 in
theorem w_args : argsFit about1.vm theMethod args0 = true := by decide +kernel
set_option maxRecDepth 65536 in
theorem w_heap : heapFits about1 = true := by decide +kernel
set_option maxRecDepth 65536 in
theorem w_runnable : about1.curStatus? = some .runnable := by decide +kernel
set_option maxRecDepth 65536 in
theorem w_alone : about1.alone = true := by decide +kernel
set_option maxRecDepth 65536 in
theorem w_named : about1.methodNamed? x = some theMethod := by decide +kernel
set_option maxRecDepth 65536 in
theorem w_hears : about1.hears theMethod below0 = true := by decide +kernel
set_option maxRecDepth 65536 in
theorem w_ripe : about1.ripe theMethod args0 below0 = true := by decide +kernel
theorem w_running : about1.status = .running := rfl
set_option maxRecDepth 65536 in
theorem w_room : about1.hasRoom e0.platform room_1 = true :=
  launch0.hasRoom_least _ room_1 (by decide +kernel) (by decide +kernel) (by decide +kernel) (by decide +kernel) (by decide +kernel) (by decide +kernel)
theorem allAtoms_all (ts : List Jvm.Cond) (a : Array Jvm.Value) (st : Jvm.State) : (allAtoms ts).before a st = ts.all (fun c => c.before a st) := by
  induction ts with
  | nil => rfl
  | cons c t ih =>
    show (Jvm.Cond.and c (allAtoms t)).before a st = _
    rw [Jvm.Cond.before_and, ih, List.all_cons]
def words1 : List Jvm.Cond := Jvm.Cond.code x code maxLocals ret :: tables_1
/-- a 'code' word, met by the world's own term for the bytes: nothing is compared byte by byte -/
theorem code_word {y : MethodName} {bytes : ByteArray} {mx : Nat} {rt : Option FieldType} {a : Array Value} {s : State} {m : MethodId} {meth : Method} {c : Code} (h1 : s.methodNamed? y = some m) (h2 : s.vm.method? m = some meth) (h3 : meth.code = some c) (h4 : c.code = bytes)
    (h5 : (c.maxLocals == mx && c.exceptionTable.isEmpty && decide (c.maxStack ≤ mostOperands) && decide (meth.sig.returnType = rt) && !meth.locks && decide (parseMethodDescriptor y.desc = some meth.sig)) = true) : (Jvm.Cond.code y bytes mx rt).before a s = true := by
  simp only [Bool.and_eq_true, beq_iff_eq, Bool.not_eq_true', decide_eq_true_eq] at h5
  obtain ⟨⟨⟨⟨⟨g1, g2⟩, g3⟩, g4⟩, g5⟩, g6⟩ := h5
  simp [Cond.before, Cond.holds, Cond.value, h1, h2, h3, h4, g1, g2, g3, g4, g5, g6]
def isCode : Jvm.Cond → Bool
  | .code _ _ _ _ => true
  | _ => false
theorem all_split {L : List Jvm.Cond} {P : Jvm.Cond → Bool} (h1 : L.all (fun c => isCode c || P c) = true) (h2 : ∀ c ∈ L.filter isCode, P c = true) : L.all P = true := by
  refine List.all_eq_true.mpr fun c hc => ?_
  have h := List.all_eq_true.mp h1 c hc
  rcases Bool.eq_false_or_eq_true (isCode c) with hi | hi
  · exact h2 c (List.mem_filter.mpr ⟨hc, hi⟩)
  · simpa [hi] using h
set_option maxRecDepth 65536 in
theorem w_c0 : (Jvm.Cond.code x code maxLocals ret).before args0 about1 = true := code_word (m := ⟨1, 1⟩) (meth := k1m1) (c := k1c1) (by decide +kernel) rfl rfl rfl (by decide +kernel)
set_option maxRecDepth 65536 in
theorem w_c1 : (Jvm.Cond.code ({ cls := "com/example/rivanna/rivanna/core/json/Utf8SequenceLengthPinLaw", name := "expected", desc := "(IIIII)I" } : Jvm.MethodName) method_4_code (7 : Nat) (Option.some Jvm.ClassFile.FieldType.int)).before args0 about1 = true := code_word (m := ⟨1, 3⟩) (meth := k1m3) (c := k1c3) (by decide +kernel) rfl rfl rfl (by decide +kernel)
set_option maxRecDepth 65536 in
theorem w_c2 : (Jvm.Cond.code ({ cls := "com/example/rivanna/rivanna/core/json/Utf8", name := "sequenceLength", desc := "([BI)I" } : Jvm.MethodName) prog_28_method_3_code (6 : Nat) (Option.some Jvm.ClassFile.FieldType.int)).before args0 about1 = true := code_word (m := ⟨2, 1⟩) (meth := k2m1) (c := k2c1) (by decide +kernel) rfl rfl rfl (by decide +kernel)
set_option maxRecDepth 65536 in
theorem w_c3 : (Jvm.Cond.code ({ cls := "com/example/rivanna/rivanna/core/json/Utf8SequenceLengthPinLaw", name := "cont", desc := "(I)Z" } : Jvm.MethodName) method_3_code (1 : Nat) (Option.some Jvm.ClassFile.FieldType.boolean)).before args0 about1 = true := code_word (m := ⟨1, 2⟩) (meth := k1m2) (c := k1c2) (by decide +kernel) rfl rfl rfl (by decide +kernel)
def codes1 : List Jvm.Cond := [Jvm.Cond.code x code maxLocals ret, Jvm.Cond.code ({ cls := "com/example/rivanna/rivanna/core/json/Utf8SequenceLengthPinLaw", name := "expected", desc := "(IIIII)I" } : Jvm.MethodName) method_4_code (7 : Nat) (Option.some Jvm.ClassFile.FieldType.int), Jvm.Cond.code ({ cls := "com/example/rivanna/rivanna/core/json/Utf8", name := "sequenceLength", desc := "([BI)I" } : Jvm.MethodName) prog_28_method_3_code (6 : Nat) (Option.some Jvm.ClassFile.FieldType.int), Jvm.Cond.code ({ cls := "com/example/rivanna/rivanna/core/json/Utf8SequenceLengthPinLaw", name := "cont", desc := "(I)Z" } : Jvm.MethodName) method_3_code (1 : Nat) (Option.some Jvm.ClassFile.FieldType.boolean)]
set_option maxRecDepth 65536 in
theorem codes_eq : words1.filter isCode = codes1 := rfl
theorem w_codes : ∀ c ∈ words1.filter isCode, c.before args0 about1 = true := by
  rw [codes_eq]
  intro c hc
  simp only [codes1, List.mem_cons, List.not_mem_nil, or_false] at hc
  rcases hc with rfl | rfl | rfl | rfl
  · exact w_c0
  · exact w_c1
  · exact w_c2
  · exact w_c3
set_option maxRecDepth 65536 in
theorem w_t1 : words1.all (fun c => isCode c || c.before args0 about1) = true := by decide +kernel
theorem w_tables : (allAtoms (Jvm.Cond.code x code maxLocals ret :: tables_1)).before args0 about1 = true := by
  rw [allAtoms_all]
  show words1.all (fun c => c.before args0 about1) = true
  refine all_split ?_ w_codes
  rw [w_t1]
set_option maxRecDepth 65536 in
theorem w_case : (Jvm.Cond.and given_1 narrow_1).before args0 about1 = true := by decide +kernel
theorem w_applies : (headSpec (Jvm.Cond.code x code maxLocals ret :: tables_1) room_1).applies x e0.platform about1 = true :=
  (Spec.applies_iff w_frames).mpr ⟨w_running, w_runnable, w_alone, w_named, w_hears, w_ripe, w_room, w_tables⟩
theorem atStart : AtStart classFile x code maxLocals ret World_1 tables_1 room_1 Calls_1 rest_1 Pre_1 launch0 p0 e0 about1 theMethod args0 below0 :=
  ⟨lists_1, trivial, launch0.admits_env _ _ _, launch0.least_env, fairChoices_fair.cas, fairChoices_fair.clock, w_frames, w_args, w_heap, w_applies, trivial, trivial, w_case⟩
end start1
theorem witness_1 : WitnessClaimed_1 := ⟨start1.p0, start1.e0, start1.about1, start1.theMethod, start1.args0, start1.below0, start1.atStart⟩
end Jvm.Pilot.@@N@@
