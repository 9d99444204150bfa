import JvmDerived
import JvmDerived.Pilot.@@N@@Statement
import JvmDerived.Pilot.@@N@@Code
set_option linter.unusedVariables false
set_option linter.unusedSimpArgs false
@@BLOCK:NumsL.lean.txt@@
namespace Jvm.RoadKit
open Sem ClassFile Op Lib Jvm.Stand Jvm.Free Jvm.LawKit
section New
variable {p : Program} {l : Launch} {e : Env} {R : Room} {s : State} {m : MethodId} {args : Array Value} {below : List Frame} {meth : Method} {c : Code} {T : State} {locs : List Loc} {cells slots : Nat}
theorem retI (X : Stand p l e R s m args below meth c T locs cells slots) (hx : p.tables.exec = Jvm.exec) {pc : Nat} {Ls : Array Slot} {z : Int32} {rest : List Value} (hret : meth.sig.returnType = some .int) (hd : decode c.code pc = .ok (.ireturn, 1)) {fs : List Frame}
    (hl : ∀ (f : JFrame) (acts : List Action), f.method = m → f.locked = none → f.entered = [] → (doReturn e (T.setTop f) acts (some (.int z))).1 = T.setFrames fs) : Steps p.tables e below (T.setTop (mkF m pc Ls (.int z :: rest))) (T.setFrames fs) := by
  have hm' : T.vm.method? m = some meth := X.method'
  have hn : narrow .int (.int z) = .int z := rfl
  show Steps p.tables e below (T.setTop { method := m, pc := pc, locals := Ls, stack := _ :: rest, locked := none }) _
  jvm_step X.here [X.here.top, hx, hd, hm', hret, hn]
  first | (intro acts; rw [hl _ acts rfl rfl rfl]) | rw [hl _ _ rfl rfl rfl]
  exact Steps.refl _
end New
end Jvm.RoadKit
/- laws to paste: Road.backV, Road.eqW, Road.codOf (cut by pick.py; bodies as the Statement names them) -/
namespace Jvm.Pilot.@@N@@
namespace StrChars
open Jvm Sem ClassFile Op Lib Jvm.Stand Jvm.Free.XT Jvm.Free.ALB Jvm.Free.JM Jvm.Free
open Jvm.Lib.Cold (StaticIs)
/-- a char array whose places are chars -/
def Ch (a : Addr) (A : Cell) (U : State) : Prop := Arr .char a A U ∧ Typed .char A
theorem Ch.mv {a : Addr} {A : Cell} {U U' : State} (h : Ch a A U) (hal : U.vm.Alike U'.vm) (hh : U'.heap = U.heap) : Ch a A U' := ⟨h.1.mv hal hh, h.2⟩
theorem Ch.keep {a : Addr} {A : Cell} {U U' : State} (h : Ch a A U) (hal : U.vm.Alike U'.vm) (hk : U'.heap[a]? = some A) : Ch a A U' := ⟨h.1.keep hal hk, h.2⟩
/-- what place i of a char[]'s cell holds -/
def cv (A : Cell) (i : Nat) : Int32 := match A.slots[i]? with | some (.int x) => x | _ => 0
theorem Ch.get {a : Addr} {A : Cell} {U : State} (h : Ch a A U) {i : Nat} (hi : i < A.slots.size) : A.slots[i]? = some (.int (cv A i)) := by
  have e := Array.getElem?_eq_getElem hi
  have f := h.2 i _ e
  unfold cv; rw [e]
  generalize A.slots[i] = v at f
  cases v <;> simp [fits] at f ⊢
/-- the byte that i2b leaves of a char -/
def lo8 (x : Int32) : Int32 := x.toInt8.toInt32
theorem fits_lo8 (y : Int32) : fits .byte (.int (lo8 y)) = true := by
  have h1 := y.toInt8.le_toInt
  have h2 := y.toInt8.toInt_lt
  simp only [lo8, fits, Bool.and_eq_true, decide_eq_true_eq, Int32.le_iff_toInt_le, Int8.toInt_toInt32, show (-128 : Int32).toInt = -128 from by decide, show (127 : Int32).toInt = 127 from by decide]
  omega
/-- A' is A but that each place j of lo .. hi - 1 holds f j -/
def Laid (A A' : Cell) (lo hi : Nat) (f : Nat → Value) : Prop := A'.cls = A.cls ∧ A'.vm = A.vm ∧ A'.slots.size = A.slots.size ∧ ∀ i, A'.slots[i]? = if lo ≤ i ∧ i < hi then some (f i) else A.slots[i]?
theorem Laid.zero (A : Cell) (lo : Nat) (f : Nat → Value) : Laid A A lo (lo + 0) f := ⟨rfl, rfl, rfl, fun i => by rw [if_neg (by omega)]⟩
theorem Laid.step {A Ak : Cell} {lo k : Nat} {f : Nat → Value} {v : Value} (h : Laid A Ak lo k f) (hlo : lo ≤ k) (hk : k < Ak.slots.size) (hv : v = f k) : Laid A (Ak.setSlot k v) lo (k + 1) f := by
  refine ⟨h.1, h.2.1, by simpa [Cell.setSlot] using h.2.2.1, fun i => ?_⟩
  by_cases e : k = i
  · subst e; rw [Cell.slots_setSlot_self v hk, if_pos (by omega), hv]
  · rw [Cell.slots_setSlot_ne v e, h.2.2.2 i]
    by_cases q : lo ≤ i ∧ i < k
    · rw [if_pos q, if_pos (by omega)]
    · rw [if_neg q, if_neg (by omega)]
def U16 : String := "java/lang/StringUTF16"
namespace Cmp5
def yN : MethodName := ⟨"java/lang/StringUTF16", "compress", "([CI[BII)I"⟩
abbrev yB : ByteArray := jdk_52_method_21_code
theorem d0 : decode yB 0 = .ok (.iconst 0, 1) := by decide +kernel
theorem d1 : decode yB 1 = .ok (.istore 5, 2) := by decide +kernel
theorem d3 : decode yB 3 = .ok (.iload 5, 2) := by decide +kernel
theorem d5 : decode yB 5 = .ok (.iload 4, 2) := by decide +kernel
theorem d7 : decode yB 7 = .ok (.if_icmp (.ge) 37, 3) := by decide +kernel
theorem d10 : decode yB 10 = .ok (.aload_n 0, 1) := by decide +kernel
theorem d11 : decode yB 11 = .ok (.iload_n 1, 1) := by decide +kernel
theorem d12 : decode yB 12 = .ok (.caload, 1) := by decide +kernel
theorem d13 : decode yB 13 = .ok (.istore 6, 2) := by decide +kernel
theorem d15 : decode yB 15 = .ok (.iload 6, 2) := by decide +kernel
theorem d17 : decode yB 17 = .ok (.sipush 255, 3) := by decide +kernel
theorem d20 : decode yB 20 = .ok (.if_icmp (.le) 6, 3) := by decide +kernel
theorem d26 : decode yB 26 = .ok (.aload_n 2, 1) := by decide +kernel
theorem d27 : decode yB 27 = .ok (.iload_n 3, 1) := by decide +kernel
theorem d28 : decode yB 28 = .ok (.iload 6, 2) := by decide +kernel
theorem d30 : decode yB 30 = .ok (.i2b, 1) := by decide +kernel
theorem d31 : decode yB 31 = .ok (.bastore, 1) := by decide +kernel
theorem d32 : decode yB 32 = .ok (.iinc 1 1, 3) := by decide +kernel
theorem d35 : decode yB 35 = .ok (.iinc 3 1, 3) := by decide +kernel
theorem d38 : decode yB 38 = .ok (.iinc 5 1, 3) := by decide +kernel
theorem d41 : decode yB 41 = .ok (.goto (-38), 3) := by decide +kernel
theorem d44 : decode yB 44 = .ok (.iload 4, 2) := by decide +kernel
theorem d46 : decode yB 46 = .ok (.ireturn, 1) := by decide +kernel
def site : List Cond := []
def tab : Cond := tabOf yN yB 7 (some .int) site
def P (b : Addr) (A : Cell) (d : Addr) (B : Cell) (o q len : Nat) (args : Array Value) (s : State) : Prop := args = #[.ref b, .int (Int32.ofNat o), .ref d, .int (Int32.ofNat q), .int (Int32.ofNat len)] ∧ Ch b A s ∧ Arr .byte d B s ∧ b ≠ d ∧ o + len ≤ A.slots.size ∧ q + len ≤ B.slots.size ∧ ∀ i, i < len → ¬ 255 < cv A (o + i)
def E (b : Addr) (A : Cell) (d : Addr) (B : Cell) (o q len : Nat) (r : Option Value) (s u : State) : Prop := r = some (.int (Int32.ofNat len)) ∧ ∃ B', Put d B' s u ∧ Laid B B' q (q + len) (fun j => Value.int (lo8 (cv A (o + (j - q)))))
/-- no char of the range above 255: len; the places written hold each char's low byte -/
theorem law (l : Launch) (b : Addr) (A : Cell) (d : Addr) (B : Cell) (o q len : Nat) : Law l yN 5 5 0 0 yB 7 (some .int) site (P b A d B o q len) (E b A d B o q len) (copyLocs d q len) 0 0 := by
  refine Law.of_walk (plainFor_of_name (by decide +kernel)) (by decide +kernel) (by decide +kernel) (by decide) (fun _ _ h => by rw [h.1]; rfl) (fun _ U U' hal hh h => ⟨h.1, h.2.1.mv hal hh, h.2.2.1.mv hal hh, h.2.2.2⟩) (fun r U U' V V' h1 hal h2 h => ⟨h.1, h.2.elim fun B' q => ⟨B', q.1.mv h1 h2, q.2⟩⟩) ?_
  intro p e s m args below meth c s₁ X0 hexec hbytes hml hret hlk hnm hown hh0 W hP
  obtain ⟨rfl, hA, hB, hne, l1, l2, hp⟩ := hP
  have c1 : Steps p.tables e below (s₁.setTop (entryFrame m #[.ref b, .int (Int32.ofNat o), .ref d, .int (Int32.ofNat q), .int (Int32.ofNat len)] 7)) (s₁.setTop (mkF m 0 #[.val (.ref b), .val (.int (Int32.ofNat o)), .val (.ref d), .val (.int (Int32.ofNat q)), .val (.int (Int32.ofNat len)), .unset, .unset] [])) := entry rfl
  have hA0 := hA.1.mv X0.warmed.alike hh0
  have hB0 := hB.mv X0.warmed.alike hh0
  have a31 := hA.1.2.2.2
  have c2 : Steps p.tables e below (s₁.setTop (entryFrame m #[.ref b, .int (Int32.ofNat o), .ref d, .int (Int32.ofNat q), .int (Int32.ofNat len)] 7)) (s₁.setTop (mkF m 3 #[.val (.ref b), .val (.int (Int32.ofNat o)), .val (.ref d), .val (.int (Int32.ofNat q)), .val (.int (Int32.ofNat len)), .val (.int 0), .unset] [])) := c1.trans (by
    refine iconstV X0.here hexec rfl 0 (hb hbytes d0) (by decide) ?_
    refine XS.istore X0.here hexec rfl (hb hbytes d1) rfl rfl ?_
    exact Steps.refl _)
  have loop : ∀ (r i : Nat), i + r = len → ∀ (z : Slot), (z = .unset ∨ ∃ w, z = .val w ∧ w.category = 1) → ∀ (Tl : State) (Bk : Cell), Stand p l e { frames := 0, locals := 0, cells := 0, slots := 0 } s m #[.ref b, .int (Int32.ofNat o), .ref d, .int (Int32.ofNat q), .int (Int32.ofNat len)] below meth c Tl ([] ++ copyLocs d q i) 0 0 → Put d Bk s₁ Tl → Laid B Bk q (q + i) (fun j => Value.int (lo8 (cv A (o + (j - q))))) →
      Steps p.tables e below (s₁.setTop (entryFrame m #[.ref b, .int (Int32.ofNat o), .ref d, .int (Int32.ofNat q), .int (Int32.ofNat len)] 7)) (Tl.setTop (mkF m 3 #[.val (.ref b), .val (.int (Int32.ofNat (o + i))), .val (.ref d), .val (.int (Int32.ofNat (q + i))), .val (.int (Int32.ofNat len)), .val (.int (Int32.ofNat i)), z] [])) → ∃ (T' : State) (B' : Cell) (z' : Slot), Stand p l e { frames := 0, locals := 0, cells := 0, slots := 0 } s m #[.ref b, .int (Int32.ofNat o), .ref d, .int (Int32.ofNat q), .int (Int32.ofNat len)] below meth c T' ([] ++ copyLocs d q len) 0 0 ∧ Put d B' s₁ T' ∧ Laid B B' q (q + len) (fun j => Value.int (lo8 (cv A (o + (j - q))))) ∧
      Steps p.tables e below (s₁.setTop (entryFrame m #[.ref b, .int (Int32.ofNat o), .ref d, .int (Int32.ofNat q), .int (Int32.ofNat len)] 7)) (T'.setTop (mkF m 3 #[.val (.ref b), .val (.int (Int32.ofNat (o + len))), .val (.ref d), .val (.int (Int32.ofNat (q + len))), .val (.int (Int32.ofNat len)), .val (.int (Int32.ofNat len)), z'] [])) := by
    intro r
    induction r with
    | zero =>
      intro i hi z hz Tl Bk Xl pl fl cl
      have hil : i = len := by omega
      rw [hil] at Xl fl cl
      exact ⟨Tl, Bk, z, Xl, pl, fl, cl⟩
    | succ r ih =>
      intro i hi z hz Tl Bk Xl pl fl cl
      have all := X0.warmed.alike.symm.trans Xl.warmed.alike
      have hAl := hA0.keep all (pl.other hne hA0.1)
      have hBk := hB0.like all pl.1 fl.1 fl.2.1 fl.2.2.1
      have hlt : q + i < Bk.slots.size := by rw [fl.2.2.1]; omega
      have c3 : Steps p.tables e below (s₁.setTop (entryFrame m #[.ref b, .int (Int32.ofNat o), .ref d, .int (Int32.ofNat q), .int (Int32.ofNat len)] 7)) (Tl.setTop (mkF m 12 #[.val (.ref b), .val (.int (Int32.ofNat (o + i))), .val (.ref d), .val (.int (Int32.ofNat (q + i))), .val (.int (Int32.ofNat len)), .val (.int (Int32.ofNat i)), z] [.int (Int32.ofNat (o + i)), .ref b])) := cl.trans (by
        refine XS.iload Xl.here hexec rfl (hb hbytes d3) rfl ?_
        refine XS.iload Xl.here hexec rfl (hb hbytes d5) rfl ?_
        refine XS.icmpNo Xl.here hexec rfl (hb hbytes d7) rfl (ii_ge_f (lt32 (by omega) (by omega))) ?_
        refine XS.aloadN Xl.here hexec rfl (hb hbytes d10) rfl rfl ?_
        refine XS.iloadN Xl.here hexec rfl (hb hbytes d11) rfl ?_
        exact Steps.refl _)
      have c4 : Steps p.tables e below (s₁.setTop (entryFrame m #[.ref b, .int (Int32.ofNat o), .ref d, .int (Int32.ofNat q), .int (Int32.ofNat len)] 7)) (Tl.setTop (mkF m 13 #[.val (.ref b), .val (.int (Int32.ofNat (o + i))), .val (.ref d), .val (.int (Int32.ofNat (q + i))), .val (.int (Int32.ofNat len)), .val (.int (Int32.ofNat i)), z] [.int (cv A (o + i))])) := c3.trans (by
        refine Xl.aget hexec hAl rfl (hA.get (i := o + i) (by omega)) rfl rfl (hb hbytes d12) ?_
        exact Steps.refl _)
      have c5 : Steps p.tables e below (s₁.setTop (entryFrame m #[.ref b, .int (Int32.ofNat o), .ref d, .int (Int32.ofNat q), .int (Int32.ofNat len)] 7)) (Tl.setTop (mkF m 15 #[.val (.ref b), .val (.int (Int32.ofNat (o + i))), .val (.ref d), .val (.int (Int32.ofNat (q + i))), .val (.int (Int32.ofNat len)), .val (.int (Int32.ofNat i)), .val (.int (cv A (o + i)))] [])) := c4.trans (by
        refine XS.istoreS Xl.here hexec rfl (hb hbytes d13) rfl rfl hz ?_
        exact Steps.refl _)
      have c6 : Steps p.tables e below (s₁.setTop (entryFrame m #[.ref b, .int (Int32.ofNat o), .ref d, .int (Int32.ofNat q), .int (Int32.ofNat len)] 7)) (Tl.setTop (mkF m 31 #[.val (.ref b), .val (.int (Int32.ofNat (o + i))), .val (.ref d), .val (.int (Int32.ofNat (q + i))), .val (.int (Int32.ofNat len)), .val (.int (Int32.ofNat i)), .val (.int (cv A (o + i)))] [.int (lo8 (cv A (o + i))), .int (Int32.ofNat (q + i)), .ref d])) := c5.trans (by
        refine XS.iload Xl.here hexec rfl (hb hbytes d15) rfl ?_
        refine sipushV Xl.here hexec rfl 255 (hb hbytes d17) (by decide) ?_
        refine XS.icmpYes Xl.here hexec rfl (pc0 := 20) rfl (hb hbytes d20) rfl (ii_le_t (hp i (by omega))) (by decide) rfl ?_
        refine XS.aloadN Xl.here hexec rfl (hb hbytes d26) rfl rfl ?_
        refine XS.iloadN Xl.here hexec rfl (hb hbytes d27) rfl ?_
        refine XS.iload Xl.here hexec rfl (hb hbytes d28) rfl ?_
        refine i2b Xl.here hexec rfl (hb hbytes d30) rfl ?_
        exact Steps.refl _)
      obtain ⟨T7, X7, p7, st7⟩ := Xl.aput hexec hBk rfl hlt rfl (fits_lo8 (cv A (o + i))) (g := (mkF m 31 #[.val (.ref b), .val (.int (Int32.ofNat (o + i))), .val (.ref d), .val (.int (Int32.ofNat (q + i))), .val (.int (Int32.ofNat len)), .val (.int (Int32.ofNat i)), .val (.int (cv A (o + i)))] [.int (lo8 (cv A (o + i))), .int (Int32.ofNat (q + i)), .ref d])) rfl (rest := []) rfl (hb hbytes d31)
      have c8 : Steps p.tables e below (s₁.setTop (entryFrame m #[.ref b, .int (Int32.ofNat o), .ref d, .int (Int32.ofNat q), .int (Int32.ofNat len)] 7)) (T7.setTop (mkF m 32 #[.val (.ref b), .val (.int (Int32.ofNat (o + i))), .val (.ref d), .val (.int (Int32.ofNat (q + i))), .val (.int (Int32.ofNat len)), .val (.int (Int32.ofNat i)), .val (.int (cv A (o + i)))] [])) := c6.trans (st7 _ (Steps.refl _))
      have c9 : Steps p.tables e below (s₁.setTop (entryFrame m #[.ref b, .int (Int32.ofNat o), .ref d, .int (Int32.ofNat q), .int (Int32.ofNat len)] 7)) (T7.setTop (mkF m 3 #[.val (.ref b), .val (.int (Int32.ofNat (o + i) + 1)), .val (.ref d), .val (.int (Int32.ofNat (q + i) + 1)), .val (.int (Int32.ofNat len)), .val (.int (Int32.ofNat i + 1)), .val (.int (cv A (o + i)))] [])) := c8.trans (by
        refine iincV X7.here hexec rfl 1 (hb hbytes d32) (by decide) rfl rfl ?_
        refine iincV X7.here hexec rfl 1 (hb hbytes d35) (by decide) rfl rfl ?_
        refine iincV X7.here hexec rfl 1 (hb hbytes d38) (by decide) rfl rfl ?_
        refine XS.goto X7.here hexec rfl (pc0 := 41) rfl (hb hbytes d41) (by decide) rfl ?_
        exact Steps.refl _)
      have c10 : Steps p.tables e below (s₁.setTop (entryFrame m #[.ref b, .int (Int32.ofNat o), .ref d, .int (Int32.ofNat q), .int (Int32.ofNat len)] 7)) (T7.setTop (mkF m 3 #[.val (.ref b), .val (.int (Int32.ofNat (o + (i + 1)))), .val (.ref d), .val (.int (Int32.ofNat (q + (i + 1)))), .val (.int (Int32.ofNat len)), .val (.int (Int32.ofNat (i + 1))), .val (.int (cv A (o + i)))] [])) := by
        have := c9
        rw [succ32, succ32, succ32] at this
        exact this
      exact ih (i + 1) (by omega) _ (Or.inr ⟨_, rfl, rfl⟩) T7 _ (by rw [copyLocs_step, ← List.append_assoc]; exact X7) (pl.trans p7) (fl.step (by omega) hlt (by simp)) c10
  obtain ⟨T9, B9, z9, X9, p9, f9, g9⟩ := loop len 0 (by omega) .unset (Or.inl rfl) s₁ B (by simpa [copyLocs] using X0) ⟨hB0.1, fun _ _ => rfl, rfl⟩ (Laid.zero _ _ _) c2
  have c11 : Steps p.tables e below (s₁.setTop (entryFrame m #[.ref b, .int (Int32.ofNat o), .ref d, .int (Int32.ofNat q), .int (Int32.ofNat len)] 7)) (T9.setTop (mkF m 46 #[.val (.ref b), .val (.int (Int32.ofNat (o + len))), .val (.ref d), .val (.int (Int32.ofNat (q + len))), .val (.int (Int32.ofNat len)), .val (.int (Int32.ofNat len)), z9] [.int (Int32.ofNat len)])) := g9.trans (by
    refine XS.iload X9.here hexec rfl (hb hbytes d3) rfl ?_
    refine XS.iload X9.here hexec rfl (hb hbytes d5) rfl ?_
    refine XS.icmpYes X9.here hexec rfl (pc0 := 7) rfl (hb hbytes d7) rfl (ii_ge_t (nlt32 (by omega) (Nat.le_refl _))) (by decide) rfl ?_
    refine XS.iload X9.here hexec rfl (hb hbytes d44) rfl ?_
    exact Steps.refl _)
  exact ⟨T9, some (.int (Int32.ofNat len)), _, _, _, X9, by simp, rfl, rfl, (fun h => by cases h), ⟨rfl, B9, p9.from hh0, f9⟩, fun fs hl => c11.trans (X9.ireturnOut hexec hret rfl (Or.inl rfl) (hb hbytes d46) hl)⟩
end Cmp5
namespace Cmp3
def yN : MethodName := ⟨"java/lang/StringUTF16", "compress", "([CII)[B"⟩
abbrev yB : ByteArray := jdk_52_method_16_code
theorem d0 : decode yB 0 = .ok (.iload_n 2, 1) := by decide +kernel
theorem d1 : decode yB 1 = .ok (.newarray .byte, 2) := by decide +kernel
theorem d3 : decode yB 3 = .ok (.astore_n 3, 1) := by decide +kernel
theorem d4 : decode yB 4 = .ok (.aload_n 0, 1) := by decide +kernel
theorem d5 : decode yB 5 = .ok (.iload_n 1, 1) := by decide +kernel
theorem d6 : decode yB 6 = .ok (.aload_n 3, 1) := by decide +kernel
theorem d7 : decode yB 7 = .ok (.iconst 0, 1) := by decide +kernel
theorem d8 : decode yB 8 = .ok (.iload_n 2, 1) := by decide +kernel
theorem d9 : decode yB 9 = .ok (.invokestatic 115, 3) := by decide +kernel
theorem d12 : decode yB 12 = .ok (.istore 4, 2) := by decide +kernel
theorem d14 : decode yB 14 = .ok (.iload 4, 2) := by decide +kernel
theorem d16 : decode yB 16 = .ok (.iload_n 2, 1) := by decide +kernel
theorem d17 : decode yB 17 = .ok (.if_icmp (.eq) 40, 3) := by decide +kernel
theorem d57 : decode yB 57 = .ok (.aload_n 3, 1) := by decide +kernel
theorem d58 : decode yB 58 = .ok (.areturn, 1) := by decide +kernel
def site : List Cond := [.arrayClass .byte, Cmp5.tab] ++ staticW U16 115 Cmp5.yN
def tab : Cond := tabOf yN yB 6 (some (.array .byte)) site
def P (b : Addr) (A : Cell) (o len : Nat) (args : Array Value) (s : State) : Prop := args = #[.ref b, .int (Int32.ofNat o), .int (Int32.ofNat len)] ∧ Ch b A s ∧ o + len ≤ A.slots.size ∧ len ≤ 536870912 ∧ ∀ i, i < len → ¬ 255 < cv A (o + i)
def E (b : Addr) (A : Cell) (o len : Nat) (r : Option Value) (s u : State) : Prop := NewArr .byte "[B" len (fun j => .int (lo8 (cv A (o + j)))) r s u ∧ u.heap.size = s.heap.size + 1
/-- no char of the range above 255: a new byte[] of their low bytes -/
theorem law (l : Launch) (b : Addr) (A : Cell) (o len : Nat) : Law l yN 3 3 1 18 yB 6 (some (.array .byte)) site (P b A o len) (E b A o len) [] 1 len := by
  refine Law.of_walk (plainFor_of_name (by decide +kernel)) (by decide +kernel) (by decide +kernel) (by decide) (fun _ _ h => by rw [h.1]; rfl) (fun _ U U' hal hh h => ⟨h.1, h.2.1.mv hal hh, h.2.2⟩) (fun r U U' V V' h1 hal h2 h => ⟨NewArr.mv r U U' V V' h1 hal h2 h.1, by rw [h1, h2]; exact h.2⟩) ?_
  intro p e s m args below meth c s₁ X0 hexec hbytes hml hret hlk hnm hown hh0 W hP
  obtain ⟨rfl, hA, l1, l2, hp⟩ := hP
  have a31 := hA.1.2.2.2
  have c1 : Steps p.tables e below (s₁.setTop (entryFrame m #[.ref b, .int (Int32.ofNat o), .int (Int32.ofNat len)] 6)) (s₁.setTop (mkF m 0 #[.val (.ref b), .val (.int (Int32.ofNat o)), .val (.int (Int32.ofNat len)), .unset, .unset, .unset] [])) := entry rfl
  have c2 : Steps p.tables e below (s₁.setTop (entryFrame m #[.ref b, .int (Int32.ofNat o), .int (Int32.ofNat len)] 6)) (s₁.setTop (mkF m 1 #[.val (.ref b), .val (.int (Int32.ofNat o)), .val (.int (Int32.ofNat len)), .unset, .unset, .unset] [.int (Int32.ofNat len)])) := c1.trans (by
    refine XS.iloadN X0.here hexec rfl (hb hbytes d0) rfl ?_
    exact Steps.refl _)
  obtain ⟨T3, B3, X3, ba3, bs3, bv3, bh3, bf3, st3⟩ := X0.anew hexec (atype := .byte) (wk W (.arrayClass .byte)) rfl (by show len * 1 ≤ _; omega) (by omega) (g := (mkF m 1 #[.val (.ref b), .val (.int (Int32.ofNat o)), .val (.int (Int32.ofNat len)), .unset, .unset, .unset] [.int (Int32.ofNat len)])) rfl (hb hbytes d1) (rest := []) rfl (Nat.le_refl _) (by show 0 + len ≤ len; omega)
  rw [hh0] at ba3 st3
  have kp3 : XT.Kept s T3 := (XT.Kept.of_eq hh0).push bh3
  have hA3 := hA.keep X3.warmed.alike (kp3 _ _ hA.1.1)
  have hne : b ≠ s.heap.size := hA.1.ne
  have c4 : Steps p.tables e below (s₁.setTop (entryFrame m #[.ref b, .int (Int32.ofNat o), .int (Int32.ofNat len)] 6)) (T3.setTop (mkF m 3 #[.val (.ref b), .val (.int (Int32.ofNat o)), .val (.int (Int32.ofNat len)), .unset, .unset, .unset] [.ref s.heap.size])) := c2.trans (st3 _ (Steps.refl _))
  have c5 : Steps p.tables e below (s₁.setTop (entryFrame m #[.ref b, .int (Int32.ofNat o), .int (Int32.ofNat len)] 6)) (T3.setTop (mkF m 9 #[.val (.ref b), .val (.int (Int32.ofNat o)), .val (.int (Int32.ofNat len)), .val (.ref s.heap.size), .unset, .unset] [.int (Int32.ofNat len), .int 0, .ref s.heap.size, .int (Int32.ofNat o), .ref b])) := c4.trans (by
    refine XS.astoreN X3.here hexec rfl (hb hbytes d3) rfl rfl rfl ?_
    refine XS.aloadN X3.here hexec rfl (hb hbytes d4) rfl rfl ?_
    refine XS.iloadN X3.here hexec rfl (hb hbytes d5) rfl ?_
    refine XS.aloadN X3.here hexec rfl (hb hbytes d6) rfl rfl ?_
    refine iconstV X3.here hexec rfl 0 (hb hbytes d7) (by decide) ?_
    refine XS.iloadN X3.here hexec rfl (hb hbytes d8) rfl ?_
    exact Steps.refl _)
  obtain ⟨v6, T6, X6, E6, g6⟩ := X3.callS hexec (Cmp5.law l b A s.heap.size B3 o 0 len) hown (wks W (staticW U16 115 Cmp5.yN)) (wk W Cmp5.tab) (W := 0) (Nat.le_of_ble_eq_true rfl) (Nat.le_of_ble_eq_true rfl) (Nat.le_refl _) (by show 0 + len + 0 ≤ len; omega) (g := (mkF m 9 #[.val (.ref b), .val (.int (Int32.ofNat o)), .val (.int (Int32.ofNat len)), .val (.ref s.heap.size), .unset, .unset] [.int (Int32.ofNat len), .int (Int32.ofNat 0), .ref s.heap.size, .int (Int32.ofNat o), .ref b])) rfl (by rw [hml]; rfl) c5 (argsL := [.ref b, .int (Int32.ofNat o), .ref s.heap.size, .int (Int32.ofNat 0), .int (Int32.ofNat len)]) (rest := []) rfl rfl (by show 2 * 0 + 0 ≤ _; decide) (hb hbytes d9) (⟨rfl, hA3, ba3, hne, l1, by rw [bs3]; simp, hp⟩)
  obtain ⟨rfl, B6, p6, f6⟩ := E6
  have c7 : Steps p.tables e below (s₁.setTop (entryFrame m #[.ref b, .int (Int32.ofNat o), .int (Int32.ofNat len)] 6)) (T6.setTop (mkF m 12 #[.val (.ref b), .val (.int (Int32.ofNat o)), .val (.int (Int32.ofNat len)), .val (.ref s.heap.size), .unset, .unset] [.int (Int32.ofNat len)])) := g6
  have c8 : Steps p.tables e below (s₁.setTop (entryFrame m #[.ref b, .int (Int32.ofNat o), .int (Int32.ofNat len)] 6)) (T6.setTop (mkF m 58 #[.val (.ref b), .val (.int (Int32.ofNat o)), .val (.int (Int32.ofNat len)), .val (.ref s.heap.size), .val (.int (Int32.ofNat len)), .unset] [.ref s.heap.size])) := c7.trans (by
    refine XS.istore X6.here hexec rfl (hb hbytes d12) rfl rfl ?_
    refine XS.iload X6.here hexec rfl (hb hbytes d14) rfl ?_
    refine XS.iloadN X6.here hexec rfl (hb hbytes d16) rfl ?_
    refine XS.icmpYes X6.here hexec rfl (pc0 := 17) rfl (hb hbytes d17) rfl (ii_eq_t rfl) (by decide) rfl ?_
    refine XS.aloadN X6.here hexec rfl (hb hbytes d57) rfl rfl ?_
    exact Steps.refl _)
  have X8 := X6.wide (L' := []) (cells' := 1) (slots' := len) (fun x hx hlt => by
    simp only [List.nil_append, copyLocs, List.mem_map, List.mem_range] at hx
    obtain ⟨i, -, rfl⟩ := hx
    exact absurd hlt (Nat.lt_irrefl _)) (Nat.le_refl _) (by omega)
  exact ⟨T6, some (.ref s.heap.size), _, _, _, X8, rfl, rfl, rfl, (fun h => by cases h), ⟨⟨rfl, B6, ba3.like (X3.warmed.alike.symm.trans X6.warmed.alike) p6.1 f6.1 f6.2.1 f6.2.2.1, f6.2.1.trans bv3, by rw [X6.warmed.alike.findClass, f6.1]; exact bf3, by rw [f6.2.2.1, bs3]; simp, fun j hj => by rw [f6.2.2.2 j, if_pos (by omega)]; rfl, kp3.put p6 (Nat.le_refl _)⟩, by rw [p6.2.2, bh3, hh0]; simp⟩, fun fs hl => c8.trans (X8.areturnOut hexec rfl hret rfl (hb hbytes d58) hl)⟩
end Cmp3
namespace CodL
def yN : MethodName := ⟨"java/lang/StringUTF16", "coderFromArrayLen", "([BI)B"⟩
abbrev yB : ByteArray := jdk_52_method_15_code
theorem d0 : decode yB 0 = .ok (.iload_n 1, 1) := by decide +kernel
theorem d1 : decode yB 1 = .ok (.aload_n 0, 1) := by decide +kernel
theorem d2 : decode yB 2 = .ok (.arraylength, 1) := by decide +kernel
theorem d3 : decode yB 3 = .ok (.isub, 1) := by decide +kernel
theorem d4 : decode yB 4 = .ok (.bipush 31, 2) := by decide +kernel
theorem d6 : decode yB 6 = .ok (.iushr, 1) := by decide +kernel
theorem d7 : decode yB 7 = .ok (.i2b, 1) := by decide +kernel
theorem d8 : decode yB 8 = .ok (.ireturn, 1) := by decide +kernel
def site : List Cond := []
def tab : Cond := tabOf yN yB 2 (some .byte) site
def P (d : Addr) (B : Cell) (args : Array Value) (s : State) : Prop := args = #[.ref d, .int (Int32.ofNat B.slots.size)] ∧ Arr .byte d B s
def E (r : Option Value) (s u : State) : Prop := XT.PureE (some (.int 0)) r s u
/-- an array as long as the number of chars: LATIN1 -/
theorem law (l : Launch) (d : Addr) (B : Cell) : Law l yN 2 2 0 0 yB 2 (some .byte) site (P d B) E [] 0 0 := by
  refine Law.of_walk (plainFor_of_name (by decide +kernel)) (by decide +kernel) (by decide +kernel) (by decide) (fun _ _ h => by rw [h.1]; rfl) (fun _ U U' hal hh h => ⟨h.1, h.2.mv hal hh⟩) (fun r U U' V V' h1 hal h2 h => XT.PureE.mv r U U' V V' h1 hal h2 h) ?_
  intro p e s m args below meth c s₁ X0 hexec hbytes hml hret hlk hnm hown hh0 W hP
  obtain ⟨rfl, hB⟩ := hP
  have hB0 := hB.mv X0.warmed.alike hh0
  have c1 : Steps p.tables e below (s₁.setTop (entryFrame m #[.ref d, .int (Int32.ofNat B.slots.size)] 2)) (s₁.setTop (mkF m 0 #[.val (.ref d), .val (.int (Int32.ofNat B.slots.size))] [])) := entry rfl
  have c2 : Steps p.tables e below (s₁.setTop (entryFrame m #[.ref d, .int (Int32.ofNat B.slots.size)] 2)) (s₁.setTop (mkF m 2 #[.val (.ref d), .val (.int (Int32.ofNat B.slots.size))] [.ref d, .int (Int32.ofNat B.slots.size)])) := c1.trans (by
    refine XS.iloadN X0.here hexec rfl (hb hbytes d0) rfl ?_
    refine XS.aloadN X0.here hexec rfl (hb hbytes d1) rfl rfl ?_
    exact Steps.refl _)
  have c3 : Steps p.tables e below (s₁.setTop (entryFrame m #[.ref d, .int (Int32.ofNat B.slots.size)] 2)) (s₁.setTop (mkF m 8 #[.val (.ref d), .val (.int (Int32.ofNat B.slots.size))] [.int (lo8 (ushr (Int32.ofNat B.slots.size - Int32.ofNat B.slots.size) 31))])) := c2.trans (by
    refine X0.alen hexec hB0 rfl rfl (hb hbytes d2) ?_
    refine XS.isub X0.here hexec rfl (hb hbytes d3) rfl ?_
    refine bipushV X0.here hexec rfl 31 (hb hbytes d4) (by decide) ?_
    refine iushr X0.here hexec rfl (hb hbytes d6) rfl ?_
    refine i2b X0.here hexec rfl (hb hbytes d7) rfl ?_
    exact Steps.refl _)
  have e0 : lo8 (ushr (Int32.ofNat B.slots.size - Int32.ofNat B.slots.size) 31) = 0 := by rw [Int32.sub_self]; decide
  rw [e0] at c3
  exact ⟨s₁, some (.int 0), _, _, _, X0, rfl, rfl, rfl, (fun h => by cases h), ⟨rfl, hh0⟩, fun fs hl => c3.trans (X0.ireturnOut hexec hret rfl (Or.inr (Or.inr (Or.inl rfl))) (hb hbytes d8) hl)⟩
end CodL
/-- the String at a is Latin-1 over a new byte[] (the heap's one new cell): the low bytes of the len chars of A from o on; every cell but a is kept -/
def Got (a : Addr) (D : Cell) (fV fC : Field) (A : Cell) (o len : Nat) (r : Option Value) (s u : State) : Prop := r = none ∧ ∃ D' V : Cell, Blank "java/lang/String" a D' u ∧ Same D D' [fV.slot, fC.slot] ∧ D'.slots[fV.slot]? = some (.ref s.heap.size) ∧ D'.slots[fC.slot]? = some (.int 0) ∧ Arr .byte s.heap.size V u ∧ V.vm = .none ∧ u.vm.findClass "[B" = some V.cls ∧ V.slots.size = len ∧ (∀ j, j < len → V.slots[j]? = some (.int (lo8 (cv A (o + j))))) ∧ (∀ (y : Addr) (c : Cell), y ≠ a → s.heap[y]? = some c → u.heap[y]? = some c) ∧ u.heap.size = s.heap.size + 1
theorem Got.mv {a : Addr} {D A : Cell} {fV fC : Field} {o len : Nat} : ∀ r (U U' V V' : State), U'.heap = U.heap → V.vm.Alike V'.vm → V'.heap = V.heap → Got a D fV fC A o len r U V → Got a D fV fC A o len r U' V' :=
  fun r U U' V V' h1 hal h2 ⟨e0, D', X, a1, a2, a3, a4, a5, a6, a7, a8, a9, a10, a11⟩ => ⟨e0, D', X, a1.mv hal h2, a2, by rw [h1]; exact a3, a4, by rw [h1]; exact a5.mv hal h2, a6, by rw [hal.findClass]; exact a7, a8, a9, by rw [h1, h2]; exact a10, by rw [h1, h2]; exact a11⟩
namespace New4
def yN : MethodName := ⟨"java/lang/String", "<init>", "([CIILjava/lang/Void;)V"⟩
abbrev yB : ByteArray := jdk_42_method_149_code
theorem d0 : decode yB 0 = .ok (.aload_n 0, 1) := by decide +kernel
theorem d1 : decode yB 1 = .ok (.invokespecial 1, 3) := by decide +kernel
theorem d4 : decode yB 4 = .ok (.iload_n 3, 1) := by decide +kernel
theorem d5 : decode yB 5 = .ok (.ifCond (.ne) 22, 3) := by decide +kernel
theorem d27 : decode yB 27 = .ok (.getstatic 38, 3) := by decide +kernel
theorem d30 : decode yB 30 = .ok (.ifCond (.eq) 28, 3) := by decide +kernel
theorem d33 : decode yB 33 = .ok (.aload_n 1, 1) := by decide +kernel
theorem d34 : decode yB 34 = .ok (.iload_n 2, 1) := by decide +kernel
theorem d35 : decode yB 35 = .ok (.iload_n 3, 1) := by decide +kernel
theorem d36 : decode yB 36 = .ok (.invokestatic 177, 3) := by decide +kernel
theorem d39 : decode yB 39 = .ok (.astore 5, 2) := by decide +kernel
theorem d41 : decode yB 41 = .ok (.aload_n 0, 1) := by decide +kernel
theorem d42 : decode yB 42 = .ok (.aload 5, 2) := by decide +kernel
theorem d44 : decode yB 44 = .ok (.iload_n 3, 1) := by decide +kernel
theorem d45 : decode yB 45 = .ok (.invokestatic 47, 3) := by decide +kernel
theorem d48 : decode yB 48 = .ok (.putfield 15, 3) := by decide +kernel
theorem d51 : decode yB 51 = .ok (.aload_n 0, 1) := by decide +kernel
theorem d52 : decode yB 52 = .ok (.aload 5, 2) := by decide +kernel
theorem d54 : decode yB 54 = .ok (.putfield 9, 3) := by decide +kernel
theorem d57 : decode yB 57 = .ok (.return_, 1) := by decide +kernel
def site : List Cond := [.fieldLink "java/lang/String" 38 "java/lang/String" "COMPACT_STRINGS" "Z", Cmp3.tab, CodL.tab, .laysFinal "java/lang/String" "java/lang/String" "value" "[B", .fieldLink "java/lang/String" 9 "java/lang/String" "value" "[B", .laysFinal "java/lang/String" "java/lang/String" "coder" "B", .fieldLink "java/lang/String" 15 "java/lang/String" "coder" "B"] ++ objW "java/lang/String" 1 ++ staticW "java/lang/String" 177 Cmp3.yN ++ staticW "java/lang/String" 47 CodL.yN
def tab : Cond := tabOf yN yB 6 none site
def P (a : Addr) (D : Cell) (fV fC : Field) (b : Addr) (A : Cell) (z : Int32) (o len : Nat) (args : Array Value) (s : State) : Prop := args = #[.ref a, .ref b, .int (Int32.ofNat o), .int (Int32.ofNat len), .null] ∧ Blank "java/lang/String" a D s ∧ Found "java/lang/String" "value" "[B" fV s ∧ Found "java/lang/String" "coder" "B" fC s ∧ Ch b A s ∧ StaticIs s "java/lang/String" "COMPACT_STRINGS" "Z" (.int z) ∧ ¬ z = 0 ∧ 0 < len ∧ o + len ≤ A.slots.size ∧ len ≤ 536870912 ∧ ∀ i, i < len → ¬ 255 < cv A (o + i)
def E (a : Addr) (D : Cell) (fV fC : Field) (A : Cell) (o len : Nat) (r : Option Value) (s u : State) : Prop := Got a D fV fC A o len r s u
/-- len > 0, no char of the range above 255: a Latin-1 String of their low bytes -/
theorem law (l : Launch) (a : Addr) (D : Cell) (fV fC : Field) (b : Addr) (A : Cell) (z : Int32) (o len : Nat) : Law l yN 5 4 2 35 yB 6 none site (P a D fV fC b A z o len) (E a D fV fC A o len) [⟨a, fC.slot⟩, ⟨a, fV.slot⟩] 1 len := by
  refine Law.of_walk (plainFor_of_name (by decide +kernel)) (by decide +kernel) (by decide +kernel) (by decide) (fun _ _ h => by rw [h.1]; rfl) (fun _ U U' hal hh h => ⟨h.1, h.2.1.mv hal hh, h.2.2.1.al hal, h.2.2.2.1.al hal, h.2.2.2.2.1.mv hal hh, h.2.2.2.2.2.1.there hal hh, h.2.2.2.2.2.2⟩) (fun r U U' V V' h1 hal h2 h => Got.mv r U U' V V' h1 hal h2 h) ?_
  intro p e s m args below meth c s₁ X0 hexec hbytes hml hret hlk hnm hown hh0 W hP
  obtain ⟨rfl, hB, f1, f2, hA, s1, hz, l0, l1, l2, hp⟩ := hP
  have a31 := hA.1.2.2.2
  have c1 : Steps p.tables e below (s₁.setTop (entryFrame m #[.ref a, .ref b, .int (Int32.ofNat o), .int (Int32.ofNat len), .null] 6)) (s₁.setTop (mkF m 0 #[.val (.ref a), .val (.ref b), .val (.int (Int32.ofNat o)), .val (.int (Int32.ofNat len)), .val .null, .unset] [])) := entry rfl
  have c2 : Steps p.tables e below (s₁.setTop (entryFrame m #[.ref a, .ref b, .int (Int32.ofNat o), .int (Int32.ofNat len), .null] 6)) (s₁.setTop (mkF m 1 #[.val (.ref a), .val (.ref b), .val (.int (Int32.ofNat o)), .val (.int (Int32.ofNat len)), .val .null, .unset] [.ref a])) := c1.trans (by
    refine XS.aloadN X0.here hexec rfl (hb hbytes d0) rfl rfl ?_
    exact Steps.refl _)
  obtain ⟨T3, X3, q3, st3⟩ := X0.oinit hexec hown (wks W (objW "java/lang/String" 1)) (g := (mkF m 1 #[.val (.ref a), .val (.ref b), .val (.int (Int32.ofNat o)), .val (.int (Int32.ofNat len)), .val .null, .unset] [.ref a])) rfl (by rw [hml]; rfl) (rest := []) rfl (hb hbytes d1) (W := 0) (by show 2 * 0 + 0 ≤ _; decide) (Nat.le_of_ble_eq_true rfl) (Nat.le_of_ble_eq_true rfl)
  have hh3 := q3.trans hh0
  have c4 : Steps p.tables e below (s₁.setTop (entryFrame m #[.ref a, .ref b, .int (Int32.ofNat o), .int (Int32.ofNat len), .null] 6)) (T3.setTop (mkF m 27 #[.val (.ref a), .val (.ref b), .val (.int (Int32.ofNat o)), .val (.int (Int32.ofNat len)), .val .null, .unset] [])) := (c2.trans (st3 _ (Steps.refl _))).trans (by
    refine XS.iloadN X3.here hexec rfl (hb hbytes d4) rfl ?_
    refine XS.ifYes X3.here hexec rfl (pc0 := 5) rfl (hb hbytes d5) rfl (i0_ne_t (nz32 (by omega) l0)) (by decide) rfl ?_
    exact Steps.refl _)
  obtain ⟨T5, X5, q5, st5⟩ := X3.sget hexec hown (wk W (.fieldLink "java/lang/String" 38 "java/lang/String" "COMPACT_STRINGS" "Z")) s1 (fun _ _ h => by rw [hh3]; exact h) (g := (mkF m 27 #[.val (.ref a), .val (.ref b), .val (.int (Int32.ofNat o)), .val (.int (Int32.ofNat len)), .val .null, .unset] [])) rfl (hb hbytes d27)
  have hh5 := q5.trans hh3
  have c6 : Steps p.tables e below (s₁.setTop (entryFrame m #[.ref a, .ref b, .int (Int32.ofNat o), .int (Int32.ofNat len), .null] 6)) (T5.setTop (mkF m 30 #[.val (.ref a), .val (.ref b), .val (.int (Int32.ofNat o)), .val (.int (Int32.ofNat len)), .val .null, .unset] [.int z])) := c4.trans (st5 _ (Steps.refl _))
  have c7 : Steps p.tables e below (s₁.setTop (entryFrame m #[.ref a, .ref b, .int (Int32.ofNat o), .int (Int32.ofNat len), .null] 6)) (T5.setTop (mkF m 36 #[.val (.ref a), .val (.ref b), .val (.int (Int32.ofNat o)), .val (.int (Int32.ofNat len)), .val .null, .unset] [.int (Int32.ofNat len), .int (Int32.ofNat o), .ref b])) := c6.trans (by
    refine XS.ifNo X5.here hexec rfl (hb hbytes d30) rfl (i0_eq_f hz) ?_
    refine XS.aloadN X5.here hexec rfl (hb hbytes d33) rfl rfl ?_
    refine XS.iloadN X5.here hexec rfl (hb hbytes d34) rfl ?_
    refine XS.iloadN X5.here hexec rfl (hb hbytes d35) rfl ?_
    exact Steps.refl _)
  obtain ⟨v8, T8, X8, E8, g8⟩ := X5.callS hexec (Cmp3.law l b A o len) hown (wks W (staticW "java/lang/String" 177 Cmp3.yN)) (wk W Cmp3.tab) (W := 0) (Nat.le_of_ble_eq_true rfl) (Nat.le_of_ble_eq_true rfl) (Nat.le_refl _) (by show 0 + len ≤ len; omega) (g := (mkF m 36 #[.val (.ref a), .val (.ref b), .val (.int (Int32.ofNat o)), .val (.int (Int32.ofNat len)), .val .null, .unset] [.int (Int32.ofNat len), .int (Int32.ofNat o), .ref b])) rfl (by rw [hml]; rfl) c7 (argsL := [.ref b, .int (Int32.ofNat o), .int (Int32.ofNat len)]) (rest := []) rfl rfl (by show 2 * 0 + 0 ≤ _; decide) (hb hbytes d36) (⟨rfl, hA.mv X5.warmed.alike hh5, l1, l2, hp⟩)
  obtain ⟨e8, z8⟩ := E8
  obtain ⟨rfl, N, n1, n2, n3, n4, n5, n6⟩ := NewArr.mv _ T5 s _ _ hh5.symm (Vm.Alike.refl _) rfl e8
  rw [hh5] at z8
  have hB1 := hB.keep X8.warmed.alike (n6 _ _ hB.1)
  have hne : s.heap.size ≠ a := (Nat.ne_of_lt (Array.getElem?_eq_some_iff.mp hB.1).1).symm
  have c9 : Steps p.tables e below (s₁.setTop (entryFrame m #[.ref a, .ref b, .int (Int32.ofNat o), .int (Int32.ofNat len), .null] 6)) (T8.setTop (mkF m 39 #[.val (.ref a), .val (.ref b), .val (.int (Int32.ofNat o)), .val (.int (Int32.ofNat len)), .val .null, .unset] [.ref s.heap.size])) := g8
  have c10 : Steps p.tables e below (s₁.setTop (entryFrame m #[.ref a, .ref b, .int (Int32.ofNat o), .int (Int32.ofNat len), .null] 6)) (T8.setTop (mkF m 45 #[.val (.ref a), .val (.ref b), .val (.int (Int32.ofNat o)), .val (.int (Int32.ofNat len)), .val .null, .val (.ref s.heap.size)] [.int (Int32.ofNat N.slots.size), .ref s.heap.size, .ref a])) := by
    have hc : Steps p.tables e below (s₁.setTop (entryFrame m #[.ref a, .ref b, .int (Int32.ofNat o), .int (Int32.ofNat len), .null] 6)) (T8.setTop (mkF m 45 #[.val (.ref a), .val (.ref b), .val (.int (Int32.ofNat o)), .val (.int (Int32.ofNat len)), .val .null, .val (.ref s.heap.size)] [.int (Int32.ofNat len), .ref s.heap.size, .ref a])) := c9.trans (by
      refine XS.astore X8.here hexec rfl (hb hbytes d39) rfl rfl rfl ?_
      refine XS.aloadN X8.here hexec rfl (hb hbytes d41) rfl rfl ?_
      refine XS.aload X8.here hexec rfl (hb hbytes d42) rfl rfl ?_
      refine XS.iloadN X8.here hexec rfl (hb hbytes d44) rfl ?_
      exact Steps.refl _)
    rw [n4]; exact hc
  obtain ⟨v11, T11, X11, E11, g11⟩ := X8.callS hexec (CodL.law l s.heap.size N) hown (wks W (staticW "java/lang/String" 47 CodL.yN)) (wk W CodL.tab) (W := 1) (Nat.le_of_ble_eq_true rfl) (Nat.le_of_ble_eq_true rfl) (Nat.le_refl _) (by show 0 + len + 0 ≤ len; omega) (g := (mkF m 45 #[.val (.ref a), .val (.ref b), .val (.int (Int32.ofNat o)), .val (.int (Int32.ofNat len)), .val .null, .val (.ref s.heap.size)] [.int (Int32.ofNat N.slots.size), .ref s.heap.size, .ref a])) rfl (by rw [hml]; rfl) c10 (argsL := [.ref s.heap.size, .int (Int32.ofNat N.slots.size)]) (rest := [.ref a]) rfl rfl (by show 2 * 0 + (1 + 0) ≤ _; decide) (hb hbytes d45) (⟨rfl, n1⟩)
  obtain ⟨rfl, q11⟩ := E11
  have hB11 := hB1.mv (X8.warmed.alike.symm.trans X11.warmed.alike) q11
  have c12 : Steps p.tables e below (s₁.setTop (entryFrame m #[.ref a, .ref b, .int (Int32.ofNat o), .int (Int32.ofNat len), .null] 6)) (T11.setTop (mkF m 48 #[.val (.ref a), .val (.ref b), .val (.int (Int32.ofNat o)), .val (.int (Int32.ofNat len)), .val .null, .val (.ref s.heap.size)] [.int 0, .ref a])) := g11
  obtain ⟨T13, X13, p13, bl13, sl13, st13⟩ := X11.finit hexec hown (wk W (.fieldLink "java/lang/String" 15 "java/lang/String" "coder" "B")) (Or.inr ⟨_, (wk W (.laysFinal "java/lang/String" "java/lang/String" "coder" "B"))⟩) (Or.inl ⟨rfl, hnm⟩) f2 (Or.inl rfl) hB11 (t := .byte) (by decide +kernel) rfl (g := (mkF m 48 #[.val (.ref a), .val (.ref b), .val (.int (Int32.ofNat o)), .val (.int (Int32.ofNat len)), .val .null, .val (.ref s.heap.size)] [.int 0, .ref a])) rfl (rest := []) rfl (hb hbytes d48)
  have c14 : Steps p.tables e below (s₁.setTop (entryFrame m #[.ref a, .ref b, .int (Int32.ofNat o), .int (Int32.ofNat len), .null] 6)) (T13.setTop (mkF m 54 #[.val (.ref a), .val (.ref b), .val (.int (Int32.ofNat o)), .val (.int (Int32.ofNat len)), .val .null, .val (.ref s.heap.size)] [.ref s.heap.size, .ref a])) := (c12.trans (st13 _ (Steps.refl _))).trans (by
    refine XS.aloadN X13.here hexec rfl (hb hbytes d51) rfl rfl ?_
    refine XS.aload X13.here hexec rfl (hb hbytes d52) rfl rfl ?_
    exact Steps.refl _)
  obtain ⟨T15, X15, p15, bl15, sl15, st15⟩ := X13.finit hexec hown (wk W (.fieldLink "java/lang/String" 9 "java/lang/String" "value" "[B")) (Or.inr ⟨_, (wk W (.laysFinal "java/lang/String" "java/lang/String" "value" "[B"))⟩) (Or.inl ⟨rfl, hnm⟩) f1 (Or.inl rfl) bl13 (t := (.array .byte)) (by decide +kernel) rfl (g := (mkF m 54 #[.val (.ref a), .val (.ref b), .val (.int (Int32.ofNat o)), .val (.int (Int32.ofNat len)), .val .null, .val (.ref s.heap.size)] [.ref s.heap.size, .ref a])) rfl (rest := []) rfl (hb hbytes d54)
  have c16 : Steps p.tables e below (s₁.setTop (entryFrame m #[.ref a, .ref b, .int (Int32.ofNat o), .int (Int32.ofNat len), .null] 6)) (T15.setTop (mkF m 57 #[.val (.ref a), .val (.ref b), .val (.int (Int32.ofNat o)), .val (.int (Int32.ofNat len)), .val .null, .val (.ref s.heap.size)] [])) := c14.trans (st15 _ (Steps.refl _))
  have ap := apart (Or.inr ⟨_, (wk W (.laysFinal "java/lang/String" "java/lang/String" "value" "[B"))⟩) (Or.inr ⟨_, (wk W (.laysFinal "java/lang/String" "java/lang/String" "coder" "B"))⟩) f1 f2 (t₁ := .array .byte) (t₂ := .byte) (by decide +kernel) (by decide +kernel) (by decide)
  have al := X8.warmed.alike.symm.trans X15.warmed.alike
  have n7 : T11.heap[s.heap.size]? = some N := by rw [q11]; exact n1.1
  exact ⟨T15, none, _, _, _, X15, by simp, rfl, by omega, (fun _ => rfl), ⟨rfl, _, N, bl15, ((Same.refl D _).set _ (by simp)).set _ (by simp), sl15, (Cell.slots_setSlot_ne _ ap).trans sl13, n1.keep al (p15.other hne (p13.other hne n7)), n2, by rw [al.findClass]; exact n3, n4, n5, fun y c h1 h2 => p15.other h1 (p13.other h1 (by rw [q11]; exact n6 y c h2)), by rw [p15.2.2, p13.2.2, q11]; exact z8⟩, fun fs hl => c16.trans (X15.returnOut hexec hret (hb hbytes d57) hl)⟩
end New4
namespace New1
def yN : MethodName := ⟨"java/lang/String", "<init>", "([C)V"⟩
abbrev yB : ByteArray := jdk_42_method_3_code
theorem d0 : decode yB 0 = .ok (.aload_n 0, 1) := by decide +kernel
theorem d1 : decode yB 1 = .ok (.aload_n 1, 1) := by decide +kernel
theorem d2 : decode yB 2 = .ok (.iconst 0, 1) := by decide +kernel
theorem d3 : decode yB 3 = .ok (.aload_n 1, 1) := by decide +kernel
theorem d4 : decode yB 4 = .ok (.arraylength, 1) := by decide +kernel
theorem d5 : decode yB 5 = .ok (.aconst_null, 1) := by decide +kernel
theorem d6 : decode yB 6 = .ok (.invokespecial 27, 3) := by decide +kernel
theorem d9 : decode yB 9 = .ok (.return_, 1) := by decide +kernel
def site : List Cond := [New4.tab] ++ initW "java/lang/String" 27 New4.yN
def tab : Cond := tabOf yN yB 2 none site
def P (a : Addr) (D : Cell) (fV fC : Field) (b : Addr) (A : Cell) (z : Int32) (args : Array Value) (s : State) : Prop := args = #[.ref a, .ref b] ∧ Blank "java/lang/String" a D s ∧ Found "java/lang/String" "value" "[B" fV s ∧ Found "java/lang/String" "coder" "B" fC s ∧ Ch b A s ∧ StaticIs s "java/lang/String" "COMPACT_STRINGS" "Z" (.int z) ∧ ¬ z = 0 ∧ 0 < A.slots.size ∧ A.slots.size ≤ 536870912 ∧ ∀ i, i < A.slots.size → ¬ 255 < cv A i
def E (a : Addr) (D : Cell) (fV fC : Field) (A : Cell) (r : Option Value) (s u : State) : Prop := Got a D fV fC A 0 A.slots.size r s u
/-- new String(chars), not empty, no char above 255: a Latin-1 String of their low bytes -/
theorem law (l : Launch) (a : Addr) (D : Cell) (fV fC : Field) (b : Addr) (A : Cell) (z : Int32) : Law l yN 2 1 3 52 yB 2 none site (P a D fV fC b A z) (E a D fV fC A) [⟨a, fC.slot⟩, ⟨a, fV.slot⟩] 1 A.slots.size := by
  refine Law.of_walk (plainFor_of_name (by decide +kernel)) (by decide +kernel) (by decide +kernel) (by decide) (fun _ _ h => by rw [h.1]; rfl) (fun _ U U' hal hh h => ⟨h.1, h.2.1.mv hal hh, h.2.2.1.al hal, h.2.2.2.1.al hal, h.2.2.2.2.1.mv hal hh, h.2.2.2.2.2.1.there hal hh, h.2.2.2.2.2.2⟩) (fun r U U' V V' h1 hal h2 h => Got.mv r U U' V V' h1 hal h2 h) ?_
  intro p e s m args below meth c s₁ X0 hexec hbytes hml hret hlk hnm hown hh0 W hP
  obtain ⟨rfl, hB, f1, f2, hA, s1, hz, l0, l2, hp⟩ := hP
  have c1 : Steps p.tables e below (s₁.setTop (entryFrame m #[.ref a, .ref b] 2)) (s₁.setTop (mkF m 0 #[.val (.ref a), .val (.ref b)] [])) := entry rfl
  have c2 : Steps p.tables e below (s₁.setTop (entryFrame m #[.ref a, .ref b] 2)) (s₁.setTop (mkF m 6 #[.val (.ref a), .val (.ref b)] [.null, .int (Int32.ofNat A.slots.size), .int 0, .ref b, .ref a])) := c1.trans (by
    refine XS.aloadN X0.here hexec rfl (hb hbytes d0) rfl rfl ?_
    refine XS.aloadN X0.here hexec rfl (hb hbytes d1) rfl rfl ?_
    refine iconstV X0.here hexec rfl 0 (hb hbytes d2) (by decide) ?_
    refine XS.aloadN X0.here hexec rfl (hb hbytes d3) rfl rfl ?_
    refine X0.alen hexec (hA.1.mv X0.warmed.alike hh0) rfl rfl (hb hbytes d4) ?_
    refine XS.aconstNull X0.here hexec rfl (hb hbytes d5) ?_
    exact Steps.refl _)
  obtain ⟨v3, T3, X3, E3, g3⟩ := X0.callN hexec (New4.law l a D fV fC b A z 0 A.slots.size) rfl hown (wks W (initW "java/lang/String" 27 New4.yN)) (W New4.tab (by simp only [site, List.mem_cons, List.mem_append, true_or, or_true])) (W := 0) (Nat.le_of_ble_eq_true rfl) (Nat.le_of_ble_eq_true rfl) (Nat.le_refl _) (by show 0 + A.slots.size ≤ A.slots.size; omega) (g := (mkF m 6 #[.val (.ref a), .val (.ref b)] [.null, .int (Int32.ofNat A.slots.size), .int (Int32.ofNat 0), .ref b, .ref a])) rfl (by rw [hml]; rfl) c2 (argsL := [.ref b, .int (Int32.ofNat 0), .int (Int32.ofNat A.slots.size), .null]) (rest := []) rfl rfl (by show 2 * 0 + 0 ≤ _; decide) (hb hbytes d6) (⟨rfl, hB.mv X0.warmed.alike hh0, f1.al X0.warmed.alike, f2.al X0.warmed.alike, hA.mv X0.warmed.alike hh0, s1.there X0.warmed.alike hh0, hz, l0, by omega, l2, fun i hi => by rw [Nat.zero_add]; exact hp i hi⟩)
  have e0 := Got.mv _ s₁ s _ _ hh0.symm (Vm.Alike.refl _) rfl E3
  obtain rfl := e0.1
  have c4 : Steps p.tables e below (s₁.setTop (entryFrame m #[.ref a, .ref b] 2)) (T3.setTop (mkF m 9 #[.val (.ref a), .val (.ref b)] [])) := g3
  exact ⟨T3, none, _, _, _, X3, by simp, rfl, by omega, (fun _ => rfl), e0, fun fs hl => c4.trans (X3.returnOut hexec hret (hb hbytes d9) hl)⟩
theorem pays {l : Launch} {R : Room} {p : Program} {e : Env} {below : List Frame} {s : State} {sargs : Array Value} {len W : Nat} (a : Addr) (D : Cell) (fV fC : Field) (b : Addr) (A : Cell) (z : Int32) (htab : tab.before sargs s = true) (hfr : 4 ≤ R.frames) (hlo : W + 65 ≤ R.locals) :
    Back l R p e below s sargs yN len W (fun A₁ a₁ => A₁.cells + 1 ≤ R.cells ∧ A₁.slots + A.slots.size ≤ R.slots ∧ P a D fV fC b A z a₁ A₁.U) (fun A₁ _ v₁ B₁ => E a D fV fC A v₁ A₁.U B₁.U ∧ B₁.locs = A₁.locs ++ [⟨a, fC.slot⟩, ⟨a, fV.slot⟩] ∧ B₁.cells = A₁.cells + 1 ∧ B₁.slots = A₁.slots + A.slots.size) :=
  (law l a D fV fC b A z).pays htab hfr (by omega)
end New1
/-- the byte, read back as charAt reads it, is the char -/
theorem lo8_mask {x : Int32} (h0 : ¬ x < 0) (h1 : ¬ 255 < x) : lo8 x &&& 255 = x := by
  have t : ∀ k : Fin 256, lo8 (Int32.ofNat k.val) &&& 255 = Int32.ofNat k.val := by decide +kernel
  rw [Int32.lt_iff_toInt_lt] at h0 h1
  have e0 : (0 : Int32).toInt = 0 := rfl
  have e1 : (255 : Int32).toInt = 255 := rfl
  obtain ⟨k, hk⟩ : ∃ k : Nat, x.toInt = k := ⟨x.toInt.toNat, by omega⟩
  have hx : x = Int32.ofNat k := Int32.toInt_inj.mp (by rw [hk, Int32.toInt_ofNat_small (by omega)])
  rw [hx]
  exact t ⟨k, by omega⟩
end StrChars
namespace StrChars.Road
open Jvm Sem ClassFile Op Lib Jvm.Stand Jvm.Free Jvm.Free.XT
open Jvm.Lib.Cold (StaticIs)
abbrev ST : String := "java/lang/String"
/-- every table word that New1's law asks, flat -/
abbrev words : List Jvm.Cond := [.code New1.yN New1.yB 2 none, .initialized ST, .methodLink ST 27 New4.yN, .instanceMethod New4.yN,
  .code New4.yN New4.yB 6 none, .fieldLink ST 38 ST "COMPACT_STRINGS" "Z", .laysFinal ST ST "value" "[B", .fieldLink ST 9 ST "value" "[B", .laysFinal ST ST "coder" "B", .fieldLink ST 15 ST "coder" "B",
  .methodLink ST 1 Lib.objectInit, .instanceMethod Lib.objectInit, .code Lib.objectInit ⟨#[0xb1]⟩ 1 none, .methodLink ST 177 Cmp3.yN, .static Cmp3.yN, .methodLink ST 47 CodL.yN, .static CodL.yN,
  .code Cmp3.yN Cmp3.yB 6 (some (.array .byte)), .initialized U16, .arrayClass .byte, .methodLink U16 115 Cmp5.yN, .static Cmp5.yN, .code Cmp5.yN Cmp5.yB 7 (some .int), .code CodL.yN CodL.yB 2 (some .byte)]
theorem tab_of {a : Array Value} {s : State} (h : ∀ w ∈ words, w.before a s = true) : New1.tab.before a s = true := by
  have h5 : Cmp5.tab.before a s = true := unparts (wk h (.code Cmp5.yN Cmp5.yB 7 (some .int))) (wks h (.initialized Cmp5.yN.cls :: Cmp5.site))
  have hc : CodL.tab.before a s = true := unparts (wk h (.code CodL.yN CodL.yB 2 (some .byte))) (wks h (.initialized CodL.yN.cls :: CodL.site))
  have q5 : ∀ w ∈ Cmp5.tab :: words, w.before a s = true := fun w hw => (List.mem_cons.mp hw).elim (fun e => e ▸ h5) (h w)
  have h3 : Cmp3.tab.before a s = true := unparts (wk q5 (.code Cmp3.yN Cmp3.yB 6 (some (.array .byte)))) (wks q5 (.initialized Cmp3.yN.cls :: Cmp3.site))
  have q3 : ∀ w ∈ Cmp3.tab :: CodL.tab :: words, w.before a s = true := fun w hw => (List.mem_cons.mp hw).elim (fun e => e ▸ h3) fun hw => (List.mem_cons.mp hw).elim (fun e => e ▸ hc) (h w)
  have h4 : New4.tab.before a s = true := unparts (wk q3 (.code New4.yN New4.yB 6 none)) (wks q3 (.initialized New4.yN.cls :: New4.site))
  have q4 : ∀ w ∈ New4.tab :: words, w.before a s = true := fun w hw => (List.mem_cons.mp hw).elim (fun e => e ▸ h4) (h w)
  exact unparts (wk q4 (.code New1.yN New1.yB 2 none)) (wks q4 (.initialized New1.yN.cls :: New1.site))
/-- the words ride from the start Z to the walk's own state -/
theorem moved {Z s : State} {a0 args : Array Value} (hZ : Z.Warmed39 s.vm) (hw : ∀ d ∈ words, d.before a0 Z = true) : ∀ d ∈ words, d.before args s = true := fun d hd => by
  have q := hw d hd
  have t : ∀ d ∈ words, d = .arrayClass .byte ∨ (d.onTables && d.keepsFace) = true := by decide +kernel
  rcases t d hd with rfl | t
  · exact RoadKit.mvA hZ q
  · exact RoadKit.mv hZ q t
/-- WHAT COMES BACK, over the tables of the start Z: h the heap at the call, h' behind it -/
def Q (Z : State) (x : Addr) (A : Cell) (h : Heap) (v : Option Value) (h' : Heap) (L : List Loc) : Prop := v = none ∧ (∀ y ∈ L, y.base = x) ∧ RoadKit.Keep h h' [x] ∧ h'.size = h.size + 1 ∧ RoadKit.Exa Z h' x ST ∧ RoadKit.Fld Z h' x ST "value" "[B" (.ref h.size) ∧ RoadKit.Fld Z h' x ST "coder" "B" (.int 0) ∧
  (∃ V : Cell, RoadKit.Arr Z h' h.size V .byte ∧ V.vm = .none ∧ Z.vm.findClass "[B" = some V.cls ∧ V.slots.size = A.slots.size ∧ ∀ j, j < A.slots.size → V.slots[j]? = some (.int (lo8 (cv A j)))) ∧
  ∀ (O n d : String) (w : Value), RoadKit.Fld Z h x O n d w → RoadKit.slotOf Z O n d ≠ RoadKit.slotOf Z ST "value" "[B" → RoadKit.slotOf Z O n d ≠ RoadKit.slotOf Z ST "coder" "B" → RoadKit.Fld Z h' x O n d w
/-- **new String(chars) AT A CALL, IN THE ROAD'S FORM**: for specialBack behind newO: x the fresh String, b the char[] with the cell A -/
theorem back {p : Program} {l : Launch} {e : Env} {R : Room} {s : State} {args : Array Value} {below : List Frame} {len W : Nat} {Z : State} {a0 : Array Value} {h : Heap} (hZ : Z.Warmed39 s.vm) (hw : ∀ d ∈ words, d.before a0 Z = true) {kI : Nat} (wi : (Jvm.Cond.instantiable ST kI).before a0 Z = true)
    {x b : Addr} {A : Cell} {z : Int32} {v0 c0 : Value} (E : RoadKit.Exa Z h x ST) (V : RoadKit.Fld Z h x ST "value" "[B" v0) (C : RoadKit.Fld Z h x ST "coder" "B" c0) (K : RoadKit.Arr Z h b A .char) (hty : Typed .char A) (S : RoadKit.Sta Z h ST "COMPACT_STRINGS" "Z" (.int z)) (hz : ¬ z = 0)
    (l0 : 0 < A.slots.size) (l2 : A.slots.size ≤ 536870912) (hp : ∀ i, i < A.slots.size → ¬ 255 < cv A i) (hfr : 4 ≤ R.frames) (hlo : W + 65 ≤ R.locals) :
    Back l R p e below s args New1.yN len W (fun P a => a = #[.ref x, .ref b] ∧ P.U.heap = h ∧ P.cells + 1 ≤ R.cells ∧ P.slots + A.slots.size ≤ R.slots)
      (fun P _ v B => ∃ L, Q Z x A h v B.U.heap L ∧ B.locs = P.locs ++ L ∧ B.cells = P.cells + 1 ∧ B.slots = P.slots + A.slots.size) := by
  intro m meth c P g ig mk a X hg hsize hdg hW hn hp'
  obtain ⟨rfl, rfl, r1, r2⟩ := hp'
  have al : Z.vm.Alike P.U.vm := hZ.alike.trans X.warmed.alike
  obtain ⟨D, cfV, kV, iV, fV, hD, gV, stV, knV, obV, asV, slV⟩ := id V
  obtain ⟨D', cfC, kC, iC, fC, hD', gC, stC, -, -, asC, slC⟩ := id C
  cases hD.symm.trans hD'
  obtain ⟨D2, kD, e1, e2, e3, e4, e5⟩ := id E
  cases hD.symm.trans e1
  obtain ⟨c2, k2, i1, i2, i3, -⟩ := Cond.instantiable_spec wi
  cases e2.symm.trans i1
  cases e3.symm.trans i2
  obtain ⟨kU, u1, u2⟩ := al.2.2 _ _ e3
  have hB : Blank ST x D P.U := ⟨hD, ⟨knV, fun q hq => by rw [hq] at obV; cases obV⟩, by rw [al.findClass]; exact e2, kU, u1, by rw [u2]; exact i3, by rw [u2]; exact e5 i3⟩
  have F1 : Found ST "value" "[B" fV P.U := ⟨SBG.found_only al ⟨cfV, kV, iV, gV⟩, stV⟩
  have F2 : Found ST "coder" "B" fC P.U := ⟨SBG.found_only al ⟨cfC, kC, iC, gC⟩, stC⟩
  have hA : Ch b A P.U := ⟨⟨K.1, State.isArrayOf_alike al K.2.1, K.2.2, by omega⟩, hty⟩
  have hS : StaticIs P.U ST "COMPACT_STRINGS" "Z" (.int z) := by
    obtain ⟨cfS, iS, kS, fS, st, cS, t1, t2, t3, t4, t5, t6, t7⟩ := S
    exact StaticIs.there (s := { Z with heap := P.U.heap }) ⟨cfS, iS, kS, fS, st, cS, t1, t2, t3, t4, t5, (fun q => by rw [q] at t6; cases t6), t7⟩ al rfl
  obtain ⟨v, B, X', ⟨⟨hv, E', V', q1, q2, q3, q4, q5, q6, q7, q8, q9, q10, q11⟩, hl, hc, hs⟩, st⟩ := New1.pays x D fV fC b A z (tab_of (moved hZ hw)) hfr hlo m meth c P g ig mk _ X hg hsize hdg hW hn ⟨r1, r2, rfl, hB, F1, F2, hA, hS, hz, l0, l2, hp⟩
  have al' : Z.vm.Alike B.U.vm := hZ.alike.trans X'.warmed.alike
  have hsz : E'.slots.size = D.slots.size := by
    obtain ⟨-, -, -, kB, w1, w2, w3⟩ := q1
    obtain ⟨kB', y1, y2⟩ := al'.2.2 _ _ e3
    rw [q2.2.1] at w1
    cases w1.symm.trans y1
    rw [w3, e5 i3, y2]
  refine ⟨v, B, X', ⟨_, ⟨hv, ?_, ⟨by omega, fun y cy hy hn' => q10 y cy (by simpa using hn') hy, fun y cy hy => ?_⟩, q11, ⟨E', _, q1.1, by rw [q2.2.1]; exact e2, by rw [q2.2.1]; exact e3, by rw [q2.1]; exact obV, fun _ => by rw [hsz]; exact e5 i3⟩,
    ⟨E', cfV, kV, iV, fV, q1.1, gV, stV, by rw [q2.1]; exact knV, by rw [q2.1]; exact obV, by rw [q2.2.1]; exact asV, q3⟩, ⟨E', cfC, kC, iC, fC, q1.1, gC, stC, by rw [q2.1]; exact knV, by rw [q2.1]; exact obV, by rw [q2.2.1]; exact asC, q4⟩,
    ⟨V', ⟨q5.1, State.isArrayOf_alike al'.symm q5.2.1, q5.2.2.1⟩, q6, by rw [← al'.findClass]; exact q7, q8, fun j hj => by have := q9 j hj; rwa [Nat.zero_add] at this⟩, fun O n d w F n1 n2 => ?_⟩, hl, hc, hs⟩, st⟩
  · intro y hy
    simp only [List.mem_cons, List.not_mem_nil, or_false] at hy
    rcases hy with rfl | rfl <;> rfl
  · by_cases q : y = x
    · subst q
      cases hD.symm.trans hy
      exact ⟨E', q1.1, q2.2.1, q2.1, hsz⟩
    · exact ⟨cy, q10 y cy q hy, rfl, rfl, rfl⟩
  · obtain ⟨D3, cf, k, i, f, g1, g2, g3, g4, g5, g6, g7⟩ := F
    cases hD.symm.trans g1
    simp only [RoadKit.slotOf, g2, gV, gC, Option.map_some, Option.getD_some] at n1 n2
    exact ⟨E', cf, k, i, f, q1.1, g2, g3, by rw [q2.1]; exact g4, by rw [q2.1]; exact g5, by rw [q2.2.1]; exact g6, by rw [q2.2.2 f.slot (by simp [n1, n2])]; exact g7⟩
end StrChars.Road
namespace StrChars.Road
open Jvm Sem ClassFile Op Lib Jvm.Stand Jvm.Free Jvm.Free.XT
/-- WHAT COMES BACK, the byte[] as a list of values -/
def QA (Z : State) (x : Addr) (zn : Int32) (cs : List Int32) (h : Heap) (v : Option Value) (h' : Heap) (L : List Loc) : Prop := v = none ∧ (∀ y ∈ L, y.base = x) ∧ RoadKit.Keep h h' [x] ∧ h'.size = h.size + 1 ∧ RoadKit.Exa Z h' x ST ∧ RoadKit.Fld Z h' x ST "value" "[B" (.ref h.size) ∧ RoadKit.Fld Z h' x ST "coder" "B" (.int 0) ∧
  (∃ kb, Z.vm.findClass "[B" = some kb ∧ RoadKit.Arv Z h' h.size kb .byte zn (cs.map fun c => .int (lo8 c)) (.int 0)) ∧
  ∀ (O n d : String) (w : Value), RoadKit.Fld Z h x O n d w → RoadKit.slotOf Z O n d ≠ RoadKit.slotOf Z ST "value" "[B" → RoadKit.slotOf Z O n d ≠ RoadKit.slotOf Z ST "coder" "B" → RoadKit.Fld Z h' x O n d w
/-- **new String(chars) AT A CALL, THE ARRAYS AS LISTS**: the char[] at b holds cs, not empty, no char above 255 -/
theorem backArv {p : Program} {l : Launch} {e : Env} {R : Room} {s : State} {args : Array Value} {below : List Frame} {len W : Nat} {Z : State} {a0 : Array Value} {h : Heap} (hZ : Z.Warmed39 s.vm) (hw : ∀ d ∈ words, d.before a0 Z = true) {kI : Nat} (wi : (Jvm.Cond.instantiable ST kI).before a0 Z = true)
    {x b : Addr} {k : ClassId} {zn z : Int32} {cs : List Int32} {dv v0 c0 : Value} (E : RoadKit.Exa Z h x ST) (V : RoadKit.Fld Z h x ST "value" "[B" v0) (C : RoadKit.Fld Z h x ST "coder" "B" c0) (K : RoadKit.Arv Z h b k .char zn (cs.map Value.int) dv) (S : RoadKit.Sta Z h ST "COMPACT_STRINGS" "Z" (.int z)) (hz : ¬ z = 0)
    (hlen : zn.toNatClampNeg = cs.length) (h0 : 0 < cs.length) (hbig : cs.length ≤ 536870912) (hall : ∀ c ∈ cs, ¬ 255 < c) (hfr : 4 ≤ R.frames) (hlo : W + 65 ≤ R.locals) :
    Back l R p e below s args New1.yN len W (fun P a => a = #[.ref x, .ref b] ∧ P.U.heap = h ∧ P.cells + 1 ≤ R.cells ∧ P.slots + cs.length ≤ R.slots)
      (fun P _ v B => ∃ L, QA Z x zn cs h v B.U.heap L ∧ B.locs = P.locs ++ L ∧ B.cells = P.cells + 1 ∧ B.slots = P.slots + cs.length) := by
  obtain ⟨A, K1, K2, K3, K4, K5, K6⟩ := K
  have e : A.slots.size = cs.length := K3.trans hlen
  have hat : ∀ (i : Nat) (hi : i < cs.length), A.slots[i]? = some (.int cs[i]) := fun i hi => by rw [K5 i (by omega)]; simp [List.getD_eq_getElem?_getD, hi]
  have hcv : ∀ (i : Nat) (hi : i < cs.length), cv A i = cs[i] := fun i hi => by unfold cv; rw [hat i hi]
  have hty : Typed .char A := fun i v hv => by
    have hi : i < A.slots.size := (Array.getElem?_eq_some_iff.mp hv).1
    have q := K5 i hi
    rw [hv] at q
    rw [Option.some.inj q]
    exact K6 i hi
  refine Back.mono (back hZ hw wi E V C K1 hty S hz (by omega) (by omega) (fun i hi => by rw [hcv i (by omega)]; exact hall _ (List.getElem_mem _)) hfr hlo) (fun P a hp => ⟨hp.1, hp.2.1, hp.2.2.1, by rw [e]; exact hp.2.2.2⟩) (fun P a v B hp hq => ?_)
  obtain ⟨L, ⟨q1, q2, q3, q4, q5, q6, q7, ⟨V', v1, v2, v3, v4, v5⟩, q9⟩, hl, hc, hs⟩ := hq
  refine ⟨L, ⟨q1, q2, q3, q4, q5, q6, q7, ⟨V'.cls, v3, V', v1, rfl, by rw [v4, e, hlen], K4, fun i hi => ?_, fun i hi => ?_⟩, q9⟩, hl, hc, by rw [hs, e]⟩
  · have hi' : i < cs.length := by omega
    rw [v5 i (by omega), hcv i hi']; simp [List.getD_eq_getElem?_getD, hi']
  · have hi' : i < cs.length := by omega
    simp only [List.getD_eq_getElem?_getD, List.getElem?_map, List.getElem?_eq_getElem hi', Option.map_some, Option.getD_some]
    exact fits_lo8 _
end StrChars.Road
namespace StrChars.Road
open Jvm Sem ClassFile Op Lib Jvm.Stand Jvm.Free Jvm.Free.XT
/-- WHAT COMES BACK, in the writer's own shape -/
def QV (Z : State) (x : Addr) (N : Int32) (bs : List Int32) (h : Heap) (n0 : Nat) (v : Option Value) (h' : Heap) (L : List Loc) : Prop := v = none ∧ RoadKit.Fr n0 L ∧ RoadKit.Keep h h' [x] ∧ RoadKit.Exa Z h' x ST ∧ RoadKit.Fld Z h' x ST "coder" "B" (.int 0) ∧
  ∃ (t : Addr) (kb : ClassId), n0 ≤ t ∧ h.size ≤ t ∧ ¬ t = x ∧ RoadKit.Fld Z h' x ST "value" "[B" (.ref t) ∧ RoadKit.Arv Z h' t kb .byte N (bs.map Value.int) (.int 0)
/-- **new String(chars) AT A CALL, FOR THE WRITER**: a char[] of n known ints, each 0 to 255 -/
theorem backV {p : Program} {l : Launch} {e : Env} {R : Room} {s : State} {args : Array Value} {below : List Frame} {len W : Nat} {Z : State} {a0 : Array Value} {h : Heap} (hZ : Z.Warmed39 s.vm) (hw : ∀ d ∈ words, d.before a0 Z = true) {kI : Nat} (wi : (Jvm.Cond.instantiable ST kI).before a0 Z = true)
    {x b : Addr} {kC : ClassId} {cs bs : List Int32} {d v0 c0 : Value} {z N : Int32} {n n0 : Nat} (hx0 : n0 ≤ x) (hh0 : n0 ≤ h.size) (E : RoadKit.Exa Z h x ST) (V : RoadKit.Fld Z h x ST "value" "[B" v0) (C : RoadKit.Fld Z h x ST "coder" "B" c0) (K : RoadKit.Arv Z h b kC .char N (cs.map Value.int) d) (S : RoadKit.Sta Z h ST "COMPACT_STRINGS" "Z" (.int z)) (hz : ¬ z = 0)
    (hn : cs.length = n) (hN : N = Int32.ofNat n) (l0 : 0 < n) (l2 : n ≤ 4000) (hp : ∀ c ∈ cs, ¬ c < 0 ∧ ¬ (255 : Int32) < c) (hb : bs = cs.map (fun c => c.toInt8.toInt32)) (hfr : 4 ≤ R.frames) (hlo : W + 65 ≤ R.locals) :
    Back l R p e below s args (⟨"java/lang/String", "<init>", "([C)V"⟩ : MethodName) len W (fun P a => a = #[.ref x, .ref b] ∧ P.U.heap = h ∧ P.cells + 1 ≤ R.cells ∧ P.slots + n ≤ R.slots)
      (fun P _ v B => ∃ L, QV Z x N bs h n0 v B.U.heap L ∧ B.locs = P.locs ++ L ∧ B.cells = P.cells + 1 ∧ B.slots = P.slots + n) := by
  subst hn hN hb
  refine Back.mono (backArv hZ hw wi E V C K S hz (n32 (by omega)) l0 (by omega) (fun c hc => (hp c hc).2) hfr hlo) (fun P a hp => hp) (fun P a v B hp hq => ?_)
  obtain ⟨L, ⟨q1, q2, q3, q4, q5, q6, q7, ⟨kb, v1, v2⟩, q9⟩, hl, hc, hs⟩ := hq
  exact ⟨L, ⟨q1, fun y hy => by rw [q2 y hy]; exact hx0, q3, q5, q7, h.size, kb, hh0, Nat.le_refl _, Nat.ne_of_gt E.lt, q6, by rw [List.map_map]; exact v2⟩, hl, hc, hs⟩
end StrChars.Road
namespace StrChars
open Jvm Sem ClassFile Op Lib Jvm.Stand Jvm.Free.XT Jvm.Free.ALB Jvm.Free.JM Jvm.Free
open Jvm.Lib.Cold (StaticIs)
def hi8 (x : Int32) : Int32 := lo8 (x >>> ((8 : Int32) &&& 31))
/-- what StringUTF16.getChar makes of two bytes -/
def pairCh (u v : Int32) : Int32 := (((u &&& 255) <<< ((0 : Int32) &&& 31)) ||| ((v &&& 255) <<< ((8 : Int32) &&& 31))).toUInt32.toUInt16.toUInt32.toInt32
theorem lo8_and (x : Int32) : (lo8 x &&& 255).toBitVec.toNat = x.toBitVec.toNat % 256 := by
  have h : (lo8 x).toBitVec = (x.toBitVec.signExtend 8).signExtend 32 := by rw [lo8, Int8.toBitVec_toInt32, Int32.toBitVec_toInt8]
  rw [Int32.toBitVec_and, BitVec.toNat_and, h]
  have e : ((x.toBitVec.signExtend 8).signExtend 32).toNat % 256 = x.toBitVec.toNat % 256 := by
    rw [BitVec.toNat_signExtend]
    have hlt := x.toBitVec.isLt
    simp only [BitVec.toNat_setWidth, BitVec.toNat_signExtend]
    split <;> split <;> omega
  rw [← e]
  exact Nat.and_two_pow_sub_one_eq_mod _ 8
theorem pair_says {c : Int32} (h0 : ¬ c < 0) (h1 : ¬ 65535 < c) : pairCh (lo8 c) (hi8 c) = c := by
  rw [Int32.lt_iff_toInt_lt] at h0 h1
  have e0 : (0 : Int32).toInt = 0 := rfl
  have e1 : (65535 : Int32).toInt = 65535 := rfl
  have hc : c.toInt = c.toBitVec.toNat := by
    have := c.toBitVec.isLt
    have e : c.toInt = c.toBitVec.toInt := rfl
    rw [e] at h0 h1
    rw [e]
    rw [BitVec.toInt_eq_toNat_cond] at h0 h1 ⊢
    split at h0 <;> split <;> omega
  have hn : c.toBitVec.toNat < 65536 := by omega
  have a1 := lo8_and c
  have a2 : (hi8 c &&& 255).toBitVec.toNat = c.toBitVec.toNat / 256 := by
    rw [hi8, lo8_and]
    have e : ((8 : Int32) &&& 31) = 8 := by decide
    rw [e, Int32.toBitVec_shiftRight]
    have e2 : ((8 : Int32).toBitVec.smod 32) = 8#32 := by decide
    rw [e2, BitVec.sshiftRight_eq', BitVec.toNat_sshiftRight_of_msb_false (by rw [BitVec.msb_eq_false_iff_two_mul_lt]; omega)]
    show c.toBitVec.toNat >>> 8 % 256 = _
    rw [Nat.shiftRight_eq_div_pow]
    omega
  unfold pairCh
  apply Int32.toBitVec_inj.mp
  apply BitVec.eq_of_toNat_eq
  have f0 : ((0 : Int32) &&& 31) = 0 := by decide
  have f8 : ((8 : Int32) &&& 31) = 8 := by decide
  rw [f0, f8]
  have g : (((lo8 c &&& 255) <<< (0 : Int32)) ||| ((hi8 c &&& 255) <<< (8 : Int32))).toBitVec.toNat = c.toBitVec.toNat := by
    rw [Int32.toBitVec_or, Int32.toBitVec_shiftLeft, Int32.toBitVec_shiftLeft]
    have s0 : ((0 : Int32).toBitVec.smod 32) = 0#32 := by decide
    have s8 : ((8 : Int32).toBitVec.smod 32) = 8#32 := by decide
    rw [s0, s8, BitVec.toNat_or]
    simp only [BitVec.shiftLeft_eq', BitVec.toNat_shiftLeft, a1, a2]
    show (c.toBitVec.toNat % 256) <<< 0 % 2 ^ 32 ||| (c.toBitVec.toNat / 256) <<< 8 % 2 ^ 32 = _
    rw [Nat.shiftLeft_zero, Nat.mod_eq_of_lt (show c.toBitVec.toNat % 256 < 2 ^ 32 by omega), Nat.mod_eq_of_lt (show (c.toBitVec.toNat / 256) <<< 8 < 2 ^ 32 by rw [Nat.shiftLeft_eq]; omega), Nat.or_comm, ← Nat.shiftLeft_add_eq_or_of_lt (by omega), Nat.shiftLeft_eq]
    omega
  show BitVec.toNat (((((lo8 c &&& 255) <<< (0 : Int32)) ||| ((hi8 c &&& 255) <<< (8 : Int32))).toBitVec.setWidth 16).setWidth 32) = _
  rw [BitVec.toNat_setWidth, BitVec.toNat_setWidth, g]
  omega
end StrChars
namespace StrChars
open Jvm Sem ClassFile Op Lib Jvm.Stand Jvm.Free.XT Jvm.Free.ALB Jvm.Free.JM Jvm.Free
open Jvm.Lib.Cold (StaticIs)
/-- the array's cell V codes the n chars f 0 .. f (n - 1) by the coder cd, as the JDK does: coder 1 just where some char is above 255 -/
def Cod (cd : Int32) (n : Nat) (f : Nat → Int32) (V : Cell) : Prop := (cd = 0 ∧ V.slots.size = n ∧ ∀ j, j < n → V.slots[j]? = some (.int (lo8 (f j))) ∧ ¬ 255 < f j) ∨ (cd = 1 ∧ V.slots.size = 2 * n ∧ (∀ j, j < n → V.slots[2 * j]? = some (.int (lo8 (f j))) ∧ V.slots[2 * j + 1]? = some (.int (hi8 (f j)))) ∧ ∃ j, j < n ∧ 255 < f j)
/-- **x is a String of the n chars f 0 .. f (n - 1)**, Latin-1 or UTF-16; its array at t has the cell V -/
def Txt (x t : Addr) (V : Cell) (cd : Int32) (n : Nat) (f : Nat → Int32) (U : State) : Prop := Exact "java/lang/String" x U ∧ Has x "java/lang/String" "value" "[B" (.ref t) U ∧ Has x "java/lang/String" "coder" "B" (.int cd) U ∧ XT.Arr .byte t V U ∧ Cod cd n f V ∧ ∀ j, j < n → ¬ f j < 0 ∧ ¬ 65535 < f j
theorem Txt.mv {x t : Addr} {V : Cell} {cd : Int32} {n : Nat} {f : Nat → Int32} {U U' : State} (h : Txt x t V cd n f U) (hal : U.vm.Alike U'.vm) (hh : U'.heap = U.heap) : Txt x t V cd n f U' := ⟨h.1.mv hal hh, h.2.1.mv hal hh, h.2.2.1.mv hal hh, h.2.2.2.1.mv hal hh, h.2.2.2.2⟩
end StrChars
namespace StrChars.Road
open Jvm Sem ClassFile Op Lib Jvm.Stand Jvm.Free Jvm.Free.XT
open Jvm.Lib.Cold (StaticIs)
theorem consq {a : Array Value} {s : State} {c : Jvm.Cond} {L : List Jvm.Cond} (h0 : c.before a s = true) (h : ∀ w ∈ L, w.before a s = true) : ∀ w ∈ c :: L, w.before a s = true := fun w hw => (List.mem_cons.mp hw).elim (fun e => e ▸ h0) (h w)
/-- the bytes of the chars cs, low before high -/
def wideBytes : List Int32 → List Value
  | [] => []
  | c :: cs => .int (lo8 c) :: .int (hi8 c) :: wideBytes cs
theorem wide_lo (d : Value) : ∀ (cs : List Int32) (j : Nat), j < cs.length → (wideBytes cs).getD (2 * j) d = .int (lo8 (cs.getD j 0))
  | [], j, h => absurd h (Nat.not_lt_zero j)
  | c :: cs, 0, _ => rfl
  | c :: cs, j + 1, h => by
    have q := wide_lo d cs j (by simpa using h)
    rw [show 2 * (j + 1) = 2 * j + 1 + 1 from by omega]
    simpa [wideBytes] using q
theorem wide_hi (d : Value) : ∀ (cs : List Int32) (j : Nat), j < cs.length → (wideBytes cs).getD (2 * j + 1) d = .int (hi8 (cs.getD j 0))
  | [], j, h => absurd h (Nat.not_lt_zero j)
  | c :: cs, 0, _ => rfl
  | c :: cs, j + 1, h => by
    have q := wide_hi d cs j (by simpa using h)
    rw [show 2 * (j + 1) + 1 = 2 * j + 1 + 1 + 1 from by omega]
    simpa [wideBytes] using q
theorem low_at (d : Value) (cs : List Int32) (j : Nat) (h : j < cs.length) : (cs.map fun c => Value.int (lo8 c)).getD j d = .int (lo8 (cs.getD j 0)) := by
  simp [List.getD_eq_getElem?_getD, h]
/-- an array of N2 bytes vs codes the chars cs by the coder cd -/
def CodA (cs : List Int32) (cd N2 : Int32) (vs : List Value) : Prop := (cd = 0 ∧ N2 = Int32.ofNat cs.length ∧ vs = (cs.map fun c => Value.int (lo8 c)) ∧ ∀ c ∈ cs, ¬ 255 < c) ∨ (cd = 1 ∧ N2 = Int32.ofNat (2 * cs.length) ∧ vs = wideBytes cs ∧ ∃ c ∈ cs, 255 < c)
theorem CodA.cod {cs : List Int32} {cd N2 : Int32} {vs : List Value} {V : Cell} (h : CodA cs cd N2 vs) (hn : 2 * cs.length < 2 ^ 31) (hs : V.slots.size = N2.toNatClampNeg) (hv : RoadKit.Has V vs (.int 0)) : Cod cd cs.length (fun j => cs.getD j 0) V := by
  rcases h with ⟨rfl, rfl, rfl, h⟩ | ⟨rfl, rfl, rfl, c, hc, hw⟩
  · rw [n32 (by omega)] at hs
    exact Or.inl ⟨rfl, hs, fun j hj => ⟨by rw [hv j (by omega), low_at _ _ _ hj], by
      have e : cs.getD j 0 = cs[j] := by simp [List.getD_eq_getElem?_getD, hj]
      show ¬ 255 < cs.getD j 0
      rw [e]; exact h _ (List.getElem_mem _)⟩⟩
  · rw [n32 (by omega)] at hs
    obtain ⟨j, hj, rfl⟩ := List.getElem_of_mem hc
    exact Or.inr ⟨rfl, hs, fun j hj => ⟨by rw [hv _ (by omega), wide_lo _ _ _ hj], by rw [hv _ (by omega), wide_hi _ _ _ hj]⟩, j, hj, by
      have e : cs.getD j 0 = cs[j] := by simp [List.getD_eq_getElem?_getD, hj]
      show 255 < cs.getD j 0
      rw [e]; exact hw⟩
/-- an object of exactly java/lang/String, its two fields found: as the laws ask it -/
theorem strObj {Z U : State} {a0 : Array Value} {kI : Nat} (wi : (Jvm.Cond.instantiable ST kI).before a0 Z = true) (al : Z.vm.Alike U.vm) {x : Addr} {v0 c0 : Value} (E : RoadKit.Exa Z U.heap x ST) (V : RoadKit.Fld Z U.heap x ST "value" "[B" v0) (C : RoadKit.Fld Z U.heap x ST "coder" "B" c0) :
    ∃ (D : Cell) (fV fC : Field), Blank ST x D U ∧ Found ST "value" "[B" fV U ∧ Found ST "coder" "B" fC U ∧ D.slots[fV.slot]? = some v0 ∧ D.slots[fC.slot]? = some c0 ∧ RoadKit.slotOf Z ST "value" "[B" = fV.slot ∧ RoadKit.slotOf Z ST "coder" "B" = fC.slot := by
  obtain ⟨D, cfV, kV, iV, fV, hD, gV, stV, knV, obV, asV, slV⟩ := V
  obtain ⟨D', cfC, kC, iC, fC, hD', gC, stC, -, -, asC, slC⟩ := C
  cases hD.symm.trans hD'
  obtain ⟨D2, kD, e1, e2, e3, e4, e5⟩ := E
  cases hD.symm.trans e1
  obtain ⟨c2, k2, i1, i2, i3, -⟩ := Cond.instantiable_spec wi
  cases e2.symm.trans i1
  cases e3.symm.trans i2
  obtain ⟨kU, u1, u2⟩ := al.2.2 _ _ e3
  exact ⟨D, fV, fC, ⟨hD, ⟨knV, fun q hq => by rw [hq] at obV; cases obV⟩, by rw [al.findClass]; exact e2, kU, u1, by rw [u2]; exact i3, by rw [u2]; exact e5 i3⟩, ⟨SBG.found_only al ⟨cfV, kV, iV, gV⟩, stV⟩, ⟨SBG.found_only al ⟨cfC, kC, iC, gC⟩, stC⟩, slV, slC, by simp [RoadKit.slotOf, gV], by simp [RoadKit.slotOf, gC]⟩
theorem sta_is {Z U : State} (al : Z.vm.Alike U.vm) {C n d : String} {v : Value} (S : RoadKit.Sta Z U.heap C n d v) : StaticIs U C n d v := by
  obtain ⟨cfS, iS, kS, fS, st, cS, t1, t2, t3, t4, t5, t6, t7⟩ := S
  exact StaticIs.there (s := { Z with heap := U.heap }) ⟨cfS, iS, kS, fS, st, cS, t1, t2, t3, t4, t5, (fun q => by rw [q] at t6; cases t6), t7⟩ al rfl
end StrChars.Road
namespace StrChars
open Jvm Sem ClassFile Op Lib Jvm.Stand Jvm.Free.XT Jvm.Free.ALB Jvm.Free.JM Jvm.Free
open Jvm.Lib.Cold (StaticIs)
/-- what place i of a byte[]'s cell holds -/
def yv (A : Cell) (i : Nat) : Int32 := match A.slots[i]? with | some (.int x) => x | _ => 0
theorem yv_get {a : Addr} {A : Cell} {U : State} (h : XT.Arr .byte a A U) (ht : Typed .byte A) {i : Nat} (hi : i < A.slots.size) : A.slots[i]? = some (.int (yv A i)) := by
  have e := Array.getElem?_eq_getElem hi
  have f := ht i _ e
  unfold yv; rw [e]
  generalize A.slots[i] = v at f
  cases v <;> simp [fits] at f ⊢
/-- the two arrays are equal, place for place -/
def EqC (A B : Cell) : Prop := A.slots.size = B.slots.size ∧ ∀ i, i < A.slots.size → yv A i = yv B i
/-- a boolean that says whether p -/
def Says01 (q : Prop) (r : Option Value) (s u : State) : Prop := ∃ v : Int32, r = some (.int v) ∧ u.heap = s.heap ∧ ((v = 1 ∧ q) ∨ (v = 0 ∧ ¬ q))
theorem Says01.mv {q : Prop} : ∀ r (U U' V V' : State), U'.heap = U.heap → V.vm.Alike V'.vm → V'.heap = V.heap → Says01 q r U V → Says01 q r U' V' :=
  fun r U U' V V' h1 _ h2 ⟨v, a, b, c⟩ => ⟨v, a, by rw [h1, h2]; exact b, c⟩
namespace LEq
def yN : MethodName := ⟨"java/lang/StringLatin1", "equals", "([B[B)Z"⟩
abbrev yB : ByteArray := jdk_43_method_13_code
theorem d0 : decode yB 0 = .ok (.aload_n 0, 1) := by decide +kernel
theorem d1 : decode yB 1 = .ok (.arraylength, 1) := by decide +kernel
theorem d2 : decode yB 2 = .ok (.aload_n 1, 1) := by decide +kernel
theorem d3 : decode yB 3 = .ok (.arraylength, 1) := by decide +kernel
theorem d4 : decode yB 4 = .ok (.if_icmp (.ne) 30, 3) := by decide +kernel
theorem d7 : decode yB 7 = .ok (.iconst 0, 1) := by decide +kernel
theorem d8 : decode yB 8 = .ok (.istore_n 2, 1) := by decide +kernel
theorem d9 : decode yB 9 = .ok (.iload_n 2, 1) := by decide +kernel
theorem d10 : decode yB 10 = .ok (.aload_n 0, 1) := by decide +kernel
theorem d11 : decode yB 11 = .ok (.arraylength, 1) := by decide +kernel
theorem d12 : decode yB 12 = .ok (.if_icmp (.ge) 20, 3) := by decide +kernel
theorem d15 : decode yB 15 = .ok (.aload_n 0, 1) := by decide +kernel
theorem d16 : decode yB 16 = .ok (.iload_n 2, 1) := by decide +kernel
theorem d17 : decode yB 17 = .ok (.baload, 1) := by decide +kernel
theorem d18 : decode yB 18 = .ok (.aload_n 1, 1) := by decide +kernel
theorem d19 : decode yB 19 = .ok (.iload_n 2, 1) := by decide +kernel
theorem d20 : decode yB 20 = .ok (.baload, 1) := by decide +kernel
theorem d21 : decode yB 21 = .ok (.if_icmp (.eq) 5, 3) := by decide +kernel
theorem d24 : decode yB 24 = .ok (.iconst 0, 1) := by decide +kernel
theorem d25 : decode yB 25 = .ok (.ireturn, 1) := by decide +kernel
theorem d26 : decode yB 26 = .ok (.iinc 2 1, 3) := by decide +kernel
theorem d29 : decode yB 29 = .ok (.goto (-20), 3) := by decide +kernel
theorem d32 : decode yB 32 = .ok (.iconst 1, 1) := by decide +kernel
theorem d33 : decode yB 33 = .ok (.ireturn, 1) := by decide +kernel
theorem d34 : decode yB 34 = .ok (.iconst 0, 1) := by decide +kernel
theorem d35 : decode yB 35 = .ok (.ireturn, 1) := by decide +kernel
def site : List Cond := []
def tab : Cond := tabOf yN yB 3 (some .boolean) site
def P (a : Addr) (A : Cell) (b : Addr) (B : Cell) (args : Array Value) (s : State) : Prop := args = #[.ref a, .ref b] ∧ XT.Arr .byte a A s ∧ Typed .byte A ∧ XT.Arr .byte b B s ∧ Typed .byte B
/-- whether two byte[] are equal, place for place -/
theorem law (l : Launch) (a : Addr) (A : Cell) (b : Addr) (B : Cell) : Law l yN 2 2 0 0 yB 3 (some .boolean) site (P a A b B) (Says01 (EqC A B)) [] 0 0 := by
  refine Law.of_walk (plainFor_of_name (by decide +kernel)) (by decide +kernel) (by decide +kernel) (by decide) (fun _ _ h => by rw [h.1]; rfl) (fun _ U U' hal hh h => ⟨h.1, h.2.1.mv hal hh, h.2.2.1, h.2.2.2.1.mv hal hh, h.2.2.2.2⟩) (fun r U U' V V' h1 hal h2 h => Says01.mv r U U' V V' h1 hal h2 h) ?_
  intro p e s m args below meth c s₁ X0 hexec hbytes hml hret hlk hnm hown hh0 W hP
  obtain ⟨rfl, hA, tA, hB, tB⟩ := hP
  have a31 := hA.2.2.2
  have b31 := hB.2.2.2
  have hA0 := hA.mv X0.warmed.alike hh0
  have hB0 := hB.mv X0.warmed.alike hh0
  have c1 : Steps p.tables e below (s₁.setTop (entryFrame m #[.ref a, .ref b] 3)) (s₁.setTop (mkF m 0 #[.val (.ref a), .val (.ref b), .unset] [])) := entry rfl
  have c2 : Steps p.tables e below (s₁.setTop (entryFrame m #[.ref a, .ref b] 3)) (s₁.setTop (mkF m 4 #[.val (.ref a), .val (.ref b), .unset] [.int (Int32.ofNat B.slots.size), .int (Int32.ofNat A.slots.size)])) := c1.trans (by
    refine XS.aloadN X0.here hexec rfl (hb hbytes d0) rfl rfl ?_
    refine X0.alen hexec hA0 rfl rfl (hb hbytes d1) ?_
    refine XS.aloadN X0.here hexec rfl (hb hbytes d2) rfl rfl ?_
    refine X0.alen hexec hB0 rfl rfl (hb hbytes d3) ?_
    exact Steps.refl _)
  by_cases hs : A.slots.size = B.slots.size
  · have c3 : Steps p.tables e below (s₁.setTop (entryFrame m #[.ref a, .ref b] 3)) (s₁.setTop (mkF m 9 #[.val (.ref a), .val (.ref b), .val (.int 0)] [])) := c2.trans (by
      refine XS.icmpNo X0.here hexec rfl (hb hbytes d4) rfl (ii_ne_f (by rw [hs])) ?_
      refine iconstV X0.here hexec rfl 0 (hb hbytes d7) (by decide) ?_
      refine XS.istoreN X0.here hexec rfl (hb hbytes d8) rfl rfl ?_
      exact Steps.refl _)
    have loop : ∀ (r i : Nat), i + r = A.slots.size → (∀ j, j < i → yv A j = yv B j) → Steps p.tables e below (s₁.setTop (entryFrame m #[.ref a, .ref b] 3)) (s₁.setTop (mkF m 9 #[.val (.ref a), .val (.ref b), .val (.int (Int32.ofNat i))] [])) → ∃ (pc : Nat) (Ls : Array Slot) (v : Int32), (pc = 25 ∨ pc = 33) ∧ ((v = 1 ∧ EqC A B) ∨ (v = 0 ∧ ¬ EqC A B)) ∧ Steps p.tables e below (s₁.setTop (entryFrame m #[.ref a, .ref b] 3)) (s₁.setTop (mkF m pc Ls [.int v])) := by
      intro r
      induction r with
      | zero =>
        intro i hi he cl
        exact ⟨33, _, 1, Or.inr rfl, Or.inl ⟨rfl, hs, fun j hj => he j (by omega)⟩, cl.trans (by
          refine XS.iloadN X0.here hexec rfl (hb hbytes d9) rfl ?_
          refine XS.aloadN X0.here hexec rfl (hb hbytes d10) rfl rfl ?_
          refine X0.alen hexec hA0 rfl rfl (hb hbytes d11) ?_
          refine XS.icmpYes X0.here hexec rfl (pc0 := 12) rfl (hb hbytes d12) rfl (ii_ge_t (nlt32 (by omega) (by omega))) (by decide) rfl ?_
          refine iconstV X0.here hexec rfl 1 (hb hbytes d32) (by decide) ?_
          exact Steps.refl _)⟩
      | succ r ih =>
        intro i hi he cl
        have c4 : Steps p.tables e below (s₁.setTop (entryFrame m #[.ref a, .ref b] 3)) (s₁.setTop (mkF m 21 #[.val (.ref a), .val (.ref b), .val (.int (Int32.ofNat i))] [.int (yv B i), .int (yv A i)])) := cl.trans (by
          refine XS.iloadN X0.here hexec rfl (hb hbytes d9) rfl ?_
          refine XS.aloadN X0.here hexec rfl (hb hbytes d10) rfl rfl ?_
          refine X0.alen hexec hA0 rfl rfl (hb hbytes d11) ?_
          refine XS.icmpNo X0.here hexec rfl (hb hbytes d12) rfl (ii_ge_f (lt32 (by omega) (by omega))) ?_
          refine XS.aloadN X0.here hexec rfl (hb hbytes d15) rfl rfl ?_
          refine XS.iloadN X0.here hexec rfl (hb hbytes d16) rfl ?_
          refine X0.aget hexec hA0 rfl (yv_get hA tA (i := i) (by omega)) rfl rfl (hb hbytes d17) ?_
          refine XS.aloadN X0.here hexec rfl (hb hbytes d18) rfl rfl ?_
          refine XS.iloadN X0.here hexec rfl (hb hbytes d19) rfl ?_
          refine X0.aget hexec hB0 rfl (yv_get hB tB (i := i) (by omega)) rfl rfl (hb hbytes d20) ?_
          exact Steps.refl _)
        by_cases hv : yv A i = yv B i
        · have c5 : Steps p.tables e below (s₁.setTop (entryFrame m #[.ref a, .ref b] 3)) (s₁.setTop (mkF m 9 #[.val (.ref a), .val (.ref b), .val (.int (Int32.ofNat i + 1))] [])) := c4.trans (by
            refine XS.icmpYes X0.here hexec rfl (pc0 := 21) rfl (hb hbytes d21) rfl (ii_eq_t hv) (by decide) rfl ?_
            refine iincV X0.here hexec rfl 1 (hb hbytes d26) (by decide) rfl rfl ?_
            refine XS.goto X0.here hexec rfl (pc0 := 29) rfl (hb hbytes d29) (by decide) rfl ?_
            exact Steps.refl _)
          rw [succ32] at c5
          exact ih (i + 1) (by omega) (fun j hj => by
            by_cases e : j = i
            · rw [e]; exact hv
            · exact he j (by omega)) c5
        · exact ⟨25, _, 0, Or.inl rfl, Or.inr ⟨rfl, fun q => hv (q.2 i (by omega))⟩, c4.trans (by
            refine XS.icmpNo X0.here hexec rfl (hb hbytes d21) rfl (ii_eq_f hv) ?_
            refine iconstV X0.here hexec rfl 0 (hb hbytes d24) (by decide) ?_
            exact Steps.refl _)⟩
    obtain ⟨pc, Ls, v, hpc, hv, cz⟩ := loop A.slots.size 0 (by omega) (fun j hj => absurd hj (Nat.not_lt_zero j)) c3
    have nv : narrow .boolean (.int v) = .int v := by rcases hv with ⟨rfl, -⟩ | ⟨rfl, -⟩ <;> rfl
    rcases hpc with rfl | rfl
    · exact ⟨s₁, some (.int v), _, _, _, X0, rfl, rfl, rfl, (fun h => by cases h), ⟨v, rfl, hh0, hv⟩, fun fs hl => cz.trans (X0.ireturnOut hexec hret nv (Or.inr (Or.inl rfl)) (hb hbytes d25) hl)⟩
    · exact ⟨s₁, some (.int v), _, _, _, X0, rfl, rfl, rfl, (fun h => by cases h), ⟨v, rfl, hh0, hv⟩, fun fs hl => cz.trans (X0.ireturnOut hexec hret nv (Or.inr (Or.inl rfl)) (hb hbytes d33) hl)⟩
  · have c3 : Steps p.tables e below (s₁.setTop (entryFrame m #[.ref a, .ref b] 3)) (s₁.setTop (mkF m 35 #[.val (.ref a), .val (.ref b), .unset] [.int 0])) := c2.trans (by
      refine XS.icmpYes X0.here hexec rfl (pc0 := 4) rfl (hb hbytes d4) rfl (ii_ne_t (ne32 a31 b31 hs)) (by decide) rfl ?_
      refine iconstV X0.here hexec rfl 0 (hb hbytes d34) (by decide) ?_
      exact Steps.refl _)
    exact ⟨s₁, some (.int 0), _, _, _, X0, rfl, rfl, rfl, (fun h => by cases h), ⟨0, rfl, hh0, Or.inr ⟨rfl, fun q => hs q.1⟩⟩, fun fs hl => c3.trans (X0.ireturnOut hexec hret rfl (Or.inr (Or.inl rfl)) (hb hbytes d35) hl)⟩
end LEq
theorem Cod.ty {cd : Int32} {n : Nat} {f : Nat → Int32} {V : Cell} (h : Cod cd n f V) : Typed .byte V := fun i v hv => by
  have hi : i < V.slots.size := (Array.getElem?_eq_some_iff.mp hv).1
  rcases h with ⟨-, k1, k2⟩ | ⟨-, k1, k2, -⟩
  · rw [(k2 i (by omega)).1] at hv; cases hv; exact fits_lo8 _
  · rcases Nat.mod_two_eq_zero_or_one i with e | e
    · obtain ⟨j, rfl⟩ : ∃ j, i = 2 * j := ⟨i / 2, by omega⟩
      rw [(k2 j (by omega)).1] at hv; cases hv; exact fits_lo8 _
    · obtain ⟨j, rfl⟩ : ∃ j, i = 2 * j + 1 := ⟨i / 2, by omega⟩
      rw [(k2 j (by omega)).2] at hv; cases hv; exact fits_lo8 _
/-- the same text -/
def SameT (n : Nat) (f : Nat → Int32) (k : Nat) (g : Nat → Int32) : Prop := n = k ∧ ∀ j, j < n → f j = g j
theorem lo8_inj {x y : Int32} (h0 : ¬ x < 0) (h1 : ¬ 255 < x) (k0 : ¬ y < 0) (k1 : ¬ 255 < y) (h : lo8 x = lo8 y) : x = y := by
  rw [← lo8_mask h0 h1, ← lo8_mask k0 k1, h]
/-- arrays coded by one coder are equal just where the texts are -/
theorem Cod.eqv {cd : Int32} {n k : Nat} {f g : Nat → Int32} {V V' : Cell} (h : Cod cd n f V) (h' : Cod cd k g V') (hf : ∀ j, j < n → ¬ f j < 0 ∧ ¬ 65535 < f j) (hg : ∀ j, j < k → ¬ g j < 0 ∧ ¬ 65535 < g j) : EqC V V' ↔ SameT n f k g := by
  have yvv : ∀ {W : Cell} {i : Nat} {x : Int32}, W.slots[i]? = some (.int x) → yv W i = x := fun q => by unfold yv; rw [q]
  rcases h with ⟨rfl, k1, k2⟩ | ⟨rfl, k1, k2, -⟩
  · rcases h' with ⟨-, m1, m2⟩ | ⟨e, -⟩
    · constructor
      · rintro ⟨e1, e2⟩
        refine ⟨by omega, fun j hj => ?_⟩
        have q := e2 j (by omega)
        rw [yvv (k2 j hj).1, yvv (m2 j (by omega)).1] at q
        exact lo8_inj (hf j hj).1 (k2 j hj).2 (hg j (by omega)).1 (m2 j (by omega)).2 q
      · rintro ⟨rfl, e2⟩
        refine ⟨by omega, fun j hj => ?_⟩
        rw [yvv (k2 j (by omega)).1, yvv (m2 j (by omega)).1, e2 j (by omega)]
    · exact absurd e (by decide)
  · rcases h' with ⟨e, -⟩ | ⟨-, m1, m2, -⟩
    · exact absurd e (by decide)
    · constructor
      · rintro ⟨e1, e2⟩
        refine ⟨by omega, fun j hj => ?_⟩
        have q1 := e2 (2 * j) (by omega)
        have q2 := e2 (2 * j + 1) (by omega)
        rw [yvv (k2 j hj).1, yvv (m2 j (by omega)).1] at q1
        rw [yvv (k2 j hj).2, yvv (m2 j (by omega)).2] at q2
        rw [← pair_says (hf j hj).1 (hf j hj).2, ← pair_says (hg j (by omega)).1 (hg j (by omega)).2, q1, q2]
      · rintro ⟨rfl, e2⟩
        refine ⟨by omega, fun i hi => ?_⟩
        rcases Nat.mod_two_eq_zero_or_one i with e | e
        · obtain ⟨j, rfl⟩ : ∃ j, i = 2 * j := ⟨i / 2, by omega⟩
          rw [yvv (k2 j (by omega)).1, yvv (m2 j (by omega)).1, e2 j (by omega)]
        · obtain ⟨j, rfl⟩ : ∃ j, i = 2 * j + 1 := ⟨i / 2, by omega⟩
          rw [yvv (k2 j (by omega)).2, yvv (m2 j (by omega)).2, e2 j (by omega)]
/-- two codings differ: so do the texts -/
theorem Cod.dif {cd cd' : Int32} {n k : Nat} {f g : Nat → Int32} {V V' : Cell} (h : Cod cd n f V) (h' : Cod cd' k g V') (hne : ¬ cd = cd') : ¬ SameT n f k g := by
  rintro ⟨rfl, e⟩
  rcases h with ⟨rfl, -, k2⟩ | ⟨rfl, -, -, j, hj, hw⟩
  · rcases h' with ⟨rfl, -⟩ | ⟨-, -, -, j, hj, hw⟩
    · exact hne rfl
    · exact (k2 j hj).2 (by rw [e j hj]; exact hw)
  · rcases h' with ⟨-, -, m2⟩ | ⟨rfl, -⟩
    · exact (m2 j hj).2 (by rw [← e j hj]; exact hw)
    · exact hne rfl
/-- an object of exactly C is an instance of C -/
theorem cinst {p : Program} {l : Launch} {e : Env} {R : Room} {s : State} {m : MethodId} {args : Array Value} {below : List Frame} {meth : Method} {c : Code} {T : State} {locs : List Loc} {cells slots : Nat} (X : Stand p l e R s m args below meth c T locs cells slots) (hexec : p.tables.exec = Jvm.exec) {own C : String} {index : Nat} (hown : s.vm.findClass own = some m.cls) (hlink : (Cond.classLink own index C).before args s = true) {a : Addr} (hE : Exact C a T)
    {g : JFrame} (hg : g.method = m) {rest : List Value} (hstack : g.stack = .ref a :: rest) (hdg : decode c.code g.pc = .ok (.instanceof index, 3)) :
    ∃ T', Stand p l e R s m args below meth c T' locs cells slots ∧ T'.heap = T.heap ∧ ∀ target, Steps p.tables e below (T'.setTop { g with pc := g.pc + 3, stack := .int 1 :: rest }) target → Steps p.tables e below (T.setTop g) target := by
  obtain ⟨cB, h1, D, h2, h3, h4⟩ := hE
  have h1' : s.vm.findClass C = some cB := by rw [← X.warmed.alike.findClass]; exact h1
  obtain ⟨vm', X', st⟩ := X.instanceofYes hexec hown hlink h2 h4 h1' (by rw [h3]; exact Jvm.Free.SB.assignable_self _ _) hg hstack hdg
  exact ⟨_, X', rfl, st⟩
theorem cself {p : Program} {l : Launch} {e : Env} {R : Room} {s : State} {m : MethodId} {args : Array Value} {below : List Frame} {meth : Method} {c : Code} {T : State} {locs : List Loc} {cells slots : Nat} (X : Stand p l e R s m args below meth c T locs cells slots) (hexec : p.tables.exec = Jvm.exec) {own C : String} {index : Nat} (hown : s.vm.findClass own = some m.cls) (hlink : (Cond.classLink own index C).before args s = true) {a : Addr} (hE : Exact C a T)
    {g : JFrame} (hg : g.method = m) {rest : List Value} (hstack : g.stack = .ref a :: rest) (hdg : decode c.code g.pc = .ok (.checkcast index, 3)) :
    ∃ T', Stand p l e R s m args below meth c T' locs cells slots ∧ T'.heap = T.heap ∧ ∀ target, Steps p.tables e below (T'.setTop { g with pc := g.pc + 3, stack := .ref a :: rest }) target → Steps p.tables e below (T.setTop g) target := by
  obtain ⟨cB, h1, D, h2, h3, h4⟩ := hE
  have h1' : s.vm.findClass C = some cB := by rw [← X.warmed.alike.findClass]; exact h1
  obtain ⟨vm', X', st⟩ := X.checkcastYes hexec hown hlink h2 h4 h1' (by rw [h3]; exact Jvm.Free.SB.assignable_self _ _) hg hstack hdg
  exact ⟨_, X', rfl, fun t h => st t (by rw [← hstack] at h; exact h)⟩
namespace SEq
def yN : MethodName := ⟨"java/lang/String", "equals", "(Ljava/lang/Object;)Z"⟩
abbrev yB : ByteArray := jdk_42_method_66_code
theorem d0 : decode yB 0 = .ok (.aload_n 0, 1) := by decide +kernel
theorem d1 : decode yB 1 = .ok (.aload_n 1, 1) := by decide +kernel
theorem d2 : decode yB 2 = .ok (.if_acmp (.ne) 5, 3) := by decide +kernel
theorem d5 : decode yB 5 = .ok (.iconst 1, 1) := by decide +kernel
theorem d6 : decode yB 6 = .ok (.ireturn, 1) := by decide +kernel
theorem d7 : decode yB 7 = .ok (.aload_n 1, 1) := by decide +kernel
theorem d8 : decode yB 8 = .ok (.instanceof 10, 3) := by decide +kernel
theorem d11 : decode yB 11 = .ok (.ifCond (.eq) 43, 3) := by decide +kernel
theorem d14 : decode yB 14 = .ok (.aload_n 1, 1) := by decide +kernel
theorem d15 : decode yB 15 = .ok (.checkcast 10, 3) := by decide +kernel
theorem d18 : decode yB 18 = .ok (.astore_n 2, 1) := by decide +kernel
theorem d19 : decode yB 19 = .ok (.getstatic 38, 3) := by decide +kernel
theorem d22 : decode yB 22 = .ok (.ifCond (.eq) 14, 3) := by decide +kernel
theorem d25 : decode yB 25 = .ok (.aload_n 0, 1) := by decide +kernel
theorem d26 : decode yB 26 = .ok (.getfield 15, 3) := by decide +kernel
theorem d29 : decode yB 29 = .ok (.aload_n 2, 1) := by decide +kernel
theorem d30 : decode yB 30 = .ok (.getfield 15, 3) := by decide +kernel
theorem d33 : decode yB 33 = .ok (.if_icmp (.ne) 21, 3) := by decide +kernel
theorem d36 : decode yB 36 = .ok (.aload_n 0, 1) := by decide +kernel
theorem d37 : decode yB 37 = .ok (.getfield 9, 3) := by decide +kernel
theorem d40 : decode yB 40 = .ok (.aload_n 2, 1) := by decide +kernel
theorem d41 : decode yB 41 = .ok (.getfield 9, 3) := by decide +kernel
theorem d44 : decode yB 44 = .ok (.invokestatic 541, 3) := by decide +kernel
theorem d47 : decode yB 47 = .ok (.ifCond (.eq) 7, 3) := by decide +kernel
theorem d50 : decode yB 50 = .ok (.iconst 1, 1) := by decide +kernel
theorem d51 : decode yB 51 = .ok (.goto 4, 3) := by decide +kernel
theorem d54 : decode yB 54 = .ok (.iconst 0, 1) := by decide +kernel
theorem d55 : decode yB 55 = .ok (.ireturn, 1) := by decide +kernel
def site : List Cond := [.classLink "java/lang/String" 10 "java/lang/String", .fieldLink "java/lang/String" 38 "java/lang/String" "COMPACT_STRINGS" "Z", .fieldLink "java/lang/String" 15 "java/lang/String" "coder" "B", .fieldLink "java/lang/String" 9 "java/lang/String" "value" "[B", LEq.tab] ++ staticW "java/lang/String" 541 LEq.yN
def tab : Cond := tabOf yN yB 3 (some .boolean) site
def P (x t : Addr) (V : Cell) (cd : Int32) (n : Nat) (f : Nat → Int32) (y t' : Addr) (V' : Cell) (cd' : Int32) (k : Nat) (g : Nat → Int32) (z : Int32) (args : Array Value) (s : State) : Prop := args = #[.ref x, .ref y] ∧ Txt x t V cd n f s ∧ Txt y t' V' cd' k g s ∧ StaticIs s "java/lang/String" "COMPACT_STRINGS" "Z" (.int z) ∧ ¬ z = 0
/-- equals(Object) of two Strings: whether the texts are the same -/
theorem law (l : Launch) (x t : Addr) (V : Cell) (cd : Int32) (n : Nat) (f : Nat → Int32) (y t' : Addr) (V' : Cell) (cd' : Int32) (k : Nat) (g : Nat → Int32) (z : Int32) : Law l yN 2 1 1 14 yB 3 (some .boolean) site (P x t V cd n f y t' V' cd' k g z) (Says01 (SameT n f k g)) [] 0 0 := by
  refine Law.of_walk (plainFor_of_name (by decide +kernel)) (by decide +kernel) (by decide +kernel) (by decide) (fun _ _ h => by rw [h.1]; rfl) (fun _ U U' hal hh h => ⟨h.1, h.2.1.mv hal hh, h.2.2.1.mv hal hh, h.2.2.2.1.there hal hh, h.2.2.2.2⟩) (fun r U U' V V' h1 hal h2 h => Says01.mv r U U' V V' h1 hal h2 h) ?_
  intro p e s m args below meth c s₁ X0 hexec hbytes hml hret hlk hnm hown hh0 W hP
  obtain ⟨rfl, hx, hy, s1, hz⟩ := hP
  have c1 : Steps p.tables e below (s₁.setTop (entryFrame m #[.ref x, .ref y] 3)) (s₁.setTop (mkF m 2 #[.val (.ref x), .val (.ref y), .unset] [.ref y, .ref x])) := Steps.trans (entry rfl) (by
    show Steps p.tables e below (s₁.setTop (mkF m 0 #[.val (.ref x), .val (.ref y), .unset] [])) _
    refine XS.aloadN X0.here hexec rfl (hb hbytes d0) rfl rfl ?_
    refine XS.aloadN X0.here hexec rfl (hb hbytes d1) rfl rfl ?_
    exact Steps.refl _)
  by_cases hxy : x = y
  · have c2 : Steps p.tables e below (s₁.setTop (entryFrame m #[.ref x, .ref y] 3)) (s₁.setTop (mkF m 6 #[.val (.ref x), .val (.ref y), .unset] [.int 1])) := c1.trans (by
      refine acmpNo X0.here hexec rfl (hb hbytes d2) rfl rfl rfl (by simp [acmp, hxy]) ?_
      refine iconstV X0.here hexec rfl 1 (hb hbytes d5) (by decide) ?_
      exact Steps.refl _)
    subst hxy
    have ec : cd = cd' := by
      obtain ⟨D, fd, a1, a2, a3⟩ := hx.2.2.1
      obtain ⟨D', fd', b1, b2, b3⟩ := hy.2.2.1
      cases a1.symm.trans b1
      obtain ⟨q1, q2, q3, q4⟩ := a2.1
      obtain ⟨r1, r2, r3, r4⟩ := b2.1
      cases q4.symm.trans r4
      cases a3.symm.trans b3; rfl
    have et : t = t' := by
      obtain ⟨D, fd, a1, a2, a3⟩ := hx.2.1
      obtain ⟨D', fd', b1, b2, b3⟩ := hy.2.1
      cases a1.symm.trans b1
      obtain ⟨q1, q2, q3, q4⟩ := a2.1
      obtain ⟨r1, r2, r3, r4⟩ := b2.1
      cases q4.symm.trans r4
      cases a3.symm.trans b3; rfl
    subst ec et
    have ev : V = V' := by cases hx.2.2.2.1.1.symm.trans hy.2.2.2.1.1; rfl
    subst ev
    have hs : SameT n f k g := (Cod.eqv hx.2.2.2.2.1 hy.2.2.2.2.1 hx.2.2.2.2.2 hy.2.2.2.2.2).mp ⟨rfl, fun _ _ => rfl⟩
    exact ⟨s₁, some (.int 1), _, _, _, X0, rfl, rfl, rfl, (fun h => by cases h), ⟨1, rfl, hh0, Or.inl ⟨rfl, hs⟩⟩, fun fs hl => c2.trans (X0.ireturnOut hexec hret rfl (Or.inr (Or.inl rfl)) (hb hbytes d6) hl)⟩
  · have c2 : Steps p.tables e below (s₁.setTop (entryFrame m #[.ref x, .ref y] 3)) (s₁.setTop (mkF m 8 #[.val (.ref x), .val (.ref y), .unset] [.ref y])) := c1.trans (by
      refine acmpYes X0.here hexec rfl (pc0 := 2) rfl (hb hbytes d2) rfl rfl rfl (by simp [acmp, hxy]) (by decide) rfl ?_
      refine XS.aloadN X0.here hexec rfl (hb hbytes d7) rfl rfl ?_
      exact Steps.refl _)
    obtain ⟨T3, X3, q3, st3⟩ := cinst X0 hexec hown (wk W (.classLink "java/lang/String" 10 "java/lang/String")) (hy.mv X0.warmed.alike hh0).1 (g := (mkF m 8 #[.val (.ref x), .val (.ref y), .unset] [.ref y])) rfl (rest := []) rfl (hb hbytes d8)
    have hh3 := q3.trans hh0
    have c4 : Steps p.tables e below (s₁.setTop (entryFrame m #[.ref x, .ref y] 3)) (T3.setTop (mkF m 15 #[.val (.ref x), .val (.ref y), .unset] [.ref y])) := (c2.trans (st3 _ (Steps.refl _))).trans (by
      refine XS.ifNo X3.here hexec rfl (hb hbytes d11) rfl (i0_eq_f (by decide)) ?_
      refine XS.aloadN X3.here hexec rfl (hb hbytes d14) rfl rfl ?_
      exact Steps.refl _)
    obtain ⟨T5, X5, q5, st5⟩ := cself X3 hexec hown (wk W (.classLink "java/lang/String" 10 "java/lang/String")) (hy.mv X3.warmed.alike hh3).1 (g := (mkF m 15 #[.val (.ref x), .val (.ref y), .unset] [.ref y])) rfl (rest := []) rfl (hb hbytes d15)
    have hh5 := q5.trans hh3
    have c6 : Steps p.tables e below (s₁.setTop (entryFrame m #[.ref x, .ref y] 3)) (T5.setTop (mkF m 19 #[.val (.ref x), .val (.ref y), .val (.ref y)] [])) := (c4.trans (st5 _ (Steps.refl _))).trans (by
      refine XS.astoreN X5.here hexec rfl (hb hbytes d18) rfl rfl rfl ?_
      exact Steps.refl _)
    obtain ⟨T7, X7, q7, st7⟩ := X5.sget hexec hown (wk W (.fieldLink "java/lang/String" 38 "java/lang/String" "COMPACT_STRINGS" "Z")) s1 (fun _ _ h => by rw [hh5]; exact h) (g := (mkF m 19 #[.val (.ref x), .val (.ref y), .val (.ref y)] [])) rfl (hb hbytes d19)
    have hh7 := q7.trans hh5
    have c8 : Steps p.tables e below (s₁.setTop (entryFrame m #[.ref x, .ref y] 3)) (T7.setTop (mkF m 26 #[.val (.ref x), .val (.ref y), .val (.ref y)] [.ref x])) := (c6.trans (st7 _ (Steps.refl _))).trans (by
      refine XS.ifNo X7.here hexec rfl (hb hbytes d22) rfl (i0_eq_f hz) ?_
      refine XS.aloadN X7.here hexec rfl (hb hbytes d25) rfl rfl ?_
      exact Steps.refl _)
    obtain ⟨T9, X9, q9, st9⟩ := X7.hget hexec hown (wk W (.fieldLink "java/lang/String" 15 "java/lang/String" "coder" "B")) (hx.mv X7.warmed.alike hh7).2.2.1 (g := (mkF m 26 #[.val (.ref x), .val (.ref y), .val (.ref y)] [.ref x])) rfl (rest := []) rfl (hb hbytes d26)
    have hh9 := q9.trans hh7
    have c10 : Steps p.tables e below (s₁.setTop (entryFrame m #[.ref x, .ref y] 3)) (T9.setTop (mkF m 30 #[.val (.ref x), .val (.ref y), .val (.ref y)] [.ref y, .int cd])) := (c8.trans (st9 _ (Steps.refl _))).trans (by
      refine XS.aloadN X9.here hexec rfl (hb hbytes d29) rfl rfl ?_
      exact Steps.refl _)
    obtain ⟨T11, X11, q11, st11⟩ := X9.hget hexec hown (wk W (.fieldLink "java/lang/String" 15 "java/lang/String" "coder" "B")) (hy.mv X9.warmed.alike hh9).2.2.1 (g := (mkF m 30 #[.val (.ref x), .val (.ref y), .val (.ref y)] [.ref y, .int cd])) rfl (rest := [.int cd]) rfl (hb hbytes d30)
    have hh11 := q11.trans hh9
    have c12 : Steps p.tables e below (s₁.setTop (entryFrame m #[.ref x, .ref y] 3)) (T11.setTop (mkF m 33 #[.val (.ref x), .val (.ref y), .val (.ref y)] [.int cd', .int cd])) := c10.trans (st11 _ (Steps.refl _))
    by_cases hcd : cd = cd'
    · subst hcd
      have c13 : Steps p.tables e below (s₁.setTop (entryFrame m #[.ref x, .ref y] 3)) (T11.setTop (mkF m 37 #[.val (.ref x), .val (.ref y), .val (.ref y)] [.ref x])) := c12.trans (by
        refine XS.icmpNo X11.here hexec rfl (hb hbytes d33) rfl (ii_ne_f rfl) ?_
        refine XS.aloadN X11.here hexec rfl (hb hbytes d36) rfl rfl ?_
        exact Steps.refl _)
      obtain ⟨T14, X14, q14, st14⟩ := X11.hget hexec hown (wk W (.fieldLink "java/lang/String" 9 "java/lang/String" "value" "[B")) (hx.mv X11.warmed.alike hh11).2.1 (g := (mkF m 37 #[.val (.ref x), .val (.ref y), .val (.ref y)] [.ref x])) rfl (rest := []) rfl (hb hbytes d37)
      have hh14 := q14.trans hh11
      have c15 : Steps p.tables e below (s₁.setTop (entryFrame m #[.ref x, .ref y] 3)) (T14.setTop (mkF m 41 #[.val (.ref x), .val (.ref y), .val (.ref y)] [.ref y, .ref t])) := (c13.trans (st14 _ (Steps.refl _))).trans (by
        refine XS.aloadN X14.here hexec rfl (hb hbytes d40) rfl rfl ?_
        exact Steps.refl _)
      obtain ⟨T16, X16, q16, st16⟩ := X14.hget hexec hown (wk W (.fieldLink "java/lang/String" 9 "java/lang/String" "value" "[B")) (hy.mv X14.warmed.alike hh14).2.1 (g := (mkF m 41 #[.val (.ref x), .val (.ref y), .val (.ref y)] [.ref y, .ref t])) rfl (rest := [.ref t]) rfl (hb hbytes d41)
      have hh16 := q16.trans hh14
      have c17 : Steps p.tables e below (s₁.setTop (entryFrame m #[.ref x, .ref y] 3)) (T16.setTop (mkF m 44 #[.val (.ref x), .val (.ref y), .val (.ref y)] [.ref t', .ref t])) := c15.trans (st16 _ (Steps.refl _))
      obtain ⟨v18, T18, X18, E18, g18⟩ := X16.callS hexec (LEq.law l t V t' V') hown (wks W (staticW "java/lang/String" 541 LEq.yN)) (wk W LEq.tab) (W := 0) (Nat.le_of_ble_eq_true rfl) (Nat.le_of_ble_eq_true rfl) (Nat.le_refl _) (Nat.le_refl _) (g := (mkF m 44 #[.val (.ref x), .val (.ref y), .val (.ref y)] [.ref t', .ref t])) rfl (by rw [hml]; rfl) c17 (argsL := [.ref t, .ref t']) (rest := []) rfl rfl (by show 2 * 0 + 0 ≤ _; decide) (hb hbytes d44) (⟨rfl, hx.2.2.2.1.mv X16.warmed.alike hh16, hx.2.2.2.2.1.ty, hy.2.2.2.1.mv X16.warmed.alike hh16, hy.2.2.2.2.1.ty⟩)
      obtain ⟨v, rfl, q18, hv⟩ := E18
      have iff := Cod.eqv hx.2.2.2.2.1 hy.2.2.2.2.1 hx.2.2.2.2.2 hy.2.2.2.2.2
      rcases hv with ⟨rfl, he⟩ | ⟨rfl, he⟩
      · have c19 : Steps p.tables e below (s₁.setTop (entryFrame m #[.ref x, .ref y] 3)) (T18.setTop (mkF m 55 #[.val (.ref x), .val (.ref y), .val (.ref y)] [.int 1])) := Steps.trans g18 (by
          refine XS.ifNo X18.here hexec rfl (hb hbytes d47) rfl (i0_eq_f (by decide)) ?_
          refine iconstV X18.here hexec rfl 1 (hb hbytes d50) (by decide) ?_
          refine XS.goto X18.here hexec rfl (pc0 := 51) rfl (hb hbytes d51) (by decide) rfl ?_
          exact Steps.refl _)
        exact ⟨T18, some (.int 1), _, _, _, X18, rfl, rfl, rfl, (fun h => by cases h), ⟨1, rfl, q18.trans hh16, Or.inl ⟨rfl, iff.mp he⟩⟩, fun fs hl => c19.trans (X18.ireturnOut hexec hret rfl (Or.inr (Or.inl rfl)) (hb hbytes d55) hl)⟩
      · have c19 : Steps p.tables e below (s₁.setTop (entryFrame m #[.ref x, .ref y] 3)) (T18.setTop (mkF m 55 #[.val (.ref x), .val (.ref y), .val (.ref y)] [.int 0])) := Steps.trans g18 (by
          refine XS.ifYes X18.here hexec rfl (pc0 := 47) rfl (hb hbytes d47) rfl (i0_eq_t rfl) (by decide) rfl ?_
          refine iconstV X18.here hexec rfl 0 (hb hbytes d54) (by decide) ?_
          exact Steps.refl _)
        exact ⟨T18, some (.int 0), _, _, _, X18, rfl, rfl, rfl, (fun h => by cases h), ⟨0, rfl, q18.trans hh16, Or.inr ⟨rfl, fun q => he (iff.mpr q)⟩⟩, fun fs hl => c19.trans (X18.ireturnOut hexec hret rfl (Or.inr (Or.inl rfl)) (hb hbytes d55) hl)⟩
    · have c13 : Steps p.tables e below (s₁.setTop (entryFrame m #[.ref x, .ref y] 3)) (T11.setTop (mkF m 55 #[.val (.ref x), .val (.ref y), .val (.ref y)] [.int 0])) := c12.trans (by
        refine XS.icmpYes X11.here hexec rfl (pc0 := 33) rfl (hb hbytes d33) rfl (ii_ne_t hcd) (by decide) rfl ?_
        refine iconstV X11.here hexec rfl 0 (hb hbytes d54) (by decide) ?_
        exact Steps.refl _)
      exact ⟨T11, some (.int 0), _, _, _, X11, rfl, rfl, rfl, (fun h => by cases h), ⟨0, rfl, hh11, Or.inr ⟨rfl, Cod.dif hx.2.2.2.2.1 hy.2.2.2.2.1 hcd⟩⟩, fun fs hl => c13.trans (X11.ireturnOut hexec hret rfl (Or.inr (Or.inl rfl)) (hb hbytes d55) hl)⟩
theorem pays {l : Launch} {R : Room} {p : Program} {e : Env} {below : List Frame} {s : State} {sargs : Array Value} {len W : Nat} (x t : Addr) (V : Cell) (cd : Int32) (n : Nat) (f : Nat → Int32) (y t' : Addr) (V' : Cell) (cd' : Int32) (k : Nat) (g : Nat → Int32) (z : Int32) (htab : tab.before sargs s = true) (hfr : 2 ≤ R.frames) (hlo : W + 28 ≤ R.locals) :
    Back l R p e below s sargs yN len W (fun A₁ a₁ => A₁.cells + 0 ≤ R.cells ∧ A₁.slots + 0 ≤ R.slots ∧ P x t V cd n f y t' V' cd' k g z a₁ A₁.U) (fun A₁ _ v₁ B₁ => Says01 (SameT n f k g) v₁ A₁.U B₁.U ∧ B₁.locs = A₁.locs ++ [] ∧ B₁.cells = A₁.cells + 0 ∧ B₁.slots = A₁.slots + 0) :=
  (law l x t V cd n f y t' V' cd' k g z).pays htab hfr (by omega)
end SEq
end StrChars
namespace StrChars.Road
open Jvm Sem ClassFile Op Lib Jvm.Stand Jvm.Free Jvm.Free.XT
open Jvm.Lib.Cold (StaticIs)
/-- the words of String.equals(Object) -/
abbrev wordsEq : List Jvm.Cond := [.code SEq.yN SEq.yB 3 (some .boolean), .initialized ST, .classLink ST 10 ST, .fieldLink ST 38 ST "COMPACT_STRINGS" "Z", .fieldLink ST 15 ST "coder" "B", .fieldLink ST 9 ST "value" "[B", .methodLink ST 541 LEq.yN, .static LEq.yN, .code LEq.yN LEq.yB 3 (some .boolean), .initialized "java/lang/StringLatin1"]
theorem tabEq_of {a : Array Value} {s : State} (h : ∀ w ∈ wordsEq, w.before a s = true) : SEq.tab.before a s = true := by
  have hl : LEq.tab.before a s = true := unparts (wk h (.code LEq.yN LEq.yB 3 (some .boolean))) (wks h (.initialized LEq.yN.cls :: LEq.site))
  have q := consq hl h
  exact unparts (wk q (.code SEq.yN SEq.yB 3 (some .boolean))) (wks q (.initialized SEq.yN.cls :: SEq.site))
theorem movedEq {Z s : State} {a0 args : Array Value} (hZ : Z.Warmed39 s.vm) (hw : ∀ d ∈ wordsEq, d.before a0 Z = true) : ∀ d ∈ wordsEq, d.before args s = true := fun d hd => by
  have t : ∀ d ∈ wordsEq, (d.onTables && d.keepsFace) = true := by decide +kernel
  exact RoadKit.mv hZ (hw d hd) (t d hd)
/-- the road's facts of a String, as the laws ask it -/
theorem txt_of {Z U : State} {a0 : Array Value} {kI : Nat} (wi : (Jvm.Cond.instantiable ST kI).before a0 Z = true) (al : Z.vm.Alike U.vm) {x t : Addr} {kb : ClassId} {cs : List Int32} {cd N2 : Int32} {vs : List Value} (E : RoadKit.Exa Z U.heap x ST) (V : RoadKit.Fld Z U.heap x ST "value" "[B" (.ref t)) (C : RoadKit.Fld Z U.heap x ST "coder" "B" (.int cd)) (K : RoadKit.Arv Z U.heap t kb .byte N2 vs (.int 0)) (hc : CodA cs cd N2 vs) (hb : ∀ c ∈ cs, ¬ c < 0 ∧ ¬ (65535 : Int32) < c) (l2 : cs.length ≤ 4000) :
    ∃ A, Txt x t A cd cs.length (fun j => cs.getD j 0) U := by
  obtain ⟨A, K1, K2, K3, K4, K5, K6⟩ := K
  have hcod := hc.cod (by omega) K3 K5
  obtain ⟨D, fV, fC, hB, F1, F2, g1, g2, -, -⟩ := strObj wi al E V C
  exact ⟨A, ⟨_, hB.2.2.1, D, hB.1, rfl, by cases q : D.vm <;> first | rfl | exact absurd q (hB.2.1.2 _)⟩, Has.of hB F1 g1, Has.of hB F2 g2, ⟨K1.1, State.isArrayOf_alike al K1.2.1, K1.2.2, by rcases hcod with ⟨-, q, -⟩ | ⟨-, q, -⟩ <;> omega⟩, hcod, fun j hj => by
    have e : cs.getD j 0 = cs[j] := by simp [List.getD_eq_getElem?_getD, hj]
    show ¬ cs.getD j 0 < 0 ∧ ¬ 65535 < cs.getD j 0
    rw [e]; exact hb _ (List.getElem_mem _)⟩
theorem same_list (cs ds : List Int32) : SameT cs.length (fun j => cs.getD j 0) ds.length (fun j => ds.getD j 0) ↔ cs = ds := by
  constructor
  · rintro ⟨e, q⟩
    refine List.ext_getElem e fun j h1 h2 => ?_
    have := q j h1
    simpa [List.getD_eq_getElem?_getD, h1, h2] using this
  · rintro rfl
    exact ⟨rfl, fun _ _ => rfl⟩
/-- **equals(Object) OF TWO SUCH STRINGS**: 1 just where the chars are the same -/
theorem eqW {p : Program} {l : Launch} {e : Env} {R : Room} {s : State} {args : Array Value} {below : List Frame} {len W : Nat} {Z : State} {a0 : Array Value} {h : Heap} (hZ : Z.Warmed39 s.vm) (hw : ∀ d ∈ wordsEq, d.before a0 Z = true) {kI : Nat} (wi : (Jvm.Cond.instantiable ST kI).before a0 Z = true)
    {x t : Addr} {kb : ClassId} {cs : List Int32} {cd N2 : Int32} {vs : List Value} (E : RoadKit.Exa Z h x ST) (V : RoadKit.Fld Z h x ST "value" "[B" (.ref t)) (C : RoadKit.Fld Z h x ST "coder" "B" (.int cd)) (K : RoadKit.Arv Z h t kb .byte N2 vs (.int 0)) (hc : CodA cs cd N2 vs) (hb : ∀ c ∈ cs, ¬ c < 0 ∧ ¬ (65535 : Int32) < c) (l2 : cs.length ≤ 4000)
    {y t' : Addr} {kb' : ClassId} {ds : List Int32} {cd' N2' : Int32} {vs' : List Value} (E' : RoadKit.Exa Z h y ST) (V' : RoadKit.Fld Z h y ST "value" "[B" (.ref t')) (C' : RoadKit.Fld Z h y ST "coder" "B" (.int cd')) (K' : RoadKit.Arv Z h t' kb' .byte N2' vs' (.int 0)) (hc' : CodA ds cd' N2' vs') (hb' : ∀ c ∈ ds, ¬ c < 0 ∧ ¬ (65535 : Int32) < c) (l2' : ds.length ≤ 4000)
    {z : Int32} (S : RoadKit.Sta Z h ST "COMPACT_STRINGS" "Z" (.int z)) (hz : ¬ z = 0) (hfr : 2 ≤ R.frames) (hlo : W + 28 ≤ R.locals) :
    Back l R p e below s args (⟨"java/lang/String", "equals", "(Ljava/lang/Object;)Z"⟩ : MethodName) len W (fun P a => a = #[.ref x, .ref y] ∧ P.U.heap = h ∧ P.cells + 0 ≤ R.cells ∧ P.slots + 0 ≤ R.slots)
      (fun P _ v B => ∃ L, (((v = some (.int 1) ∧ cs = ds) ∨ (v = some (.int 0) ∧ ¬ cs = ds)) ∧ L = [] ∧ B.U.heap = h) ∧ B.locs = P.locs ++ L ∧ B.cells = P.cells + 0 ∧ B.slots = P.slots + 0) := by
  intro m meth c P g ig mk a X hg hsize hdg hW hn hp'
  obtain ⟨rfl, rfl, r1, r2⟩ := hp'
  have al : Z.vm.Alike P.U.vm := hZ.alike.trans X.warmed.alike
  obtain ⟨A, hx⟩ := txt_of wi al E V C K hc hb l2
  obtain ⟨A', hy⟩ := txt_of wi al E' V' C' K' hc' hb' l2'
  obtain ⟨v, B, X', ⟨⟨w, hv, hh, hq⟩, hl, hk, hs⟩, st⟩ := SEq.pays x t A cd cs.length (fun j => cs.getD j 0) y t' A' cd' ds.length (fun j => ds.getD j 0) z (tabEq_of (movedEq hZ hw)) hfr hlo m meth c P g ig mk _ X hg hsize hdg hW hn ⟨r1, r2, rfl, hx, hy, sta_is al S, hz⟩
  refine ⟨v, B, X', ⟨[], ⟨?_, rfl, hh⟩, hl, hk, hs⟩, st⟩
  rcases hq with ⟨rfl, q⟩ | ⟨rfl, q⟩
  · exact Or.inl ⟨hv, (same_list cs ds).mp q⟩
  · exact Or.inr ⟨hv, fun e => q ((same_list cs ds).mpr e)⟩
end StrChars.Road
namespace StrChars.Road
open Jvm Sem ClassFile Op Lib Jvm.Stand Jvm.Free Jvm.Free.XT
open Jvm.Lib.Cold (StaticIs)
/-- what backV says of its String, as the contracts of this text ask it: cs's low bytes, coder 0 -/
theorem codOf {cs : List Int32} {n : Nat} (hn : cs.length = n) (hb : ∀ c ∈ cs, ¬ 255 < c) : CodA cs 0 (Int32.ofNat n) ((cs.map lo8).map Value.int) := Or.inl ⟨rfl, by rw [hn], by simp [List.map_map, Function.comp_def], hb⟩
end StrChars.Road
end Jvm.Pilot.@@N@@

namespace Jvm.Pilot.@@N@@
open Jvm Jvm.ClassFile Sem Op Lib Jvm.Free Jvm.Stand Jvm.LawKit Jvm.RoadKit Bundle Jvm.Pilot.@@N@@.Jvm.D
def own_EL : List (String × Nat) := [("java/lang/String", 7)]
theorem own_safe0 {Z : State} {EL : List (String × Nat)} {vm : Vm} {h : Heap} {x : Addr} (hal : Z.vm.Alike vm) (E : Exa Z h x "java/lang/String") (V : Fld Z h x "java/lang/String" "value" "[B" .null) : Safe Z EL vm h x := fun B => by
  obtain ⟨p, -, u, a, -, q, -, F, rfl | rfl⟩ := B
  · obtain ⟨cS, ⟨⟨s1, s2, s3, ⟨cv, kv, iv, s4, s4'⟩, ⟨cc, kc, ic, s5, s5'⟩, s6, s7, s8, s9, -⟩, -⟩, -⟩ := F
    obtain ⟨cl, c0, k0, i0, f0, v1, v2, v3, v4, v5, v6, v7⟩ := V
    obtain ⟨kv', z4⟩ := ff_back (U := Wst Z vm h) hal s4
    cases (show h[q.sa]? = some q.sC from s1).symm.trans v1
    have e := z4.symm.trans v2
    simp only [Option.some.injEq, Prod.mk.injEq] at e
    rw [← e.2.2.2, s8] at v7
    simp at v7
  · obtain ⟨cS, ⟨⟨-, -, -, -, -, -, -, -, -, s10, -⟩, -⟩, -, f, -⟩ := F
    obtain ⟨cell, k, e1, e2, e3, -, -⟩ := E
    cases (show h[q.sd]? = some q.SA from s10).symm.trans e1
    have f' : Z.vm.findClass "[B" = some q.SA.cls := by rw [← hal.findClass]; exact f
    obtain ⟨k1, q1, q2⟩ := Vm.findClass_spec f'
    obtain ⟨k2, q3, q4⟩ := Vm.findClass_spec e2
    cases q1.symm.trans q3
    exact absurd (q2.symm.trans q4) (by decide)
def own_Ch (x : Int32) : Prop := nar .char x = x ∧ ¬ x < 0 ∧ ¬ (255 : Int32) < x
theorem own_c255 (x : Int32) : ((x &&& (255 : Int32)).toUInt32.toUInt16.toUInt32.toInt32) = x &&& (255 : Int32) := by
  have a : ∀ n : Nat, n &&& 255 = n % 256 := fun n => Nat.and_two_pow_sub_one_eq_mod n 8
  apply Int32.toBitVec_inj.mp
  apply BitVec.eq_of_toNat_eq
  simp
  simp only [a]
  omega
theorem own_ch (x : Int32) : own_Ch ((x &&& (255 : Int32)).toUInt32.toUInt16.toUInt32.toInt32) := by
  have h := Jvm.Kit.i32_mask x 255 (k := 8) (by decide) (by decide)
  refine ⟨?_, ?_⟩
  · show (((x &&& (255 : Int32)).toUInt32.toUInt16.toUInt32.toInt32)).toUInt32.toUInt16.toUInt32.toInt32 = _
    rw [own_c255, own_c255]
  · rw [own_c255]
    simp only [Int32.lt_iff_toInt_lt, h, Int32.reduceToInt]
    omega
theorem own_fch {x : Int32} (h : own_Ch x) : fits .char (.int x) = true := by
  have q := fits_nar_char x
  rw [h.1] at q; exact q
def own_mk (l a b : Int32) : List Int32 := if l = (0 : Int32) then [] else if l = (1 : Int32) then [a] else [a, b]
theorem own_mk_ch {l a b : Int32} (ha : own_Ch a) (hb : own_Ch b) : ∀ c ∈ own_mk l a b, own_Ch c := by
  unfold own_mk
  intro c hc
  split at hc
  · simp at hc
  · split at hc <;> simp at hc
    · rw [hc]; exact ha
    · rcases hc with rfl | rfl
      · exact ha
      · exact hb
theorem own_mk_len {l a b : Int32} : (own_mk l a b).length ≤ 4000 := by
  unfold own_mk
  split
  · simp
  · split <;> simp
def own_leq (c d : List Int32) (l m : Int32) : Int32 := if c = d then (if l = m then (1 : Int32) else (0 : Int32)) else (0 : Int32)
theorem own_leq_refl (c : List Int32) (l : Int32) : own_leq c c l l = 1 := by unfold own_leq; rw [if_pos rfl, if_pos rfl]
theorem own_eqv {c d : List Int32} {v : Option Value} (h : (v = some (.int 1) ∧ c = d) ∨ (v = some (.int 0) ∧ ¬ c = d)) : v = some (.int (if c = d then (1 : Int32) else (0 : Int32))) := by
  rcases h with ⟨rfl, h⟩ | ⟨rfl, h⟩
  · rw [if_pos h]
  · rw [if_neg h]
def own_L3 (l : Int32) : Prop := l = 0 ∨ l = 1 ∨ l = 2
theorem own_l3 (x : Int32) : own_L3 ((x &&& (3 : Int32)) % (3 : Int32)) := by
  have h := Jvm.Kit.i32_mask x 3 (k := 2) (by decide) (by decide)
  have q := Jvm.Kit.i32_rem_nonneg (x := x &&& (3 : Int32)) (y := 3) (by rw [h]; omega)
  have e : (3 : Int32).toInt = 3 := by decide
  rw [e] at q
  unfold own_L3
  simp only [← Int32.toInt_inj, q, Int32.reduceToInt]; omega
theorem own_mx (x : Int32) : ¬ (if (1 : Int32) < x then x else (1 : Int32)) < (1 : Int32) := by
  split
  · rename_i h
    simp only [Int32.lt_iff_toInt_lt, Int32.reduceToInt] at *; omega
  · decide
theorem own_cz {Z : State} {h : Heap} {a : Addr} (F : Fld Z h a "java/lang/String" "coder" "B" (.int (nar .byte (0 : Int32)))) : Fld Z h a "java/lang/String" "coder" "B" (.int 0) := by
  have e : nar .byte (0 : Int32) = 0 := by decide
  rw [e] at F; exact F
theorem own_sf {l1 l2 c0 c1 d0 d1 : Int32} (h1 : own_L3 l1) (h2 : own_L3 l2) : (if l1 = l2 then (if l1 < (1 : Int32) then (if l1 < (2 : Int32) then (1 : Int32) else (if c1 = d1 then (1 : Int32) else (0 : Int32))) else (if c0 = d0 then (if l1 < (2 : Int32) then (1 : Int32) else (if c1 = d1 then (1 : Int32) else (0 : Int32))) else (0 : Int32))) else (0 : Int32)) = if own_mk l1 c0 c1 = own_mk l2 d0 d1 then (1 : Int32) else (0 : Int32) := by
  rcases h1 with rfl | rfl | rfl <;> rcases h2 with rfl | rfl | rfl <;> simp [own_mk]
  by_cases q : c0 = d0 <;> by_cases r : c1 = d1 <;> simp [q, r]
theorem own_fin {l1 l2 c0 c1 d0 d1 a b sf ex : Int32} (h1 : own_L3 l1) (h2 : own_L3 l2) (es : sf = (if l1 = l2 then (if l1 < (1 : Int32) then (if l1 < (2 : Int32) then (1 : Int32) else (if c1 = d1 then (1 : Int32) else (0 : Int32))) else (if c0 = d0 then (if l1 < (2 : Int32) then (1 : Int32) else (if c1 = d1 then (1 : Int32) else (0 : Int32))) else (0 : Int32))) else (0 : Int32)))
    (ee : ex = (if sf = (0 : Int32) then (0 : Int32) else (if a = b then (1 : Int32) else (0 : Int32)))) : own_leq (own_mk l1 c0 c1) (own_mk l2 d0 d1) a b = ex ∧ own_leq (own_mk l2 d0 d1) (own_mk l1 c0 c1) b a = ex := by
  rw [own_sf h1 h2] at es
  subst es ee
  unfold own_leq
  have r' : ¬ a = b → ¬ b = a := fun z y => z y.symm
  have q' : ¬ own_mk l1 c0 c1 = own_mk l2 d0 d1 → ¬ own_mk l2 d0 d1 = own_mk l1 c0 c1 := fun z y => z y.symm
  by_cases q : own_mk l1 c0 c1 = own_mk l2 d0 d1
  · by_cases r : a = b
    · subst r; simp [q]
    · simp [q, r, r' r]
  · simp [q, q' q]

def own_S (Z : State) (h : Heap) (f : Addr) (c : List Int32) : Prop := ∃ (t : Addr) (kb : ClassId) (N : Int32) (vs : List Value), Exa Z h f "java/lang/String" ∧ Fld Z h f "java/lang/String" "value" "[B" (.ref t) ∧ Fld Z h f "java/lang/String" "coder" "B" (.int 0) ∧ Arv Z h t kb .byte N vs (.int 0) ∧ StrChars.Road.CodA c 0 N vs
theorem own_b1 {a : Int32} (ha : own_Ch a) : ∀ c ∈ [a], ¬ c < 0 ∧ ¬ (255 : Int32) < c := fun c q => by rw [List.mem_singleton.mp q]; exact ha.2
theorem own_b2 {a b : Int32} (ha : own_Ch a) (hb : own_Ch b) : ∀ c ∈ [a, b], ¬ c < 0 ∧ ¬ (255 : Int32) < c := fun c q => by
  rcases List.mem_cons.mp q with rfl | q
  · exact ha.2
  · rw [List.mem_singleton.mp q]; exact hb.2
theorem own_b16 {l : List Int32} (h : ∀ c ∈ l, own_Ch c) : ∀ c ∈ l, ¬ c < 0 ∧ ¬ (65535 : Int32) < c := fun c q => by
  have r := (h c q).2
  simp only [Int32.lt_iff_toInt_lt, Int32.reduceToInt] at *
  omega
theorem own_leqz {c d : List Int32} {l m : Int32} (h : (if c = d then (1 : Int32) else (0 : Int32)) = (0 : Int32)) : own_leq c d l m = 0 := by
  by_cases q : c = d
  · rw [if_pos q] at h; exact absurd h (by decide)
  · unfold own_leq; rw [if_neg q]
theorem own_leqd {c d : List Int32} (h : ¬ (if c = d then (1 : Int32) else (0 : Int32)) = (0 : Int32)) : c = d := by
  by_cases q : c = d
  · exact q
  · rw [if_neg q] at h; exact absurd rfl h
theorem own_leq1 {c d : List Int32} {l m : Int32} (h : ¬ (if c = d then (1 : Int32) else (0 : Int32)) = (0 : Int32)) (r : l = m) : own_leq c d l m = 1 := by unfold own_leq; rw [if_pos (own_leqd h), if_pos r]
theorem own_leq2 {c d : List Int32} {l m : Int32} (h : ¬ (if c = d then (1 : Int32) else (0 : Int32)) = (0 : Int32)) (r : ¬ l = m) : own_leq c d l m = 0 := by unfold own_leq; rw [if_pos (own_leqd h), if_neg r]

theorem own_NSroot {Z : State} {a0 : Array Value} {O K : String} {n : Nat} (w : (Cond.noSuperclass O).before a0 Z = true) (wk : (Cond.instantiable K n).before a0 Z = true) (hn : O ≠ K) : NS Z O K := by
  obtain ⟨c, k, h1, h2, h3, -, -⟩ := Cond.noSuperclass_spec w
  obtain ⟨t, kt, g1, -⟩ := Cond.instantiable_spec wk
  have ne := ids_ne h1 g1 hn
  exact ⟨c, t, h1, g1, fun fuel => by cases fuel with | zero => rfl | succ f => simp [Vm.isSubclassAux, ne, h2, h3]⟩
theorem own_NSno {Z : State} {a0 : Array Value} {C S K : String} {n : Nat} (w : (Cond.superclass C S).before a0 Z = true) (wk : (Cond.instantiable K n).before a0 Z = true) (q : NS Z C K) (hn : C ≠ K) : ∃ c t, Z.vm.findClass C = some c ∧ Z.vm.findClass K = some t ∧ Z.vm.assignable c t = false := by
  obtain ⟨c, t, h0, g0, n3⟩ := q
  obtain ⟨p, k, kp, h1, h2, h3, h4, h5, -, h7⟩ := Cond.superclass_spec h0 w
  obtain ⟨t', k', g1, g2, g3, g4, -⟩ := Cond.instantiable_spec wk
  cases g0.symm.trans g1
  have g7 : k'.isInterface = false := by
    rw [Bool.or_eq_false_iff] at g4; exact g4.1
  have ne := ids_ne h0 g0 hn
  refine ⟨c, t, h0, g0, ?_⟩
  show Z.vm.assignableAux (255 + 1) c t = false
  simp [Vm.assignableAux, ne, h2, g2, h5, g3, g7, Vm.isSubclass, n3]

theorem d4_0 : decode jdk_42_method_149_code 0 = .ok (.aload_n 0, 1) := by decide +kernel
theorem d4_1 : decode jdk_42_method_149_code 1 = .ok (.invokespecial 1, 3) := by decide +kernel
theorem d4_4 : decode jdk_42_method_149_code 4 = .ok (.iload_n 3, 1) := by decide +kernel
theorem d4_5 : decode jdk_42_method_149_code 5 = .ok (.ifCond .ne 22, 3) := by decide +kernel
theorem d4_8 : decode jdk_42_method_149_code 8 = .ok (.aload_n 0, 1) := by decide +kernel
theorem d4_9 : decode jdk_42_method_149_code 9 = .ok (.ldc 7, 2) := by decide +kernel
theorem d4_11 : decode jdk_42_method_149_code 11 = .ok (.getfield 9, 3) := by decide +kernel
theorem d4_14 : decode jdk_42_method_149_code 14 = .ok (.putfield 9, 3) := by decide +kernel
theorem d4_17 : decode jdk_42_method_149_code 17 = .ok (.aload_n 0, 1) := by decide +kernel
theorem d4_18 : decode jdk_42_method_149_code 18 = .ok (.ldc 7, 2) := by decide +kernel
theorem d4_20 : decode jdk_42_method_149_code 20 = .ok (.getfield 15, 3) := by decide +kernel
theorem d4_23 : decode jdk_42_method_149_code 23 = .ok (.putfield 15, 3) := by decide +kernel
theorem d4_26 : decode jdk_42_method_149_code 26 = .ok (.return_, 1) := by decide +kernel
theorem pn_0 : plainName "java/lang/String" = true := by first | (simp [plainName, overriddenIn]; done) | decide +kernel
def QSI4 (Z : State) (a0_ : Addr) (a1_ : Addr)  (h0 : Heap) (n0 : Nat) (v : Option Value) (h : Heap) (L : List Loc) : Prop := v = none ∧ Fr n0 L ∧ Keep h0 h [a0_] ∧ Exa Z h a0_ "java/lang/String" ∧ Fld Z h a0_ "java/lang/String" "coder" "B" (.int 0) ∧ ∃ (t : Addr) (kb : ClassId), Fld Z h a0_ "java/lang/String" "value" "[B" (.ref t) ∧ Arv Z h t kb .byte (0 : Int32) [] (.int 0)
theorem ef_rmSI4 (m : MethodId) (a0_ : Addr) (a1_ : Addr) : entryFrame m #[(.ref a0_), (.ref a1_), (.int (0 : Int32)), (.int (0 : Int32)), .null] 6 = mkF m 0 #[rv a0_, rv a1_, iv (0 : Int32), iv (0 : Int32), .val .null, .unset] [] := by first | (simp [entryFrame, mkF, argsToLocals, Value.category]; done) | rfl
set_option maxRecDepth 65536 in
set_option maxHeartbeats 40000000 in
theorem rmSI4 (l : Launch) (Z : State) (a0 : Array Value) (hw : ∀ d ∈ tables_1, d.before a0 Z = true) (ws : List Jvm.Cond) (a0_ : Addr) (a1_ : Addr)  (h0 : Heap) (n0 : Nat) (Z0 : n0 ≤ h0.size) (E1 : Exa Z h0 a0_ "java/lang/String") (F1 : Fld Z h0 a0_ "java/lang/String" "value" "[B" .null) (F2 : Fld Z h0 a0_ "java/lang/String" "coder" "B" (.int (0 : Int32))) (g0 : n0 ≤ a0_) :
    MetFree l (⟨"java/lang/String", "<init>", "([CIILjava/lang/Void;)V"⟩ : MethodName) (head1 (Jvm.Cond.code (⟨"java/lang/String", "<init>", "([CIILjava/lang/Void;)V"⟩ : MethodName) jdk_42_method_149_code 6 none :: ws) ({ frames := 1, cells := 4, slots := 16, locals := 12 } : Room)) (fun a U => a = #[(.ref a0_), (.ref a1_), (.int (0 : Int32)), (.int (0 : Int32)), .null] ∧ Z.Warmed39 U.vm ∧ U.heap = h0 ∧ CHv Z own_EL U.vm h0) (fun _ _ _ _ _ => True) (fun _ U o U' => ∃ v L, o = .returned v ∧ QSI4 Z a0_ a1_ h0 n0 v U'.heap L ∧ CHr Z own_EL U.vm U.heap U'.vm U'.heap ∧ ReturnedEndW U o U' L ({ frames := 1, cells := 4, slots := 16, locals := 12 } : Room).cells ({ frames := 1, cells := 4, slots := 16, locals := 12 } : Room).slots) := by
  refine MetFree.of_bodySF (plainFor_of_name pn_0) hisR ?_
  intro p e s m args below meth c s₁ Bd hml0 hP hK
  obtain ⟨rfl, hZ, hh, hCH⟩ := hP
  have hx := Bd.exec
  have hby := Bd.bytes
  have hml : c.maxLocals = 6 := hml0
  have hown : s.vm.findClass "java/lang/String" = some m.cls := findClass_of_methodNamed Bd.named
  have hnm := (name_of_methodNamed Bd.named Bd.method).1
  have X0 : Stand p l e ({ frames := 1, cells := 4, slots := 16, locals := 12 } : Room) s m #[(.ref a0_), (.ref a1_), (.int (0 : Int32)), (.int (0 : Int32)), .null] below meth c s₁ [] 0 0 := Stand.of_body Bd
  have e0 : s₁.heap = h0 := by rw [← hh, Bd.state]; rfl
  have N0 := Fr.nil n0
  have S0 : ∀ t, Steps p.tables e below (s₁.setTop (mkF m 0 #[rv a0_, rv a1_, iv (0 : Int32), iv (0 : Int32), .val .null, .unset] [])) t → Steps p.tables e below (s₁.setTop (entryFrame m #[(.ref a0_), (.ref a1_), (.int (0 : Int32)), (.int (0 : Int32)), .null] 6)) t := fun t k => castTop (ef_rmSI4 m a0_ a1_) k
  have C0 : CHr Z own_EL s.vm h0 s.vm h0 := CHr.refl hCH
  have hEL : EW Z a0 own_EL := EW.cons (hw _ (List.mem_of_getElem? (i := 23) rfl)) (by decide) EW.nil
  have hwS : ∀ a ∈ Bundle.stringAtoms, a.before a0 Z = true := fun d hd => hw d ((by decide +kernel : ∀ d ∈ Bundle.stringAtoms, d ∈ tables_1) d hd)
  have hS : s.Since s.vm 0 := (State.WarmedH.refl s).since 0
  have hk0 : 0 ≤ h0.size := Nat.zero_le _
  have K0 : Keep h0 h0 [a0_] := Keep.refl _ _
  have sf0_ := own_safe0 (EL := own_EL) (vm := s.vm) hZ.alike E1 F1
  obtain ⟨T1, X1, e1, st1⟩ := initO X0 hx hZ hown (hw _ (List.mem_of_getElem? (i := 20) rfl)) (hw _ (List.mem_of_getElem? (i := 21) rfl)) (hw _ (List.mem_of_getElem? (i := 22) rfl)) e0 (g := (mkF m 1 #[rv a0_, rv a1_, iv (0 : Int32), iv (0 : Int32), .val .null, .unset] [(.ref a0_)])) rfl (by rw [hml]; rfl) rfl (hb hby d4_1) (by decide) (W := 0) (by show 2 * 0 + _ ≤ _; exact Nat.le_of_eq rfl) (by decide)
  have S2 : ∀ t, Steps p.tables e below (T1.setTop (mkF m 9 #[rv a0_, rv a1_, iv (0 : Int32), iv (0 : Int32), .val .null, .unset] [(.ref a0_)])) t → Steps p.tables e below (s₁.setTop (entryFrame m #[(.ref a0_), (.ref a1_), (.int (0 : Int32)), (.int (0 : Int32)), .null] 6)) t := by
    intro t k
    refine S0 t ?_
    show Steps p.tables e below (s₁.setTop (mkF m 0 #[rv a0_, rv a1_, iv (0 : Int32), iv (0 : Int32), .val .null, .unset] [])) _
    refine XS.aloadN X0.here hx rfl (hb hby d4_0) rfl rfl ?_
    show Steps p.tables e below (s₁.setTop (mkF m 1 #[rv a0_, rv a1_, iv (0 : Int32), iv (0 : Int32), .val .null, .unset] [(.ref a0_)])) _
    refine st1 _ ?_
    show Steps p.tables e below (T1.setTop (mkF m 4 #[rv a0_, rv a1_, iv (0 : Int32), iv (0 : Int32), .val .null, .unset] [])) _
    refine XS.iloadN X1.here hx rfl (hb hby d4_4) rfl ?_
    show Steps p.tables e below (T1.setTop (mkF m 5 #[rv a0_, rv a1_, iv (0 : Int32), iv (0 : Int32), .val .null, .unset] [(.int (0 : Int32))])) _
    refine XS.ifNo X1.here hx rfl (hb hby d4_5) rfl ((if0 _ _).trans (teq (by decide : (0 : Int32) = (0 : Int32))).2) ?_
    show Steps p.tables e below (T1.setTop (mkF m 8 #[rv a0_, rv a1_, iv (0 : Int32), iv (0 : Int32), .val .null, .unset] [])) _
    refine XS.aloadN X1.here hx rfl (hb hby d4_8) rfl rfl ?_
    exact k
  obtain ⟨lt3, T3, h3, kx3, bb3, kk3, X3, e3, E3, hS, hkx3, hZ, hown, Ex3, Fc3, Fv3, Va3, -, -, CC3, -, nes3, st3⟩ := ldcCH (s := s) (vm0 := s.vm) (EL := own_EL) X1 hx hZ hown (hw _ (List.mem_of_getElem? (i := 23) rfl)) hwS e1 hS hk0 hEL (List.mem_of_getElem? (i := 0) rfl) C0.1 (vs := []) (z := (0 : Int32)) ⟨by decide, rfl⟩ (by decide) rfl (g := (mkF m 9 #[rv a0_, rv a1_, iv (0 : Int32), iv (0 : Int32), .val .null, .unset] [(.ref a0_)])) rfl (hb hby d4_9) (n := 4) (by decide) (by decide) (by decide) (by decide)
  have f4 := E1.ext E3
  have f5 := F1.ext E3
  have f6 := F2.ext E3
  have Z3 : n0 ≤ h3.size := Nat.le_trans Z0 E3.1
  have K3 : Keep h0 h3 [a0_] := K0.ext E3
  have C3 := C0.trans CC3
  have sf7 := CC3.safe (E1).lt sf0_
  have ne_a0__bb3 := (nes3 _ sf7).2
  have ne_a0__lt3 := (nes3 _ sf7).1
  have S8 : ∀ t, Steps p.tables e below (T3.setTop (mkF m 11 #[rv a0_, rv a1_, iv (0 : Int32), iv (0 : Int32), .val .null, .unset] [(.ref lt3), (.ref a0_)])) t → Steps p.tables e below (s₁.setTop (entryFrame m #[(.ref a0_), (.ref a1_), (.int (0 : Int32)), (.int (0 : Int32)), .null] 6)) t := by
    intro t k
    refine S2 t ?_
    show Steps p.tables e below (T1.setTop (mkF m 9 #[rv a0_, rv a1_, iv (0 : Int32), iv (0 : Int32), .val .null, .unset] [(.ref a0_)])) _
    refine st3 _ ?_
    exact k
  obtain ⟨T9, X9, e9, st9⟩ := getF X3 hx hZ hown (host := "") (Or.inl (hw _ (List.mem_of_getElem? (i := 29) rfl))) Via.refl e3 Fv3 (g := (mkF m 11 #[rv a0_, rv a1_, iv (0 : Int32), iv (0 : Int32), .val .null, .unset] [(.ref lt3), (.ref a0_)])) rfl rfl (hb hby d4_11)
  obtain ⟨T10, h10, X10, e10, W10, st10⟩ := putF X9 hx hZ hown (host := "") (Or.inl (hw _ (List.mem_of_getElem? (i := 29) rfl))) Via.refl e9 f5 f4 (Or.inr ⟨(hw _ (List.mem_of_getElem? (i := 25) rfl)), rfl, hnm⟩) (hw _ (List.mem_of_getElem? (i := 10) rfl)) (ty := (.array .byte)) (by decide) rfl rfl (g := (mkF m 14 #[rv a0_, rv a1_, iv (0 : Int32), iv (0 : Int32), .val .null, .unset] [(.ref bb3), (.ref a0_)])) rfl rfl (hb hby d4_14)
  have Fw10 := f5.same W10
  have f11 := f6.other W10 (Or.inr (slot_ne (Or.inr (hw _ (List.mem_of_getElem? (i := 26) rfl))) (Or.inr (hw _ (List.mem_of_getElem? (i := 25) rfl))) (by decide) (t := .byte) (t' := (.array .byte)) (by decide) (by decide)))
  have f12 := f4.wr W10
  have C13 := C3.trans (CHr.wr W10 sf7 C3.1)
  have sf14 := Safe.wr W10 sf7 C3.1 sf7
  have hk15 := Nat.le_trans hkx3 (Keep.of_wr W10).1
  have f19 := Fv3.other W10 (Or.inl (Ne.symm ne_a0__lt3))
  have f20 := Fc3.other W10 (Or.inl (Ne.symm ne_a0__lt3))
  have f21 := Va3.other W10 (Ne.symm ne_a0__bb3)
  have N10 := Fr.snoc X10 N0 g0
  have Z10 : n0 ≤ h10.size := Nat.le_trans Z3 (Keep.of_wr W10).1
  have K10 : Keep h0 h10 [a0_] := K3.wr W10 (Or.inl (List.mem_of_getElem? (i := 0) rfl))
  have S22 : ∀ t, Steps p.tables e below (T10.setTop (mkF m 18 #[rv a0_, rv a1_, iv (0 : Int32), iv (0 : Int32), .val .null, .unset] [(.ref a0_)])) t → Steps p.tables e below (s₁.setTop (entryFrame m #[(.ref a0_), (.ref a1_), (.int (0 : Int32)), (.int (0 : Int32)), .null] 6)) t := by
    intro t k
    refine S8 t ?_
    show Steps p.tables e below (T3.setTop (mkF m 11 #[rv a0_, rv a1_, iv (0 : Int32), iv (0 : Int32), .val .null, .unset] [(.ref lt3), (.ref a0_)])) _
    refine st9 _ ?_
    show Steps p.tables e below (T9.setTop (mkF m 14 #[rv a0_, rv a1_, iv (0 : Int32), iv (0 : Int32), .val .null, .unset] [(.ref bb3), (.ref a0_)])) _
    refine st10 _ ?_
    show Steps p.tables e below (T10.setTop (mkF m 17 #[rv a0_, rv a1_, iv (0 : Int32), iv (0 : Int32), .val .null, .unset] [])) _
    refine XS.aloadN X10.here hx rfl (hb hby d4_17) rfl rfl ?_
    exact k
  obtain ⟨lt23, T23, h23, kx23, bb23, kk23, X23, e23, E23, hS, hkx23, hZ, hown, Ex23, Fc23, Fv23, Va23, -, -, CC23, -, nes23, st23⟩ := ldcCH (s := s) (vm0 := T3.vm) (EL := own_EL) X10 hx hZ hown (hw _ (List.mem_of_getElem? (i := 23) rfl)) hwS e10 hS hk15 hEL (List.mem_of_getElem? (i := 0) rfl) C13.1 (vs := []) (z := (0 : Int32)) ⟨by decide, rfl⟩ (by decide) rfl (g := (mkF m 18 #[rv a0_, rv a1_, iv (0 : Int32), iv (0 : Int32), .val .null, .unset] [(.ref a0_)])) rfl (hb hby d4_18) (n := 4) (by decide) (by decide) (by decide) (by decide)
  have f24 := f12.ext E23
  have f25 := Fw10.ext E23
  have f26 := f11.ext E23
  have f27 := f21.ext E23
  have Z23 : n0 ≤ h23.size := Nat.le_trans Z10 E23.1
  have K23 : Keep h0 h23 [a0_] := K10.ext E23
  have C23 := C13.trans CC23
  have sf28 := CC23.safe (f12).lt sf14
  have ne_a0__bb23 := (nes23 _ sf28).2
  have ne_a0__lt23 := (nes23 _ sf28).1
  have S29 : ∀ t, Steps p.tables e below (T23.setTop (mkF m 20 #[rv a0_, rv a1_, iv (0 : Int32), iv (0 : Int32), .val .null, .unset] [(.ref lt23), (.ref a0_)])) t → Steps p.tables e below (s₁.setTop (entryFrame m #[(.ref a0_), (.ref a1_), (.int (0 : Int32)), (.int (0 : Int32)), .null] 6)) t := by
    intro t k
    refine S22 t ?_
    show Steps p.tables e below (T10.setTop (mkF m 18 #[rv a0_, rv a1_, iv (0 : Int32), iv (0 : Int32), .val .null, .unset] [(.ref a0_)])) _
    refine st23 _ ?_
    exact k
  obtain ⟨T30, X30, e30, st30⟩ := getF X23 hx hZ hown (host := "") (Or.inl (hw _ (List.mem_of_getElem? (i := 30) rfl))) Via.refl e23 Fc23 (g := (mkF m 20 #[rv a0_, rv a1_, iv (0 : Int32), iv (0 : Int32), .val .null, .unset] [(.ref lt23), (.ref a0_)])) rfl rfl (hb hby d4_20)
  obtain ⟨T31, h31, X31, e31, W31, st31⟩ := putFN X30 hx hZ hown (hw _ (List.mem_of_getElem? (i := 30) rfl)) Via.refl e30 f26 f24 (Or.inr ⟨(hw _ (List.mem_of_getElem? (i := 26) rfl)), rfl, hnm⟩) (hw _ (List.mem_of_getElem? (i := 10) rfl)) (ty := .byte) (v' := (.int (nar .byte (0 : Int32)))) (by decide) rfl (fits_nar_byte _) (g := (mkF m 23 #[rv a0_, rv a1_, iv (0 : Int32), iv (0 : Int32), .val .null, .unset] [(.int (0 : Int32)), (.ref a0_)])) rfl rfl (hb hby d4_23)
  have Fw31 := f26.same W31
  have f32 := f25.other W31 (Or.inr (slot_ne (Or.inr (hw _ (List.mem_of_getElem? (i := 25) rfl))) (Or.inr (hw _ (List.mem_of_getElem? (i := 26) rfl))) (by decide) (t := (.array .byte)) (t' := .byte) (by decide) (by decide)))
  have f33 := f24.wr W31
  have C34 := C23.trans (CHr.wr W31 sf28 C23.1)
  have sf35 := Safe.wr W31 sf28 C23.1 sf28
  have hk36 := Nat.le_trans hkx23 (Keep.of_wr W31).1
  have f40 := f27.other W31 (Ne.symm ne_a0__bb3)
  have f41 := Fv23.other W31 (Or.inl (Ne.symm ne_a0__lt23))
  have f42 := Fc23.other W31 (Or.inl (Ne.symm ne_a0__lt23))
  have f43 := Va23.other W31 (Ne.symm ne_a0__bb23)
  have N31 := Fr.snoc X31 N10 g0
  have Z31 : n0 ≤ h31.size := Nat.le_trans Z23 (Keep.of_wr W31).1
  have K31 : Keep h0 h31 [a0_] := K23.wr W31 (Or.inl (List.mem_of_getElem? (i := 0) rfl))
  obtain ⟨fs, hr, hrun, hended, hR1, hR2, hR3, hR4⟩ := Stand.leaveW (s := s) (vm₁ := T23.vm) X31 hS (by rw [e31]; exact hk36) (v := none) (fun _ => rfl)
  have CF_ : CHr Z own_EL s.vm s.heap T31.vm T31.heap := by
    rw [hh, e31]
    exact C34.trans (CHv.at (s := s) (vm0 := T23.vm) X31 hZ hEL C34.1)
  refine ⟨_, _, S29 _ ?_, hrun, hended, _, _, rfl, ?_, CF_, hR1, hR2, hR3, hR4.mono (by decide) (by decide)⟩
  · skip
    show Steps p.tables e below (T23.setTop (mkF m 20 #[rv a0_, rv a1_, iv (0 : Int32), iv (0 : Int32), .val .null, .unset] [(.ref lt23), (.ref a0_)])) _
    refine st30 _ ?_
    show Steps p.tables e below (T30.setTop (mkF m 23 #[rv a0_, rv a1_, iv (0 : Int32), iv (0 : Int32), .val .null, .unset] [(.int (0 : Int32)), (.ref a0_)])) _
    refine st31 _ ?_
    show Steps p.tables e below (T31.setTop (mkF m 26 #[rv a0_, rv a1_, iv (0 : Int32), iv (0 : Int32), .val .null, .unset] [])) _
    exact X31.returnOut hx Bd.returns (hb hby d4_26) hr
  · show QSI4 Z a0_ a1_ h0 n0 _ T31.heap _
    rw [e31]
    exact ⟨rfl, N31, K31, f33, (own_cz Fw31), bb3, _, f32, f40⟩
theorem d3_0 : decode jdk_42_method_3_code 0 = .ok (.aload_n 0, 1) := by decide +kernel
theorem d3_1 : decode jdk_42_method_3_code 1 = .ok (.aload_n 1, 1) := by decide +kernel
theorem d3_2 : decode jdk_42_method_3_code 2 = .ok (.iconst 0, 1) := by decide +kernel
theorem d3_3 : decode jdk_42_method_3_code 3 = .ok (.aload_n 1, 1) := by decide +kernel
theorem d3_4 : decode jdk_42_method_3_code 4 = .ok (.arraylength, 1) := by decide +kernel
theorem d3_5 : decode jdk_42_method_3_code 5 = .ok (.aconst_null, 1) := by decide +kernel
theorem d3_6 : decode jdk_42_method_3_code 6 = .ok (.invokespecial 27, 3) := by decide +kernel
theorem pd_0 : parseMethodDescriptor "([CIILjava/lang/Void;)V" = some ⟨[(.array .char), .int, .int, (.object "java/lang/Void")], none⟩ := by decide +kernel
theorem d3_9 : decode jdk_42_method_3_code 9 = .ok (.return_, 1) := by decide +kernel
def QSI1 (Z : State) (a0_ : Addr) (a1_ : Addr) (kk : ClassId) (h0 : Heap) (n0 : Nat) (v : Option Value) (h : Heap) (L : List Loc) : Prop := v = none ∧ Fr n0 L ∧ Keep h0 h [a0_] ∧ Exa Z h a0_ "java/lang/String" ∧ Fld Z h a0_ "java/lang/String" "coder" "B" (.int 0) ∧ ∃ (t : Addr) (kb : ClassId), Fld Z h a0_ "java/lang/String" "value" "[B" (.ref t) ∧ Arv Z h t kb .byte (0 : Int32) [] (.int 0)
theorem ef_rmSI1 (m : MethodId) (a0_ : Addr) (a1_ : Addr) : entryFrame m #[(.ref a0_), (.ref a1_)] 2 = mkF m 0 #[rv a0_, rv a1_] [] := by first | (simp [entryFrame, mkF, argsToLocals, Value.category]; done) | rfl
set_option maxRecDepth 65536 in
set_option maxHeartbeats 40000000 in
theorem rmSI1 (l : Launch) (Z : State) (a0 : Array Value) (hw : ∀ d ∈ tables_1, d.before a0 Z = true) (ws : List Jvm.Cond) (a0_ : Addr) (a1_ : Addr) (kk : ClassId) (h0 : Heap) (n0 : Nat) (Z0 : n0 ≤ h0.size) (E1 : Exa Z h0 a0_ "java/lang/String") (F1 : Fld Z h0 a0_ "java/lang/String" "value" "[B" .null) (F2 : Fld Z h0 a0_ "java/lang/String" "coder" "B" (.int (0 : Int32))) (g0 : n0 ≤ a0_) (V1 : Arv Z h0 a1_ kk .char (0 : Int32) [] (.int (0 : Int32))) :
    MetFree l (⟨"java/lang/String", "<init>", "([C)V"⟩ : MethodName) (head1 (Jvm.Cond.code (⟨"java/lang/String", "<init>", "([C)V"⟩ : MethodName) jdk_42_method_3_code 2 none :: ws) ({ frames := 2, cells := 4, slots := 16, locals := 29 } : Room)) (fun a U => a = #[(.ref a0_), (.ref a1_)] ∧ Z.Warmed39 U.vm ∧ U.heap = h0 ∧ CHv Z own_EL U.vm h0) (fun _ _ _ _ _ => True) (fun _ U o U' => ∃ v L, o = .returned v ∧ QSI1 Z a0_ a1_ kk h0 n0 v U'.heap L ∧ CHr Z own_EL U.vm U.heap U'.vm U'.heap ∧ ReturnedEndW U o U' L ({ frames := 2, cells := 4, slots := 16, locals := 29 } : Room).cells ({ frames := 2, cells := 4, slots := 16, locals := 29 } : Room).slots) := by
  refine MetFree.of_bodySF (plainFor_of_name pn_0) hisR ?_
  intro p e s m args below meth c s₁ Bd hml0 hP hK
  obtain ⟨rfl, hZ, hh, hCH⟩ := hP
  have hx := Bd.exec
  have hby := Bd.bytes
  have hml : c.maxLocals = 2 := hml0
  have hown : s.vm.findClass "java/lang/String" = some m.cls := findClass_of_methodNamed Bd.named
  have hnm := (name_of_methodNamed Bd.named Bd.method).1
  have X0 : Stand p l e ({ frames := 2, cells := 4, slots := 16, locals := 29 } : Room) s m #[(.ref a0_), (.ref a1_)] below meth c s₁ [] 0 0 := Stand.of_body Bd
  have e0 : s₁.heap = h0 := by rw [← hh, Bd.state]; rfl
  have N0 := Fr.nil n0
  have S0 : ∀ t, Steps p.tables e below (s₁.setTop (mkF m 0 #[rv a0_, rv a1_] [])) t → Steps p.tables e below (s₁.setTop (entryFrame m #[(.ref a0_), (.ref a1_)] 2)) t := fun t k => castTop (ef_rmSI1 m a0_ a1_) k
  have C0 : CHr Z own_EL s.vm h0 s.vm h0 := CHr.refl hCH
  have hEL : EW Z a0 own_EL := EW.cons (hw _ (List.mem_of_getElem? (i := 23) rfl)) (by decide) EW.nil
  have hwS : ∀ a ∈ Bundle.stringAtoms, a.before a0 Z = true := fun d hd => hw d ((by decide +kernel : ∀ d ∈ Bundle.stringAtoms, d ∈ tables_1) d hd)
  have hS : s.Since s.vm 0 := (State.WarmedH.refl s).since 0
  have hk0 : 0 ≤ h0.size := Nat.zero_le _
  have K0 : Keep h0 h0 [a0_] := Keep.refl _ _
  obtain ⟨cl1, Ar1, qa1, Sa1, Na1, Ha1, Ga1⟩ := id V1
  have S3 : ∀ t, Steps p.tables e below (s₁.setTop (mkF m 6 #[rv a0_, rv a1_] [.null, (.int (0 : Int32)), (.int (0 : Int32)), (.ref a1_), (.ref a0_)])) t → Steps p.tables e below (s₁.setTop (entryFrame m #[(.ref a0_), (.ref a1_)] 2)) t := by
    intro t k
    refine S0 t ?_
    show Steps p.tables e below (s₁.setTop (mkF m 0 #[rv a0_, rv a1_] [])) _
    refine XS.aloadN X0.here hx rfl (hb hby d3_0) rfl rfl ?_
    show Steps p.tables e below (s₁.setTop (mkF m 1 #[rv a0_, rv a1_] [(.ref a0_)])) _
    refine XS.aloadN X0.here hx rfl (hb hby d3_1) rfl rfl ?_
    show Steps p.tables e below (s₁.setTop (mkF m 2 #[rv a0_, rv a1_] [(.ref a1_), (.ref a0_)])) _
    refine XS.iconst X0.here hx rfl (hb hby d3_2) ?_
    show Steps p.tables e below (s₁.setTop (mkF m 3 #[rv a0_, rv a1_] [(.int (0 : Int32)), (.ref a1_), (.ref a0_)])) _
    refine XS.aloadN X0.here hx rfl (hb hby d3_3) rfl rfl ?_
    show Steps p.tables e below (s₁.setTop (mkF m 4 #[rv a0_, rv a1_] [(.ref a1_), (.int (0 : Int32)), (.ref a1_), (.ref a0_)])) _
    refine X0.arraylength hx (by rw [e0]; exact Ar1.1) (State.isArrayOf_alike hZ.alike Ar1.2.1) (g := (mkF m 4 #[rv a0_, rv a1_] [(.ref a1_), (.int (0 : Int32)), (.ref a1_), (.ref a0_)])) rfl rfl (hb hby d3_4) _ ?_
    rw [len_of Sa1 Na1]
    show Steps p.tables e below (s₁.setTop (mkF m 5 #[rv a0_, rv a1_] [(.int (0 : Int32)), (.int (0 : Int32)), (.ref a1_), (.ref a0_)])) _
    refine XS.aconstNull X0.here hx rfl (hb hby d3_5) ?_
    exact k
  obtain ⟨_, _, ⟨T2, L2, k2, n2⟩, -, X2, hSn2, hgr2, ⟨Lc2, hQ2, l2, y2, z2, CC2⟩, st2⟩ := X0.specialBackS hx (y := (⟨"java/lang/String", "<init>", "([CIILjava/lang/Void;)V"⟩ : MethodName)) rfl hown (mvT hZ (hw _ (List.mem_of_getElem? (i := 16) rfl))) (mvT hZ (hw _ (List.mem_of_getElem? (i := 17) rfl))) (mvT hZ (hw _ (List.mem_of_getElem? (i := 19) rfl))) (by decide) (backOfSH (s := s) (vm0 := s.vm) (EL := own_EL) (W := 0) (rmSI4 l Z a0 hw [] a0_ a1_ h0 n0 Z0 E1 F1 F2 g0) hZ (hw _ (List.mem_of_getElem? (i := 19) rfl)) (hw _ (List.mem_of_getElem? (i := 11) rfl)) (by decide) (by decide) hEL C0.1) (g := (mkF m 6 #[rv a0_, rv a1_] [.null, (.int (0 : Int32)), (.int (0 : Int32)), (.ref a1_), (.ref a0_)])) rfl (by rw [hml]; rfl) (Steps.refl _) (a := a0_) (argsL := [(.ref a1_), (.int (0 : Int32)), (.int (0 : Int32)), .null]) (rest := []) (lenOf pd_0 rfl) rfl (by show 2 * 0 + _ ≤ _; exact Nat.le_of_eq rfl) (hb hby d3_6) (fun _ _ => ⟨rfl, e0, (by decide : 0 + 4 ≤ _), (by decide : 0 + 16 ≤ _)⟩)
  dsimp only [Pt.U, Pt.locs, Pt.cells, Pt.slots] at X2 l2 y2 z2 st2 hQ2 hSn2 hgr2 CC2
  subst y2 z2
  obtain ⟨rfl, Nq2, Kq2, Eq2, Fc2, tq2, kb2, Fv2, Vq2⟩ := hQ2
  have N2 : Fr n0 L2 := by rw [l2]; exact Fr.app N0 Nq2
  have hS := hS.trans hSn2 (Nat.le_trans hk0 (by rw [← e0]; exact hgr2))
  have hZ : Z.Warmed39 (s.setVm T2.vm).vm := State.Warmed39.trans (t := s.setVm s.vm) hZ hSn2.1
  have hown : (s.setVm T2.vm).vm.findClass "java/lang/String" = some m.cls := by rw [show (s.setVm T2.vm).vm = T2.vm from rfl, hSn2.1.alike.findClass]; exact hown
  have hkq2 : T2.heap.size ≤ T2.heap.size := Nat.le_refl _
  have C2 := C0.trans CC2
  have S4 : ∀ t, Steps p.tables e below (T2.setTop (mkF m 9 #[rv a0_, rv a1_] [])) t → Steps p.tables e below (s₁.setTop (entryFrame m #[(.ref a0_), (.ref a1_)] 2)) t := by
    intro t k
    refine S3 t ?_
    show Steps p.tables e below (s₁.setTop (mkF m 6 #[rv a0_, rv a1_] [.null, (.int (0 : Int32)), (.int (0 : Int32)), (.ref a1_), (.ref a0_)])) _
    refine st2.trans ?_
    exact k
  obtain ⟨fs, hr, hrun, hended, hR1, hR2, hR3, hR4⟩ := Stand.leaveW (s := s) (vm₁ := T2.vm) X2 hS (by show _ ≤ _; exact hkq2) (v := none) (fun _ => rfl)
  have CF_ : CHr Z own_EL s.vm s.heap T2.vm T2.heap := by
    rw [hh]
    exact C2.trans (CHv.at (s := s) (vm0 := T2.vm) X2 hZ hEL C2.1)
  refine ⟨_, _, S4 _ ?_, hrun, hended, _, _, rfl, ?_, CF_, hR1, hR2, hR3, hR4.mono (by decide) (by decide)⟩
  · skip
    show Steps p.tables e below (T2.setTop (mkF m 9 #[rv a0_, rv a1_] [])) _
    exact X2.returnOut hx Bd.returns (hb hby d3_9) hr
  · show QSI1 Z a0_ a1_ kk h0 n0 _ T2.heap _
    exact ⟨rfl, N2, Kq2, Eq2, Fc2, tq2, kb2, Fv2, Vq2⟩
theorem d2_0 : decode method_2_code 0 = .ok (.iload_n 0, 1) := by decide +kernel
theorem d2_1 : decode method_2_code 1 = .ok (.ifCond .ne 14, 3) := by decide +kernel
theorem d2_4 : decode method_2_code 4 = .ok (.new 7, 3) := by decide +kernel
theorem d2_7 : decode method_2_code 7 = .ok (.dup, 1) := by decide +kernel
theorem d2_8 : decode method_2_code 8 = .ok (.iconst 0, 1) := by decide +kernel
theorem d2_9 : decode method_2_code 9 = .ok (.newarray .char, 2) := by decide +kernel
theorem d2_11 : decode method_2_code 11 = .ok (.invokespecial 9, 3) := by decide +kernel
theorem pd_1 : parseMethodDescriptor "([C)V" = some ⟨[(.array .char)], none⟩ := by decide +kernel
theorem d2_14 : decode method_2_code 14 = .ok (.areturn, 1) := by decide +kernel
theorem d2_15 : decode method_2_code 15 = .ok (.iload_n 0, 1) := by decide +kernel
theorem d2_16 : decode method_2_code 16 = .ok (.iconst 1, 1) := by decide +kernel
theorem d2_17 : decode method_2_code 17 = .ok (.if_icmp .ne 18, 3) := by decide +kernel
theorem d2_20 : decode method_2_code 20 = .ok (.new 7, 3) := by decide +kernel
theorem d2_23 : decode method_2_code 23 = .ok (.dup, 1) := by decide +kernel
theorem d2_24 : decode method_2_code 24 = .ok (.iconst 1, 1) := by decide +kernel
theorem d2_25 : decode method_2_code 25 = .ok (.newarray .char, 2) := by decide +kernel
theorem d2_27 : decode method_2_code 27 = .ok (.dup, 1) := by decide +kernel
theorem d2_28 : decode method_2_code 28 = .ok (.iconst 0, 1) := by decide +kernel
theorem d2_29 : decode method_2_code 29 = .ok (.iload_n 1, 1) := by decide +kernel
theorem d2_30 : decode method_2_code 30 = .ok (.castore, 1) := by decide +kernel
theorem d2_31 : decode method_2_code 31 = .ok (.invokespecial 9, 3) := by decide +kernel
theorem d2_34 : decode method_2_code 34 = .ok (.areturn, 1) := by decide +kernel
theorem d2_35 : decode method_2_code 35 = .ok (.new 7, 3) := by decide +kernel
theorem d2_38 : decode method_2_code 38 = .ok (.dup, 1) := by decide +kernel
theorem d2_39 : decode method_2_code 39 = .ok (.iconst 2, 1) := by decide +kernel
theorem d2_40 : decode method_2_code 40 = .ok (.newarray .char, 2) := by decide +kernel
theorem d2_42 : decode method_2_code 42 = .ok (.dup, 1) := by decide +kernel
theorem d2_43 : decode method_2_code 43 = .ok (.iconst 0, 1) := by decide +kernel
theorem d2_44 : decode method_2_code 44 = .ok (.iload_n 1, 1) := by decide +kernel
theorem d2_45 : decode method_2_code 45 = .ok (.castore, 1) := by decide +kernel
theorem d2_46 : decode method_2_code 46 = .ok (.dup, 1) := by decide +kernel
theorem d2_47 : decode method_2_code 47 = .ok (.iconst 1, 1) := by decide +kernel
theorem d2_48 : decode method_2_code 48 = .ok (.iload_n 2, 1) := by decide +kernel
theorem d2_49 : decode method_2_code 49 = .ok (.castore, 1) := by decide +kernel
theorem d2_50 : decode method_2_code 50 = .ok (.invokespecial 9, 3) := by decide +kernel
theorem d2_53 : decode method_2_code 53 = .ok (.areturn, 1) := by decide +kernel
theorem pn_1 : plainName "com/example/kilit/kilit/source/LocationEqualsPinLaw" = true := by first | (simp [plainName, overriddenIn]; done) | decide +kernel
def QMk (Z : State) (u0 : Int32) (u1 : Int32) (u2 : Int32) (G1 : Int32) (h0 : Heap) (n0 : Nat) (v : Option Value) (h : Heap) (L : List Loc) : Prop := ∃ (b t : Addr) (kb : ClassId) (N : Int32) (vs : List Value), v = some (.ref b) ∧ Fr n0 L ∧ Keep h0 h [] ∧ n0 ≤ b ∧ h0.size ≤ b ∧ Exa Z h b "java/lang/String" ∧ Fld Z h b "java/lang/String" "value" "[B" (.ref t) ∧ Fld Z h b "java/lang/String" "coder" "B" (.int 0) ∧ Arv Z h t kb .byte N vs (.int 0) ∧ StrChars.Road.CodA (own_mk u0 u1 u2) 0 N vs
theorem ef_rmMk (m : MethodId) (u0 : Int32) (u1 : Int32) (u2 : Int32) : entryFrame m #[(.int u0), (.int u1), (.int u2)] 3 = mkF m 0 #[iv u0, iv u1, iv u2] [] := by first | (simp [entryFrame, mkF, argsToLocals, Value.category]; done) | rfl
set_option maxRecDepth 65536 in
set_option maxHeartbeats 40000000 in
theorem rmMk (l : Launch) (Z : State) (a0 : Array Value) (hw : ∀ d ∈ tables_1, d.before a0 Z = true) (ws : List Jvm.Cond) (u0 : Int32) (u1 : Int32) (u2 : Int32) (G1 : Int32) (h0 : Heap) (n0 : Nat) (Z0 : n0 ≤ h0.size) (hO : Old Z n0 h0) (O2 : Sta Z Z.heap "java/lang/String" "COMPACT_STRINGS" "Z" (.int G1)) (P3 : ¬ (G1 = (0 : Int32))) (hch1 : own_Ch u1) (hch2 : own_Ch u2) :
    MetFree l (⟨"com/example/kilit/kilit/source/LocationEqualsPinLaw", "mk", "(ICC)Ljava/lang/String;"⟩ : MethodName) (head1 (Jvm.Cond.code (⟨"com/example/kilit/kilit/source/LocationEqualsPinLaw", "mk", "(ICC)Ljava/lang/String;"⟩ : MethodName) method_2_code 3 (some (.object "java/lang/String")) :: ws) ({ frames := 4, cells := 6, slots := 20, locals := 66 } : Room)) (fun a U => a = #[(.int u0), (.int u1), (.int u2)] ∧ Z.Warmed39 U.vm ∧ U.heap = h0 ∧ CHv Z own_EL U.vm h0) (fun _ _ _ _ _ => True) (fun _ U o U' => ∃ v L, o = .returned v ∧ QMk Z u0 u1 u2 G1 h0 n0 v U'.heap L ∧ CHr Z own_EL U.vm U.heap U'.vm U'.heap ∧ ReturnedEndW U o U' L ({ frames := 4, cells := 6, slots := 20, locals := 66 } : Room).cells ({ frames := 4, cells := 6, slots := 20, locals := 66 } : Room).slots) := by
  refine MetFree.of_bodySF (plainFor_of_name pn_1) hisR ?_
  intro p e s m args below meth c s₁ Bd hml0 hP hK
  obtain ⟨rfl, hZ, hh, hCH⟩ := hP
  have hx := Bd.exec
  have hby := Bd.bytes
  have hml : c.maxLocals = 3 := hml0
  have hown : s.vm.findClass "com/example/kilit/kilit/source/LocationEqualsPinLaw" = some m.cls := findClass_of_methodNamed Bd.named
  have hnm := (name_of_methodNamed Bd.named Bd.method).1
  have X0 : Stand p l e ({ frames := 4, cells := 6, slots := 20, locals := 66 } : Room) s m #[(.int u0), (.int u1), (.int u2)] below meth c s₁ [] 0 0 := Stand.of_body Bd
  have e0 : s₁.heap = h0 := by rw [← hh, Bd.state]; rfl
  have N0 := Fr.nil n0
  have S0 : ∀ t, Steps p.tables e below (s₁.setTop (mkF m 0 #[iv u0, iv u1, iv u2] [])) t → Steps p.tables e below (s₁.setTop (entryFrame m #[(.int u0), (.int u1), (.int u2)] 3)) t := fun t k => castTop (ef_rmMk m u0 u1 u2) k
  have C0 : CHr Z own_EL s.vm h0 s.vm h0 := CHr.refl hCH
  have hEL : EW Z a0 own_EL := EW.cons (hw _ (List.mem_of_getElem? (i := 23) rfl)) (by decide) EW.nil
  have hwS : ∀ a ∈ Bundle.stringAtoms, a.before a0 Z = true := fun d hd => hw d ((by decide +kernel : ∀ d ∈ Bundle.stringAtoms, d ∈ tables_1) d hd)
  have hS : s.Since s.vm 0 := (State.WarmedH.refl s).since 0
  have hk0 : 0 ≤ h0.size := Nat.zero_le _
  have K0 : Keep h0 h0 [] := Keep.refl _ _
  have hws : ∀ d ∈ StrChars.Road.words, d.before a0 Z = true := fun d hd => hw d ((by decide +kernel : ∀ d ∈ StrChars.Road.words, d ∈ tables_1) d hd)
  have S1 : ∀ t, Steps p.tables e below (s₁.setTop (mkF m 1 #[iv u0, iv u1, iv u2] [(.int u0)])) t → Steps p.tables e below (s₁.setTop (entryFrame m #[(.int u0), (.int u1), (.int u2)] 3)) t := by
    intro t k
    refine S0 t ?_
    show Steps p.tables e below (s₁.setTop (mkF m 0 #[iv u0, iv u1, iv u2] [])) _
    refine XS.iloadN X0.here hx rfl (hb hby d2_0) rfl ?_
    exact k
  by_cases hc2 : u0 = (0 : Int32)
  · skip
    obtain ⟨T3, h3, X3, e3, E3, A3, D3, -, st3⟩ := newO X0 hx hZ hown (hw _ (List.mem_of_getElem? (i := 9) rfl)) (hw _ (List.mem_of_getElem? (i := 10) rfl)) (hw _ (List.mem_of_getElem? (i := 11) rfl)) e0 (g := (mkF m 4 #[iv u0, iv u1, iv u2] [])) rfl (hb hby d2_4) (by decide) (by decide)
    obtain ⟨b3, g3⟩ : ∃ z, z = h0.size := ⟨_, rfl⟩
    rw [← g3] at A3 D3 st3
    have ge_b3 : n0 ≤ b3 := Nat.le_trans Z0 (Nat.le_of_eq g3.symm)
    have C4 := C0.trans (CHr.ext E3 C0.1)
    have hk5 := Nat.le_trans hk0 E3.1
    have Od6 := hO.ext E3
    have F3_value : Fld Z h3 b3 "java/lang/String" "value" "[B" .null := D3 (Or.inr (hw _ (List.mem_of_getElem? (i := 25) rfl))) (ty := (.array .byte)) (by decide)
    have F3_coder : Fld Z h3 b3 "java/lang/String" "coder" "B" (.int (0 : Int32)) := D3 (Or.inr (hw _ (List.mem_of_getElem? (i := 26) rfl))) (ty := .byte) (by decide)
    have Z3 : n0 ≤ h3.size := Nat.le_trans Z0 E3.1
    have K3 : Keep h0 h3 [] := K0.ext E3
    have sz_b3 : h0.size ≤ b3 := Nat.le_trans K0.1 (Nat.le_of_eq g3.symm)
    obtain ⟨T7, h7, k7, X7, e7, E7, A7, st7⟩ := newP X3 hx hZ (hw _ (List.mem_of_getElem? (i := 12) rfl)) e3 (g := (mkF m 9 #[iv u0, iv u1, iv u2] [(.int (0 : Int32)), (.ref b3), (.ref b3)])) rfl (hb hby d2_9) rfl (by decide) (cap := 0) (by decide) (by decide) (by decide) (by decide)
    obtain ⟨b7, g7⟩ : ∃ z, z = h3.size := ⟨_, rfl⟩
    rw [← g7] at A7 st7
    have ge_b7 : n0 ≤ b7 := Nat.le_trans Z3 (Nat.le_of_eq g7.symm)
    have ne_b3_b7 : b3 ≠ b7 := Nat.ne_of_lt (Nat.lt_of_lt_of_le (A3).lt (Nat.le_of_eq g7.symm))
    have C8 := C4.trans (CHr.ext E7 C4.1)
    have hk9 := Nat.le_trans hk5 E7.1
    have Od10 := Od6.ext E7
    have f11 := A3.ext E7
    have f12 := F3_value.ext E7
    have f13 := F3_coder.ext E7
    have V7 : Arv Z h7 b7 k7 .char (0 : Int32) [] (.int (0 : Int32)) := (Arv.new A7 (by decide)).pad (pad_rep [] (.int (0 : Int32)) 0)
    have Z7 : n0 ≤ h7.size := Nat.le_trans Z3 E7.1
    have K7 : Keep h0 h7 [] := K3.ext E7
    have sz_b7 : h0.size ≤ b7 := Nat.le_trans K3.1 (Nat.le_of_eq g7.symm)
    have S15 : ∀ t, Steps p.tables e below (T7.setTop (mkF m 11 #[iv u0, iv u1, iv u2] [(.ref b7), (.ref b3), (.ref b3)])) t → Steps p.tables e below (s₁.setTop (entryFrame m #[(.int u0), (.int u1), (.int u2)] 3)) t := by
      intro t k
      refine S1 t ?_
      show Steps p.tables e below (s₁.setTop (mkF m 1 #[iv u0, iv u1, iv u2] [(.int u0)])) _
      refine XS.ifNo X0.here hx rfl (hb hby d2_1) rfl ((if0 _ _).trans (teq hc2).2) ?_
      show Steps p.tables e below (s₁.setTop (mkF m 4 #[iv u0, iv u1, iv u2] [])) _
      refine st3 _ ?_
      show Steps p.tables e below (T3.setTop (mkF m 7 #[iv u0, iv u1, iv u2] [(.ref b3)])) _
      refine XS.dup X3.here hx rfl (hb hby d2_7) rfl rfl ?_
      show Steps p.tables e below (T3.setTop (mkF m 8 #[iv u0, iv u1, iv u2] [(.ref b3), (.ref b3)])) _
      refine XS.iconst X3.here hx rfl (hb hby d2_8) ?_
      show Steps p.tables e below (T3.setTop (mkF m 9 #[iv u0, iv u1, iv u2] [(.int (0 : Int32)), (.ref b3), (.ref b3)])) _
      refine st7 _ ?_
      exact k
    obtain ⟨_, _, ⟨T14, L14, k14, n14⟩, -, X14, hSn14, hgr14, ⟨Lc14, hQ14, l14, y14, z14, CC14⟩, st14⟩ := X7.specialBackS hx (y := (⟨"java/lang/String", "<init>", "([C)V"⟩ : MethodName)) rfl hown (mvT hZ (hw _ (List.mem_of_getElem? (i := 13) rfl))) (mvT hZ (hw _ (List.mem_of_getElem? (i := 14) rfl))) (mvT hZ (hw _ (List.mem_of_getElem? (i := 15) rfl))) (by decide) (backOfSH (s := s) (vm0 := s.vm) (EL := own_EL) (W := 1) (rmSI1 l Z a0 hw [] b3 b7 k7 h7 n0 Z7 f11 f12 f13 ge_b3 V7) hZ (hw _ (List.mem_of_getElem? (i := 15) rfl)) (hw _ (List.mem_of_getElem? (i := 11) rfl)) (by decide) (by decide) hEL C8.1) (g := (mkF m 11 #[iv u0, iv u1, iv u2] [(.ref b7), (.ref b3), (.ref b3)])) rfl (by rw [hml]; rfl) (Steps.refl _) (a := b3) (argsL := [(.ref b7)]) (rest := [(.ref b3)]) (lenOf pd_1 rfl) rfl (by show 2 * 0 + _ ≤ _; exact Nat.le_of_eq rfl) (hb hby d2_11) (fun _ _ => ⟨rfl, e7, (by decide : 2 + 4 ≤ _), (by decide : 4 + 16 ≤ _)⟩)
    dsimp only [Pt.U, Pt.locs, Pt.cells, Pt.slots] at X14 l14 y14 z14 st14 hQ14 hSn14 hgr14 CC14
    subst y14 z14
    obtain ⟨rfl, Nq14, Kq14, Eq14, Fc14, tq14, kb14, Fv14, Vq14⟩ := hQ14
    have N14 : Fr n0 L14 := by rw [l14]; exact Fr.app N0 Nq14
    have hS := hS.trans hSn14 (Nat.le_trans hk9 (by rw [← e7]; exact hgr14))
    have hZ : Z.Warmed39 (s.setVm T14.vm).vm := State.Warmed39.trans (t := s.setVm s.vm) hZ hSn14.1
    have hown : (s.setVm T14.vm).vm.findClass "com/example/kilit/kilit/source/LocationEqualsPinLaw" = some m.cls := by rw [show (s.setVm T14.vm).vm = T14.vm from rfl, hSn14.1.alike.findClass]; exact hown
    have hkq14 : T14.heap.size ≤ T14.heap.size := Nat.le_refl _
    have C14 := C8.trans CC14
    have Z14 : n0 ≤ T14.heap.size := Nat.le_trans Z7 Kq14.1
    have K14 : Keep h0 T14.heap [] := K7.trans Kq14 (allS (Or.inr sz_b3) all0)
    have S16 : ∀ t, Steps p.tables e below (T14.setTop (mkF m 14 #[iv u0, iv u1, iv u2] [(.ref b3)])) t → Steps p.tables e below (s₁.setTop (entryFrame m #[(.int u0), (.int u1), (.int u2)] 3)) t := by
      intro t k
      refine S15 t ?_
      show Steps p.tables e below (T7.setTop (mkF m 11 #[iv u0, iv u1, iv u2] [(.ref b7), (.ref b3), (.ref b3)])) _
      refine st14.trans ?_
      exact k
    obtain ⟨fs, hr, hrun, hended, hR1, hR2, hR3, hR4⟩ := Stand.leaveW (s := s) (vm₁ := T14.vm) X14 hS (by show _ ≤ _; exact hkq14) (v := some (.ref b3)) (fun h => by rw [Bd.returns] at h; cases h)
    have CF_ : CHr Z own_EL s.vm s.heap T14.vm T14.heap := by
      rw [hh]
      exact C14.trans (CHv.at (s := s) (vm0 := T14.vm) X14 hZ hEL C14.1)
    refine ⟨_, _, S16 _ ?_, hrun, hended, _, _, rfl, ?_, CF_, hR1, hR2, hR3, hR4.mono (by decide) (by decide)⟩
    · skip
      show Steps p.tables e below (T14.setTop (mkF m 14 #[iv u0, iv u1, iv u2] [(.ref b3)])) _
      jvm_step X14.here [X14.here.top, hx, (hb hby d2_14), X14.method', Bd.returns, Value.isRef, FieldType.isReference]
      first | (intro acts; rw [hr _ acts rfl rfl rfl]) | rw [hr _ _ rfl rfl rfl]
      exact Steps.refl _
    · show QMk Z u0 u1 u2 G1 h0 n0 _ T14.heap _
      exact ⟨b3, tq14, kb14, _, _, rfl, N14, K14, ge_b3, sz_b3, Eq14, Fv14, Fc14, Vq14, (by unfold own_mk; rw [if_pos hc2]; exact Or.inl ⟨rfl, rfl, rfl, fun _ q => nomatch q⟩)⟩
  · skip
    have S17 : ∀ t, Steps p.tables e below (s₁.setTop (mkF m 17 #[iv u0, iv u1, iv u2] [(.int (1 : Int32)), (.int u0)])) t → Steps p.tables e below (s₁.setTop (entryFrame m #[(.int u0), (.int u1), (.int u2)] 3)) t := by
      intro t k
      refine S1 t ?_
      show Steps p.tables e below (s₁.setTop (mkF m 1 #[iv u0, iv u1, iv u2] [(.int u0)])) _
      refine XS.ifYes X0.here hx rfl (pc0 := 1) (pc' := 15) rfl (hb hby d2_1) rfl ((if0 _ _).trans (feq hc2).2) (by decide) (by decide) ?_
      show Steps p.tables e below (s₁.setTop (mkF m 15 #[iv u0, iv u1, iv u2] [])) _
      refine XS.iloadN X0.here hx rfl (hb hby d2_15) rfl ?_
      show Steps p.tables e below (s₁.setTop (mkF m 16 #[iv u0, iv u1, iv u2] [(.int u0)])) _
      refine XS.iconst X0.here hx rfl (hb hby d2_16) ?_
      exact k
    by_cases hc18 : u0 = (1 : Int32)
    · skip
      obtain ⟨T19, h19, X19, e19, E19, A19, D19, -, st19⟩ := newO X0 hx hZ hown (hw _ (List.mem_of_getElem? (i := 9) rfl)) (hw _ (List.mem_of_getElem? (i := 10) rfl)) (hw _ (List.mem_of_getElem? (i := 11) rfl)) e0 (g := (mkF m 20 #[iv u0, iv u1, iv u2] [])) rfl (hb hby d2_20) (by decide) (by decide)
      obtain ⟨b19, g19⟩ : ∃ z, z = h0.size := ⟨_, rfl⟩
      rw [← g19] at A19 D19 st19
      have ge_b19 : n0 ≤ b19 := Nat.le_trans Z0 (Nat.le_of_eq g19.symm)
      have C20 := C0.trans (CHr.ext E19 C0.1)
      have hk21 := Nat.le_trans hk0 E19.1
      have Od22 := hO.ext E19
      have F19_value : Fld Z h19 b19 "java/lang/String" "value" "[B" .null := D19 (Or.inr (hw _ (List.mem_of_getElem? (i := 25) rfl))) (ty := (.array .byte)) (by decide)
      have F19_coder : Fld Z h19 b19 "java/lang/String" "coder" "B" (.int (0 : Int32)) := D19 (Or.inr (hw _ (List.mem_of_getElem? (i := 26) rfl))) (ty := .byte) (by decide)
      have Z19 : n0 ≤ h19.size := Nat.le_trans Z0 E19.1
      have K19 : Keep h0 h19 [] := K0.ext E19
      have sz_b19 : h0.size ≤ b19 := Nat.le_trans K0.1 (Nat.le_of_eq g19.symm)
      obtain ⟨T23, h23, k23, X23, e23, E23, A23, st23⟩ := newP X19 hx hZ (hw _ (List.mem_of_getElem? (i := 12) rfl)) e19 (g := (mkF m 25 #[iv u0, iv u1, iv u2] [(.int (1 : Int32)), (.ref b19), (.ref b19)])) rfl (hb hby d2_25) rfl (by decide) (cap := 1) (by decide) (by decide) (by decide) (by decide)
      obtain ⟨b23, g23⟩ : ∃ z, z = h19.size := ⟨_, rfl⟩
      rw [← g23] at A23 st23
      have ge_b23 : n0 ≤ b23 := Nat.le_trans Z19 (Nat.le_of_eq g23.symm)
      have ne_b19_b23 : b19 ≠ b23 := Nat.ne_of_lt (Nat.lt_of_lt_of_le (A19).lt (Nat.le_of_eq g23.symm))
      have C24 := C20.trans (CHr.ext E23 C20.1)
      have hk25 := Nat.le_trans hk21 E23.1
      have Od26 := Od22.ext E23
      have f27 := A19.ext E23
      have f28 := F19_value.ext E23
      have f29 := F19_coder.ext E23
      have V23 : Arv Z h23 b23 k23 .char (1 : Int32) [(.int (0 : Int32))] (.int (0 : Int32)) := (Arv.new A23 (by decide)).pad (pad_rep [] (.int (0 : Int32)) 1)
      have Z23 : n0 ≤ h23.size := Nat.le_trans Z19 E23.1
      have K23 : Keep h0 h23 [] := K19.ext E23
      have sz_b23 : h0.size ≤ b23 := Nat.le_trans K19.1 (Nat.le_of_eq g23.symm)
      obtain ⟨cl30, Ar30, qa30, Sa30, Na30, Ha30, Ga30⟩ := id V23
      have hin30 : ¬ ((0 : Int32) < 0 ∨ cl30.slots.size ≤ ((0 : Int32)).toNatClampNeg) := inb_of Sa30 ⟨by decide, by decide⟩
      obtain ⟨T31, h31, X31, e31, W31, st31⟩ := stC X23 hx hZ e23 Ar30 (j := (0 : Int32)) hin30 (g := (mkF m 30 #[iv u0, iv u1, iv u2] [(.int u1), (.int (0 : Int32)), (.ref b23), (.ref b23), (.ref b19), (.ref b19)])) rfl rfl (hb hby d2_30)
      rw [hch1.1] at W31
      have V31 : Arv Z h31 b23 k23 .char (1 : Int32) [(.int u1)] (.int (0 : Int32)) := Arv.set Ar30 qa30 Sa30 Na30 Ha30 Ga30 (own_fch hch1) W31 0 rfl (Nat.le_of_ble_eq_true rfl)
      have N31 := Fr.snoc X31 N0 ge_b23
      have Z31 : n0 ≤ h31.size := Nat.le_trans Z23 (Keep.of_wr W31).1
      have C32 := C24.trans (CHr.wr W31 (Safe.arv (EL := own_EL) (vm := s.vm) hZ.alike V23 (by decide)) C24.1)
      have hk33 := Nat.le_trans hk25 (Keep.of_wr W31).1
      have Od34 := Od26.wr W31 ge_b23
      have f35 := f27.wr W31
      have f36 := f28.other W31 (Or.inl ne_b19_b23)
      have f37 := f29.other W31 (Or.inl ne_b19_b23)
      have K31 : Keep h0 h31 [] := K23.wr W31 (Or.inr sz_b23)
      obtain ⟨_, _, ⟨T39, L39, k39, n39⟩, -, X39, ⟨Lc39, hQ39, l39, y39, z39⟩, st39⟩ := X31.specialBack hx (y := (⟨"java/lang/String", "<init>", "([C)V"⟩ : MethodName)) rfl hown (mvT hZ (hw _ (List.mem_of_getElem? (i := 13) rfl))) (mvT hZ (hw _ (List.mem_of_getElem? (i := 14) rfl))) (mvT hZ (hw _ (List.mem_of_getElem? (i := 15) rfl))) (by decide) (StrChars.Road.backV (W := 1) hZ hws (kI := 4) (hw _ (List.mem_of_getElem? (i := 10) rfl)) (cs := [u1]) (bs := [(u1).toInt8.toInt32]) (n := 1) ge_b19 Z31 f35 f36 f37 V31 (O2.ext Od34.2) P3 rfl rfl (by decide) (by decide) (own_b1 hch1) rfl (by decide) (by decide)) (g := (mkF m 31 #[iv u0, iv u1, iv u2] [(.ref b23), (.ref b19), (.ref b19)])) rfl (by rw [hml]; rfl) (Steps.refl _) (a := b19) (argsL := [(.ref b23)]) (rest := [(.ref b19)]) (lenOf pd_1 rfl) rfl (by show 2 * 0 + _ ≤ _; exact Nat.le_of_eq rfl) (hb hby d2_31) (fun _ _ => ⟨rfl, e31, (by decide : 2 + 1 ≤ _), (by decide : 5 + 1 ≤ _)⟩)
      dsimp only [Pt.U, Pt.locs, Pt.cells, Pt.slots] at X39 l39 y39 z39 st39 hQ39
      subst y39 z39
      obtain ⟨rfl, Nq39, Kq39, Eq39, Fc39, tq39, kb39, -, -, -, Fv39, Vq39⟩ := hQ39
      have N39 : Fr n0 L39 := by rw [l39]; exact Fr.app N31 Nq39
      have Z39 : n0 ≤ T39.heap.size := Nat.le_trans Z31 Kq39.1
      have K39 : Keep h0 T39.heap [] := K31.trans Kq39 (allS (Or.inr sz_b19) all0)
      have C40 := C32.trans (CHr.keep Kq39 (sfS (own_safe0 (EL := own_EL) (vm := s.vm) hZ.alike f35 f36) sf0) C32.1)
      have hk41 := Nat.le_trans hk33 Kq39.1
      have Od42 := Od34.keep Kq39 (allS ge_b19 all0)
      have f43 := f35.keep Kq39
      have f46 := V31.keep Kq39 (ninS (Ne.symm ne_b19_b23) nin0)
      obtain ⟨fs, hr, hrun, hended, hR1, hR2, hR3, hR4⟩ := Stand.leaveW (s := s) (vm₁ := s.vm) X39 hS (by show _ ≤ _; exact hk41) (v := some (.ref b19)) (fun h => by rw [Bd.returns] at h; cases h)
      have CF_ : CHr Z own_EL s.vm s.heap T39.vm T39.heap := by
        rw [hh]
        exact C40.trans (CHv.at (s := s) (vm0 := s.vm) X39 hZ hEL C40.1)
      refine ⟨_, _, S17 _ ?_, hrun, hended, _, _, rfl, ?_, CF_, hR1, hR2, hR3, hR4.mono (by decide) (by decide)⟩
      · skip
        show Steps p.tables e below (s₁.setTop (mkF m 17 #[iv u0, iv u1, iv u2] [(.int (1 : Int32)), (.int u0)])) _
        refine XS.icmpNo X0.here hx rfl (hb hby d2_17) rfl (teq hc18).2 ?_
        show Steps p.tables e below (s₁.setTop (mkF m 20 #[iv u0, iv u1, iv u2] [])) _
        refine st19 _ ?_
        show Steps p.tables e below (T19.setTop (mkF m 23 #[iv u0, iv u1, iv u2] [(.ref b19)])) _
        refine XS.dup X19.here hx rfl (hb hby d2_23) rfl rfl ?_
        show Steps p.tables e below (T19.setTop (mkF m 24 #[iv u0, iv u1, iv u2] [(.ref b19), (.ref b19)])) _
        refine XS.iconst X19.here hx rfl (hb hby d2_24) ?_
        show Steps p.tables e below (T19.setTop (mkF m 25 #[iv u0, iv u1, iv u2] [(.int (1 : Int32)), (.ref b19), (.ref b19)])) _
        refine st23 _ ?_
        show Steps p.tables e below (T23.setTop (mkF m 27 #[iv u0, iv u1, iv u2] [(.ref b23), (.ref b19), (.ref b19)])) _
        refine XS.dup X23.here hx rfl (hb hby d2_27) rfl rfl ?_
        show Steps p.tables e below (T23.setTop (mkF m 28 #[iv u0, iv u1, iv u2] [(.ref b23), (.ref b23), (.ref b19), (.ref b19)])) _
        refine XS.iconst X23.here hx rfl (hb hby d2_28) ?_
        show Steps p.tables e below (T23.setTop (mkF m 29 #[iv u0, iv u1, iv u2] [(.int (0 : Int32)), (.ref b23), (.ref b23), (.ref b19), (.ref b19)])) _
        refine XS.iloadN X23.here hx rfl (hb hby d2_29) rfl ?_
        show Steps p.tables e below (T23.setTop (mkF m 30 #[iv u0, iv u1, iv u2] [(.int u1), (.int (0 : Int32)), (.ref b23), (.ref b23), (.ref b19), (.ref b19)])) _
        refine st31 _ ?_
        show Steps p.tables e below (T31.setTop (mkF m 31 #[iv u0, iv u1, iv u2] [(.ref b23), (.ref b19), (.ref b19)])) _
        refine st39.trans ?_
        show Steps p.tables e below (T39.setTop (mkF m 34 #[iv u0, iv u1, iv u2] [(.ref b19)])) _
        jvm_step X39.here [X39.here.top, hx, (hb hby d2_34), X39.method', Bd.returns, Value.isRef, FieldType.isReference]
        first | (intro acts; rw [hr _ acts rfl rfl rfl]) | rw [hr _ _ rfl rfl rfl]
        exact Steps.refl _
      · show QMk Z u0 u1 u2 G1 h0 n0 _ T39.heap _
        exact ⟨b19, tq39, kb39, _, _, rfl, N39, K39, ge_b19, sz_b19, Eq39, Fv39, Fc39, Vq39, (by unfold own_mk; rw [if_neg hc2, if_pos hc18]; exact Or.inl ⟨rfl, rfl, rfl, fun c q => (own_b1 hch1 c q).2⟩)⟩
    · skip
      obtain ⟨T47, h47, X47, e47, E47, A47, D47, -, st47⟩ := newO X0 hx hZ hown (hw _ (List.mem_of_getElem? (i := 9) rfl)) (hw _ (List.mem_of_getElem? (i := 10) rfl)) (hw _ (List.mem_of_getElem? (i := 11) rfl)) e0 (g := (mkF m 35 #[iv u0, iv u1, iv u2] [])) rfl (hb hby d2_35) (by decide) (by decide)
      obtain ⟨b47, g47⟩ : ∃ z, z = h0.size := ⟨_, rfl⟩
      rw [← g47] at A47 D47 st47
      have ge_b47 : n0 ≤ b47 := Nat.le_trans Z0 (Nat.le_of_eq g47.symm)
      have C48 := C0.trans (CHr.ext E47 C0.1)
      have hk49 := Nat.le_trans hk0 E47.1
      have Od50 := hO.ext E47
      have F47_value : Fld Z h47 b47 "java/lang/String" "value" "[B" .null := D47 (Or.inr (hw _ (List.mem_of_getElem? (i := 25) rfl))) (ty := (.array .byte)) (by decide)
      have F47_coder : Fld Z h47 b47 "java/lang/String" "coder" "B" (.int (0 : Int32)) := D47 (Or.inr (hw _ (List.mem_of_getElem? (i := 26) rfl))) (ty := .byte) (by decide)
      have Z47 : n0 ≤ h47.size := Nat.le_trans Z0 E47.1
      have K47 : Keep h0 h47 [] := K0.ext E47
      have sz_b47 : h0.size ≤ b47 := Nat.le_trans K0.1 (Nat.le_of_eq g47.symm)
      obtain ⟨T51, h51, k51, X51, e51, E51, A51, st51⟩ := newP X47 hx hZ (hw _ (List.mem_of_getElem? (i := 12) rfl)) e47 (g := (mkF m 40 #[iv u0, iv u1, iv u2] [(.int (2 : Int32)), (.ref b47), (.ref b47)])) rfl (hb hby d2_40) rfl (by decide) (cap := 2) (by decide) (by decide) (by decide) (by decide)
      obtain ⟨b51, g51⟩ : ∃ z, z = h47.size := ⟨_, rfl⟩
      rw [← g51] at A51 st51
      have ge_b51 : n0 ≤ b51 := Nat.le_trans Z47 (Nat.le_of_eq g51.symm)
      have ne_b47_b51 : b47 ≠ b51 := Nat.ne_of_lt (Nat.lt_of_lt_of_le (A47).lt (Nat.le_of_eq g51.symm))
      have C52 := C48.trans (CHr.ext E51 C48.1)
      have hk53 := Nat.le_trans hk49 E51.1
      have Od54 := Od50.ext E51
      have f55 := A47.ext E51
      have f56 := F47_value.ext E51
      have f57 := F47_coder.ext E51
      have V51 : Arv Z h51 b51 k51 .char (2 : Int32) [(.int (0 : Int32)), (.int (0 : Int32))] (.int (0 : Int32)) := (Arv.new A51 (by decide)).pad (pad_rep [] (.int (0 : Int32)) 2)
      have Z51 : n0 ≤ h51.size := Nat.le_trans Z47 E51.1
      have K51 : Keep h0 h51 [] := K47.ext E51
      have sz_b51 : h0.size ≤ b51 := Nat.le_trans K47.1 (Nat.le_of_eq g51.symm)
      obtain ⟨cl58, Ar58, qa58, Sa58, Na58, Ha58, Ga58⟩ := id V51
      have hin58 : ¬ ((0 : Int32) < 0 ∨ cl58.slots.size ≤ ((0 : Int32)).toNatClampNeg) := inb_of Sa58 ⟨by decide, by decide⟩
      obtain ⟨T59, h59, X59, e59, W59, st59⟩ := stC X51 hx hZ e51 Ar58 (j := (0 : Int32)) hin58 (g := (mkF m 45 #[iv u0, iv u1, iv u2] [(.int u1), (.int (0 : Int32)), (.ref b51), (.ref b51), (.ref b47), (.ref b47)])) rfl rfl (hb hby d2_45)
      rw [hch1.1] at W59
      have V59 : Arv Z h59 b51 k51 .char (2 : Int32) [(.int u1), (.int (0 : Int32))] (.int (0 : Int32)) := Arv.set Ar58 qa58 Sa58 Na58 Ha58 Ga58 (own_fch hch1) W59 0 rfl (Nat.le_of_ble_eq_true rfl)
      have N59 := Fr.snoc X59 N0 ge_b51
      have Z59 : n0 ≤ h59.size := Nat.le_trans Z51 (Keep.of_wr W59).1
      have C60 := C52.trans (CHr.wr W59 (Safe.arv (EL := own_EL) (vm := s.vm) hZ.alike V51 (by decide)) C52.1)
      have hk61 := Nat.le_trans hk53 (Keep.of_wr W59).1
      have Od62 := Od54.wr W59 ge_b51
      have f63 := f55.wr W59
      have f64 := f56.other W59 (Or.inl ne_b47_b51)
      have f65 := f57.other W59 (Or.inl ne_b47_b51)
      have K59 : Keep h0 h59 [] := K51.wr W59 (Or.inr sz_b51)
      obtain ⟨cl67, Ar67, qa67, Sa67, Na67, Ha67, Ga67⟩ := id V59
      have hin67 : ¬ ((1 : Int32) < 0 ∨ cl67.slots.size ≤ ((1 : Int32)).toNatClampNeg) := inb_of Sa67 ⟨by decide, by decide⟩
      obtain ⟨T68, h68, X68, e68, W68, st68⟩ := stC X59 hx hZ e59 Ar67 (j := (1 : Int32)) hin67 (g := (mkF m 49 #[iv u0, iv u1, iv u2] [(.int u2), (.int (1 : Int32)), (.ref b51), (.ref b51), (.ref b47), (.ref b47)])) rfl rfl (hb hby d2_49)
      rw [hch2.1] at W68
      have V68 : Arv Z h68 b51 k51 .char (2 : Int32) [(.int u1), (.int u2)] (.int (0 : Int32)) := Arv.set Ar67 qa67 Sa67 Na67 Ha67 Ga67 (own_fch hch2) W68 1 rfl (Nat.le_of_ble_eq_true rfl)
      have N68 := Fr.snoc X68 N59 ge_b51
      have Z68 : n0 ≤ h68.size := Nat.le_trans Z59 (Keep.of_wr W68).1
      have C69 := C60.trans (CHr.wr W68 (Safe.arv (EL := own_EL) (vm := s.vm) hZ.alike V59 (by decide)) C60.1)
      have hk70 := Nat.le_trans hk61 (Keep.of_wr W68).1
      have Od71 := Od62.wr W68 ge_b51
      have f72 := f63.wr W68
      have f73 := f64.other W68 (Or.inl ne_b47_b51)
      have f74 := f65.other W68 (Or.inl ne_b47_b51)
      have K68 : Keep h0 h68 [] := K59.wr W68 (Or.inr sz_b51)
      obtain ⟨_, _, ⟨T76, L76, k76, n76⟩, -, X76, ⟨Lc76, hQ76, l76, y76, z76⟩, st76⟩ := X68.specialBack hx (y := (⟨"java/lang/String", "<init>", "([C)V"⟩ : MethodName)) rfl hown (mvT hZ (hw _ (List.mem_of_getElem? (i := 13) rfl))) (mvT hZ (hw _ (List.mem_of_getElem? (i := 14) rfl))) (mvT hZ (hw _ (List.mem_of_getElem? (i := 15) rfl))) (by decide) (StrChars.Road.backV (W := 1) hZ hws (kI := 4) (hw _ (List.mem_of_getElem? (i := 10) rfl)) (cs := [u1, u2]) (bs := [(u1).toInt8.toInt32, (u2).toInt8.toInt32]) (n := 2) ge_b47 Z68 f72 f73 f74 V68 (O2.ext Od71.2) P3 rfl rfl (by decide) (by decide) (own_b2 hch1 hch2) rfl (by decide) (by decide)) (g := (mkF m 50 #[iv u0, iv u1, iv u2] [(.ref b51), (.ref b47), (.ref b47)])) rfl (by rw [hml]; rfl) (Steps.refl _) (a := b47) (argsL := [(.ref b51)]) (rest := [(.ref b47)]) (lenOf pd_1 rfl) rfl (by show 2 * 0 + _ ≤ _; exact Nat.le_of_eq rfl) (hb hby d2_50) (fun _ _ => ⟨rfl, e68, (by decide : 2 + 1 ≤ _), (by decide : 6 + 2 ≤ _)⟩)
      dsimp only [Pt.U, Pt.locs, Pt.cells, Pt.slots] at X76 l76 y76 z76 st76 hQ76
      subst y76 z76
      obtain ⟨rfl, Nq76, Kq76, Eq76, Fc76, tq76, kb76, -, -, -, Fv76, Vq76⟩ := hQ76
      have N76 : Fr n0 L76 := by rw [l76]; exact Fr.app N68 Nq76
      have Z76 : n0 ≤ T76.heap.size := Nat.le_trans Z68 Kq76.1
      have K76 : Keep h0 T76.heap [] := K68.trans Kq76 (allS (Or.inr sz_b47) all0)
      have C77 := C69.trans (CHr.keep Kq76 (sfS (own_safe0 (EL := own_EL) (vm := s.vm) hZ.alike f72 f73) sf0) C69.1)
      have hk78 := Nat.le_trans hk70 Kq76.1
      have Od79 := Od71.keep Kq76 (allS ge_b47 all0)
      have f80 := f72.keep Kq76
      have f83 := V68.keep Kq76 (ninS (Ne.symm ne_b47_b51) nin0)
      obtain ⟨fs, hr, hrun, hended, hR1, hR2, hR3, hR4⟩ := Stand.leaveW (s := s) (vm₁ := s.vm) X76 hS (by show _ ≤ _; exact hk78) (v := some (.ref b47)) (fun h => by rw [Bd.returns] at h; cases h)
      have CF_ : CHr Z own_EL s.vm s.heap T76.vm T76.heap := by
        rw [hh]
        exact C77.trans (CHv.at (s := s) (vm0 := s.vm) X76 hZ hEL C77.1)
      refine ⟨_, _, S17 _ ?_, hrun, hended, _, _, rfl, ?_, CF_, hR1, hR2, hR3, hR4.mono (by decide) (by decide)⟩
      · skip
        show Steps p.tables e below (s₁.setTop (mkF m 17 #[iv u0, iv u1, iv u2] [(.int (1 : Int32)), (.int u0)])) _
        refine XS.icmpYes X0.here hx rfl (pc0 := 17) (pc' := 35) rfl (hb hby d2_17) rfl (feq hc18).2 (by decide) (by decide) ?_
        show Steps p.tables e below (s₁.setTop (mkF m 35 #[iv u0, iv u1, iv u2] [])) _
        refine st47 _ ?_
        show Steps p.tables e below (T47.setTop (mkF m 38 #[iv u0, iv u1, iv u2] [(.ref b47)])) _
        refine XS.dup X47.here hx rfl (hb hby d2_38) rfl rfl ?_
        show Steps p.tables e below (T47.setTop (mkF m 39 #[iv u0, iv u1, iv u2] [(.ref b47), (.ref b47)])) _
        refine XS.iconst X47.here hx rfl (hb hby d2_39) ?_
        show Steps p.tables e below (T47.setTop (mkF m 40 #[iv u0, iv u1, iv u2] [(.int (2 : Int32)), (.ref b47), (.ref b47)])) _
        refine st51 _ ?_
        show Steps p.tables e below (T51.setTop (mkF m 42 #[iv u0, iv u1, iv u2] [(.ref b51), (.ref b47), (.ref b47)])) _
        refine XS.dup X51.here hx rfl (hb hby d2_42) rfl rfl ?_
        show Steps p.tables e below (T51.setTop (mkF m 43 #[iv u0, iv u1, iv u2] [(.ref b51), (.ref b51), (.ref b47), (.ref b47)])) _
        refine XS.iconst X51.here hx rfl (hb hby d2_43) ?_
        show Steps p.tables e below (T51.setTop (mkF m 44 #[iv u0, iv u1, iv u2] [(.int (0 : Int32)), (.ref b51), (.ref b51), (.ref b47), (.ref b47)])) _
        refine XS.iloadN X51.here hx rfl (hb hby d2_44) rfl ?_
        show Steps p.tables e below (T51.setTop (mkF m 45 #[iv u0, iv u1, iv u2] [(.int u1), (.int (0 : Int32)), (.ref b51), (.ref b51), (.ref b47), (.ref b47)])) _
        refine st59 _ ?_
        show Steps p.tables e below (T59.setTop (mkF m 46 #[iv u0, iv u1, iv u2] [(.ref b51), (.ref b47), (.ref b47)])) _
        refine XS.dup X59.here hx rfl (hb hby d2_46) rfl rfl ?_
        show Steps p.tables e below (T59.setTop (mkF m 47 #[iv u0, iv u1, iv u2] [(.ref b51), (.ref b51), (.ref b47), (.ref b47)])) _
        refine XS.iconst X59.here hx rfl (hb hby d2_47) ?_
        show Steps p.tables e below (T59.setTop (mkF m 48 #[iv u0, iv u1, iv u2] [(.int (1 : Int32)), (.ref b51), (.ref b51), (.ref b47), (.ref b47)])) _
        refine XS.iloadN X59.here hx rfl (hb hby d2_48) rfl ?_
        show Steps p.tables e below (T59.setTop (mkF m 49 #[iv u0, iv u1, iv u2] [(.int u2), (.int (1 : Int32)), (.ref b51), (.ref b51), (.ref b47), (.ref b47)])) _
        refine st68 _ ?_
        show Steps p.tables e below (T68.setTop (mkF m 50 #[iv u0, iv u1, iv u2] [(.ref b51), (.ref b47), (.ref b47)])) _
        refine st76.trans ?_
        show Steps p.tables e below (T76.setTop (mkF m 53 #[iv u0, iv u1, iv u2] [(.ref b47)])) _
        jvm_step X76.here [X76.here.top, hx, (hb hby d2_53), X76.method', Bd.returns, Value.isRef, FieldType.isReference]
        first | (intro acts; rw [hr _ acts rfl rfl rfl]) | rw [hr _ _ rfl rfl rfl]
        exact Steps.refl _
      · show QMk Z u0 u1 u2 G1 h0 n0 _ T76.heap _
        exact ⟨b47, tq76, kb76, _, _, rfl, N76, K76, ge_b47, sz_b47, Eq76, Fv76, Fc76, Vq76, (by unfold own_mk; rw [if_neg hc2, if_neg hc18]; exact Or.inl ⟨rfl, rfl, rfl, fun c q => (own_b2 hch1 hch2 c q).2⟩)⟩
def own_max (u0 : Int32) (u1 : Int32) : Int32 := if u0 < u1 then u1 else u0
theorem d1_0 : decode jdk_29_method_65_code 0 = .ok (.iload_n 0, 1) := by decide +kernel
theorem d1_1 : decode jdk_29_method_65_code 1 = .ok (.iload_n 1, 1) := by decide +kernel
theorem d1_2 : decode jdk_29_method_65_code 2 = .ok (.if_icmp .lt 7, 3) := by decide +kernel
theorem d1_9 : decode jdk_29_method_65_code 9 = .ok (.iload_n 1, 1) := by decide +kernel
theorem d1_10 : decode jdk_29_method_65_code 10 = .ok (.ireturn, 1) := by decide +kernel
theorem d1_5 : decode jdk_29_method_65_code 5 = .ok (.iload_n 0, 1) := by decide +kernel
theorem d1_6 : decode jdk_29_method_65_code 6 = .ok (.goto 4, 3) := by decide +kernel
def Q1 (Z : State) (u0 : Int32) (u1 : Int32)  (h0 : Heap) (n0 : Nat) (v : Option Value) (h : Heap) (L : List Loc) : Prop := v = some (.int (own_max u0 u1)) ∧ Fr n0 L ∧ h = h0
theorem ef_rm1 (m : MethodId) (u0 : Int32) (u1 : Int32) : entryFrame m #[(.int u0), (.int u1)] 2 = mkF m 0 #[iv u0, iv u1] [] := by first | (simp [entryFrame, mkF, argsToLocals, Value.category]; done) | rfl
set_option maxRecDepth 65536 in
set_option maxHeartbeats 40000000 in
theorem rm1 (l : Launch) (Z : State) (a0 : Array Value) (hw : ∀ d ∈ tables_1, d.before a0 Z = true) (ws : List Jvm.Cond) (u0 : Int32) (u1 : Int32)  (h0 : Heap) (n0 : Nat) (Z0 : n0 ≤ h0.size) :
    MetFree l (⟨"java/lang/Math", "max", "(II)I"⟩ : MethodName) (head1 (Jvm.Cond.code (⟨"java/lang/Math", "max", "(II)I"⟩ : MethodName) jdk_29_method_65_code 2 (some .int) :: ws) ({ frames := 0, cells := 0, slots := 0, locals := 0 } : Room)) (fun a U => a = #[(.int u0), (.int u1)] ∧ Z.Warmed39 U.vm ∧ U.heap = h0) (fun _ _ _ _ _ => True) (fun _ U o U' => ∃ v L, o = .returned v ∧ Q1 Z u0 u1 h0 n0 v U'.heap L ∧ FrameEnd U o U' L ({ frames := 0, cells := 0, slots := 0, locals := 0 } : Room).cells ({ frames := 0, cells := 0, slots := 0, locals := 0 } : Room).slots) := by
  refine MetFree.of_bodySF (Jvm.Free.JP.mathPlain rfl (by decide +kernel)) hisR ?_
  intro p e s m args below meth c s₁ Bd hml0 hP hK
  obtain ⟨rfl, hZ, hh⟩ := hP
  have hx := Bd.exec
  have hby := Bd.bytes
  have hml : c.maxLocals = 2 := hml0
  have hown : s.vm.findClass "java/lang/Math" = some m.cls := findClass_of_methodNamed Bd.named
  have hnm := (name_of_methodNamed Bd.named Bd.method).1
  have X0 : Stand p l e ({ frames := 0, cells := 0, slots := 0, locals := 0 } : Room) s m #[(.int u0), (.int u1)] below meth c s₁ [] 0 0 := Stand.of_body Bd
  have e0 : s₁.heap = h0 := by rw [← hh, Bd.state]; rfl
  have N0 := Fr.nil n0
  have S0 : ∀ t, Steps p.tables e below (s₁.setTop (mkF m 0 #[iv u0, iv u1] [])) t → Steps p.tables e below (s₁.setTop (entryFrame m #[(.int u0), (.int u1)] 2)) t := fun t k => castTop (ef_rm1 m u0 u1) k
  have S1 : ∀ t, Steps p.tables e below (s₁.setTop (mkF m 2 #[iv u0, iv u1] [(.int u1), (.int u0)])) t → Steps p.tables e below (s₁.setTop (entryFrame m #[(.int u0), (.int u1)] 2)) t := by
    intro t k
    refine S0 t ?_
    show Steps p.tables e below (s₁.setTop (mkF m 0 #[iv u0, iv u1] [])) _
    refine XS.iloadN X0.here hx rfl (hb hby d1_0) rfl ?_
    show Steps p.tables e below (s₁.setTop (mkF m 1 #[iv u0, iv u1] [(.int u0)])) _
    refine XS.iloadN X0.here hx rfl (hb hby d1_1) rfl ?_
    exact k
  by_cases hc2 : u0 < u1
  · skip
    obtain ⟨fs, hr, hrun, hended, hW, hsame⟩ := X0.leave (v := some (.int u1)) (fun h => by rw [Bd.returns] at h; cases h)
    refine ⟨_, _, S1 _ ?_, hrun, hended, _, _, rfl, ?_, ⟨_, rfl⟩, hW, hsame.mono (by decide) (by decide)⟩
    · skip
      show Steps p.tables e below (s₁.setTop (mkF m 2 #[iv u0, iv u1] [(.int u1), (.int u0)])) _
      refine XS.icmpYes X0.here hx rfl (pc0 := 2) (pc' := 9) rfl (hb hby d1_2) rfl (tlt hc2).1 (by decide) (by decide) ?_
      show Steps p.tables e below (s₁.setTop (mkF m 9 #[iv u0, iv u1] [])) _
      refine XS.iloadN X0.here hx rfl (hb hby d1_9) rfl ?_
      show Steps p.tables e below (s₁.setTop (mkF m 10 #[iv u0, iv u1] [(.int u1)])) _
      exact retI X0 hx Bd.returns (hb hby d1_10) hr
    · show Q1 Z u0 u1 h0 n0 _ s₁.heap _
      rw [e0]
      exact ⟨(by unfold own_max; rw [if_pos hc2]), N0, rfl⟩
  · skip
    obtain ⟨fs, hr, hrun, hended, hW, hsame⟩ := X0.leave (v := some (.int u0)) (fun h => by rw [Bd.returns] at h; cases h)
    refine ⟨_, _, S1 _ ?_, hrun, hended, _, _, rfl, ?_, ⟨_, rfl⟩, hW, hsame.mono (by decide) (by decide)⟩
    · skip
      show Steps p.tables e below (s₁.setTop (mkF m 2 #[iv u0, iv u1] [(.int u1), (.int u0)])) _
      refine XS.icmpNo X0.here hx rfl (hb hby d1_2) rfl (flt hc2).1 ?_
      show Steps p.tables e below (s₁.setTop (mkF m 5 #[iv u0, iv u1] [])) _
      refine XS.iloadN X0.here hx rfl (hb hby d1_5) rfl ?_
      show Steps p.tables e below (s₁.setTop (mkF m 6 #[iv u0, iv u1] [(.int u0)])) _
      refine XS.goto X0.here hx rfl (pc0 := 6) (pc' := 10) rfl (hb hby d1_6) (by decide) (by decide) ?_
      show Steps p.tables e below (s₁.setTop (mkF m 10 #[iv u0, iv u1] [(.int u0)])) _
      exact retI X0 hx Bd.returns (hb hby d1_10) hr
    · show Q1 Z u0 u1 h0 n0 _ s₁.heap _
      rw [e0]
      exact ⟨(by unfold own_max; rw [if_neg hc2]), N0, rfl⟩
theorem d7_0 : decode jdk_31_method_11_code 0 = .ok (.aload_n 0, 1) := by decide +kernel
theorem d7_1 : decode jdk_31_method_11_code 1 = .ok (.ifnonnull 12, 3) := by decide +kernel
theorem d7_13 : decode jdk_31_method_11_code 13 = .ok (.aload_n 0, 1) := by decide +kernel
theorem d7_14 : decode jdk_31_method_11_code 14 = .ok (.areturn, 1) := by decide +kernel
theorem pn_2 : plainName "java/util/Objects" = true := by first | (simp [plainName, overriddenIn]; done) | decide +kernel
def QRnn (Z : State) (a0_ : Addr) (a1_ : Addr)  (h0 : Heap) (n0 : Nat) (v : Option Value) (h : Heap) (L : List Loc) : Prop := v = some (.ref a0_) ∧ Fr n0 L ∧ h = h0
theorem ef_rmRnn (m : MethodId) (a0_ : Addr) (a1_ : Addr) : entryFrame m #[(.ref a0_), (.ref a1_)] 2 = mkF m 0 #[rv a0_, rv a1_] [] := by first | (simp [entryFrame, mkF, argsToLocals, Value.category]; done) | rfl
set_option maxRecDepth 65536 in
set_option maxHeartbeats 40000000 in
theorem rmRnn (l : Launch) (Z : State) (a0 : Array Value) (hw : ∀ d ∈ tables_1, d.before a0 Z = true) (ws : List Jvm.Cond) (a0_ : Addr) (a1_ : Addr)  (h0 : Heap) (n0 : Nat) (Z0 : n0 ≤ h0.size) :
    MetFree l (⟨"java/util/Objects", "requireNonNull", "(Ljava/lang/Object;Ljava/lang/String;)Ljava/lang/Object;"⟩ : MethodName) (head1 (Jvm.Cond.code (⟨"java/util/Objects", "requireNonNull", "(Ljava/lang/Object;Ljava/lang/String;)Ljava/lang/Object;"⟩ : MethodName) jdk_31_method_11_code 2 (some (.object "java/lang/Object")) :: ws) ({ frames := 0, cells := 0, slots := 0, locals := 0 } : Room)) (fun a U => a = #[(.ref a0_), (.ref a1_)] ∧ Z.Warmed39 U.vm ∧ U.heap = h0) (fun _ _ _ _ _ => True) (fun _ U o U' => ∃ v L, o = .returned v ∧ QRnn Z a0_ a1_ h0 n0 v U'.heap L ∧ FrameEnd U o U' L ({ frames := 0, cells := 0, slots := 0, locals := 0 } : Room).cells ({ frames := 0, cells := 0, slots := 0, locals := 0 } : Room).slots) := by
  refine MetFree.of_bodySF (plainFor_of_name pn_2) hisR ?_
  intro p e s m args below meth c s₁ Bd hml0 hP hK
  obtain ⟨rfl, hZ, hh⟩ := hP
  have hx := Bd.exec
  have hby := Bd.bytes
  have hml : c.maxLocals = 2 := hml0
  have hown : s.vm.findClass "java/util/Objects" = some m.cls := findClass_of_methodNamed Bd.named
  have hnm := (name_of_methodNamed Bd.named Bd.method).1
  have X0 : Stand p l e ({ frames := 0, cells := 0, slots := 0, locals := 0 } : Room) s m #[(.ref a0_), (.ref a1_)] below meth c s₁ [] 0 0 := Stand.of_body Bd
  have e0 : s₁.heap = h0 := by rw [← hh, Bd.state]; rfl
  have N0 := Fr.nil n0
  have S0 : ∀ t, Steps p.tables e below (s₁.setTop (mkF m 0 #[rv a0_, rv a1_] [])) t → Steps p.tables e below (s₁.setTop (entryFrame m #[(.ref a0_), (.ref a1_)] 2)) t := fun t k => castTop (ef_rmRnn m a0_ a1_) k
  obtain ⟨fs, hr, hrun, hended, hW, hsame⟩ := X0.leave (v := some (.ref a0_)) (fun h => by rw [Bd.returns] at h; cases h)
  refine ⟨_, _, S0 _ ?_, hrun, hended, _, _, rfl, ?_, ⟨_, rfl⟩, hW, hsame.mono (by decide) (by decide)⟩
  · skip
    show Steps p.tables e below (s₁.setTop (mkF m 0 #[rv a0_, rv a1_] [])) _
    refine XS.aloadN X0.here hx rfl (hb hby d7_0) rfl rfl ?_
    show Steps p.tables e below (s₁.setTop (mkF m 1 #[rv a0_, rv a1_] [(.ref a0_)])) _
    refine XS.ifnonnullYes X0.here hx rfl (pc0 := 1) (pc' := 13) rfl (hb hby d7_1) rfl (by decide) (by decide) ?_
    show Steps p.tables e below (s₁.setTop (mkF m 13 #[rv a0_, rv a1_] [])) _
    refine XS.aloadN X0.here hx rfl (hb hby d7_13) rfl rfl ?_
    show Steps p.tables e below (s₁.setTop (mkF m 14 #[rv a0_, rv a1_] [(.ref a0_)])) _
    jvm_step X0.here [X0.here.top, hx, (hb hby d7_14), X0.method', Bd.returns, Value.isRef, FieldType.isReference]
    first | (intro acts; rw [hr _ acts rfl rfl rfl]) | rw [hr _ _ rfl rfl rfl]
    exact Steps.refl _
  · show QRnn Z a0_ a1_ h0 n0 _ s₁.heap _
    rw [e0]
    exact ⟨rfl, N0, rfl⟩
theorem d6_0 : decode prog_36_method_1_code 0 = .ok (.aload_n 0, 1) := by decide +kernel
theorem d6_1 : decode prog_36_method_1_code 1 = .ok (.invokespecial 1, 3) := by decide +kernel
theorem d6_4 : decode prog_36_method_1_code 4 = .ok (.aload_n 0, 1) := by decide +kernel
theorem d6_5 : decode prog_36_method_1_code 5 = .ok (.aload_n 1, 1) := by decide +kernel
theorem d6_6 : decode prog_36_method_1_code 6 = .ok (.ldc 7, 2) := by decide +kernel
theorem d6_8 : decode prog_36_method_1_code 8 = .ok (.invokestatic 9, 3) := by decide +kernel
theorem pd_2 : parseMethodDescriptor "(Ljava/lang/Object;Ljava/lang/String;)Ljava/lang/Object;" = some ⟨[(.object "java/lang/Object"), (.object "java/lang/String")], some (.object "java/lang/Object")⟩ := by decide +kernel
theorem d6_11 : decode prog_36_method_1_code 11 = .ok (.checkcast 15, 3) := by decide +kernel
theorem d6_14 : decode prog_36_method_1_code 14 = .ok (.putfield 17, 3) := by decide +kernel
theorem d6_17 : decode prog_36_method_1_code 17 = .ok (.iload_n 2, 1) := by decide +kernel
theorem d6_18 : decode prog_36_method_1_code 18 = .ok (.iconst 1, 1) := by decide +kernel
theorem d6_19 : decode prog_36_method_1_code 19 = .ok (.if_icmp .ge 27, 3) := by decide +kernel
theorem d6_46 : decode prog_36_method_1_code 46 = .ok (.aload_n 0, 1) := by decide +kernel
theorem d6_47 : decode prog_36_method_1_code 47 = .ok (.iload_n 2, 1) := by decide +kernel
theorem d6_48 : decode prog_36_method_1_code 48 = .ok (.putfield 39, 3) := by decide +kernel
theorem d6_51 : decode prog_36_method_1_code 51 = .ok (.return_, 1) := by decide +kernel
theorem pn_3 : plainName "com/example/kilit/kilit/source/Location" = true := by first | (simp [plainName, overriddenIn]; done) | decide +kernel
def QLoc (Z : State) (a0_ : Addr) (a1_ : Addr) (u2 : Int32)  (h0 : Heap) (n0 : Nat) (v : Option Value) (h : Heap) (L : List Loc) : Prop := v = none ∧ Fr n0 L ∧ Keep h0 h [a0_] ∧ Exa Z h a0_ "com/example/kilit/kilit/source/Location" ∧ Fld Z h a0_ "com/example/kilit/kilit/source/Location" "file" "Ljava/lang/String;" (.ref a1_) ∧ Fld Z h a0_ "com/example/kilit/kilit/source/Location" "line" "I" (.int u2)
theorem ef_rmLoc (m : MethodId) (a0_ : Addr) (a1_ : Addr) (u2 : Int32) : entryFrame m #[(.ref a0_), (.ref a1_), (.int u2)] 3 = mkF m 0 #[rv a0_, rv a1_, iv u2] [] := by first | (simp [entryFrame, mkF, argsToLocals, Value.category]; done) | rfl
set_option maxRecDepth 65536 in
set_option maxHeartbeats 40000000 in
theorem rmLoc (l : Launch) (Z : State) (a0 : Array Value) (hw : ∀ d ∈ tables_1, d.before a0 Z = true) (ws : List Jvm.Cond) (a0_ : Addr) (a1_ : Addr) (u2 : Int32)  (h0 : Heap) (n0 : Nat) (Z0 : n0 ≤ h0.size) (E1 : Exa Z h0 a0_ "com/example/kilit/kilit/source/Location") (F1 : Fld Z h0 a0_ "com/example/kilit/kilit/source/Location" "file" "Ljava/lang/String;" .null) (F2 : Fld Z h0 a0_ "com/example/kilit/kilit/source/Location" "line" "I" (.int (0 : Int32))) (g0 : n0 ≤ a0_) (E2 : Exa Z h0 a1_ "java/lang/String") (hu : ¬ u2 < (1 : Int32)) :
    MetFree l (⟨"com/example/kilit/kilit/source/Location", "<init>", "(Ljava/lang/String;I)V"⟩ : MethodName) (head1 (Jvm.Cond.code (⟨"com/example/kilit/kilit/source/Location", "<init>", "(Ljava/lang/String;I)V"⟩ : MethodName) prog_36_method_1_code 3 none :: ws) ({ frames := 1, cells := 2, slots := 20, locals := 14 } : Room)) (fun a U => a = #[(.ref a0_), (.ref a1_), (.int u2)] ∧ Z.Warmed39 U.vm ∧ U.heap = h0) (fun _ _ _ _ _ => True) (fun _ U o U' => ∃ v L, o = .returned v ∧ QLoc Z a0_ a1_ u2 h0 n0 v U'.heap L ∧ ReturnedEndW U o U' L ({ frames := 1, cells := 2, slots := 20, locals := 14 } : Room).cells ({ frames := 1, cells := 2, slots := 20, locals := 14 } : Room).slots) := by
  refine MetFree.of_bodySF (plainFor_of_name pn_3) hisR ?_
  intro p e s m args below meth c s₁ Bd hml0 hP hK
  obtain ⟨rfl, hZ, hh⟩ := hP
  have hx := Bd.exec
  have hby := Bd.bytes
  have hml : c.maxLocals = 3 := hml0
  have hown : s.vm.findClass "com/example/kilit/kilit/source/Location" = some m.cls := findClass_of_methodNamed Bd.named
  have hnm := (name_of_methodNamed Bd.named Bd.method).1
  have X0 : Stand p l e ({ frames := 1, cells := 2, slots := 20, locals := 14 } : Room) s m #[(.ref a0_), (.ref a1_), (.int u2)] below meth c s₁ [] 0 0 := Stand.of_body Bd
  have e0 : s₁.heap = h0 := by rw [← hh, Bd.state]; rfl
  have N0 := Fr.nil n0
  have S0 : ∀ t, Steps p.tables e below (s₁.setTop (mkF m 0 #[rv a0_, rv a1_, iv u2] [])) t → Steps p.tables e below (s₁.setTop (entryFrame m #[(.ref a0_), (.ref a1_), (.int u2)] 3)) t := fun t k => castTop (ef_rmLoc m a0_ a1_ u2) k
  have K0 : Keep h0 h0 [a0_] := Keep.refl _ _
  obtain ⟨T1, X1, e1, st1⟩ := initO X0 hx hZ hown (hw _ (List.mem_of_getElem? (i := 37) rfl)) (hw _ (List.mem_of_getElem? (i := 21) rfl)) (hw _ (List.mem_of_getElem? (i := 22) rfl)) e0 (g := (mkF m 1 #[rv a0_, rv a1_, iv u2] [(.ref a0_)])) rfl (by rw [hml]; rfl) rfl (hb hby d6_1) (by decide) (W := 0) (by show 2 * 0 + _ ≤ _; exact Nat.le_of_eq rfl) (by decide)
  have S2 : ∀ t, Steps p.tables e below (T1.setTop (mkF m 6 #[rv a0_, rv a1_, iv u2] [(.ref a1_), (.ref a0_)])) t → Steps p.tables e below (s₁.setTop (entryFrame m #[(.ref a0_), (.ref a1_), (.int u2)] 3)) t := by
    intro t k
    refine S0 t ?_
    show Steps p.tables e below (s₁.setTop (mkF m 0 #[rv a0_, rv a1_, iv u2] [])) _
    refine XS.aloadN X0.here hx rfl (hb hby d6_0) rfl rfl ?_
    show Steps p.tables e below (s₁.setTop (mkF m 1 #[rv a0_, rv a1_, iv u2] [(.ref a0_)])) _
    refine st1 _ ?_
    show Steps p.tables e below (T1.setTop (mkF m 4 #[rv a0_, rv a1_, iv u2] [])) _
    refine XS.aloadN X1.here hx rfl (hb hby d6_4) rfl rfl ?_
    show Steps p.tables e below (T1.setTop (mkF m 5 #[rv a0_, rv a1_, iv u2] [(.ref a0_)])) _
    refine XS.aloadN X1.here hx rfl (hb hby d6_5) rfl rfl ?_
    exact k
  have hwS : ∀ a ∈ Bundle.stringAtoms, a.before a0 Z = true := fun d hd => hw d ((by decide +kernel : ∀ d ∈ Bundle.stringAtoms, d ∈ tables_1) d hd)
  have hS : s.Since s.vm 0 := (State.WarmedH.refl s).since 0
  obtain ⟨lt3, T3, h3, kx3, X3, e3, E3, hS, hkx3, hZ, hown, st3⟩ := ldcS (s := s) (vm0 := s.vm) X1 hx hZ hown (hw _ (List.mem_of_getElem? (i := 38) rfl)) hwS e1 hS (Nat.zero_le _) (g := (mkF m 6 #[rv a0_, rv a1_, iv u2] [(.ref a1_), (.ref a0_)])) rfl (hb hby d6_6) (n := 16) (by decide) (by decide) (by decide) (by decide)
  have f4 := E1.ext E3
  have f5 := F1.ext E3
  have f6 := F2.ext E3
  have f7 := E2.ext E3
  have Z3 : n0 ≤ h3.size := Nat.le_trans Z0 E3.1
  have K3 : Keep h0 h3 [a0_] := K0.ext E3
  have S8 : ∀ t, Steps p.tables e below (T3.setTop (mkF m 8 #[rv a0_, rv a1_, iv u2] [(.ref lt3), (.ref a1_), (.ref a0_)])) t → Steps p.tables e below (s₁.setTop (entryFrame m #[(.ref a0_), (.ref a1_), (.int u2)] 3)) t := by
    intro t k
    refine S2 t ?_
    show Steps p.tables e below (T1.setTop (mkF m 6 #[rv a0_, rv a1_, iv u2] [(.ref a1_), (.ref a0_)])) _
    refine st3 _ ?_
    exact k
  obtain ⟨_, _, ⟨T9, L9, k9, n9⟩, -, X9, ⟨Lc9, hQ9, l9, y9, z9⟩, st9⟩ := Jvm.LawKit.callS X3 hx (y := (⟨"java/util/Objects", "requireNonNull", "(Ljava/lang/Object;Ljava/lang/String;)Ljava/lang/Object;"⟩ : MethodName)) hown (mvT hZ (hw _ (List.mem_of_getElem? (i := 39) rfl))) (mvT hZ (hw _ (List.mem_of_getElem? (i := 40) rfl))) (mvT hZ (hw _ (List.mem_of_getElem? (i := 41) rfl))) (mvT hZ (hw _ (List.mem_of_getElem? (i := 42) rfl))) (by decide) (backOf (W := 1) (rmRnn l Z a0 hw [] a1_ lt3 h3 n0 Z3) hZ (hw _ (List.mem_of_getElem? (i := 42) rfl)) (hw _ (List.mem_of_getElem? (i := 41) rfl)) (by decide) (by decide)) (g := (mkF m 8 #[rv a0_, rv a1_, iv u2] [(.ref lt3), (.ref a1_), (.ref a0_)])) rfl (by rw [hml]; rfl) (argsL := [(.ref a1_), (.ref lt3)]) (rest := [(.ref a0_)]) (lenOf pd_2 rfl) rfl (by show 2 * 0 + _ ≤ _; exact Nat.le_of_eq rfl) (hb hby d6_8) (fun _ _ => ⟨rfl, e3, (by decide : 2 + 0 ≤ _), (by decide : 20 + 0 ≤ _)⟩)
  dsimp only [Pt.U, Pt.locs, Pt.cells, Pt.slots] at X9 l9 y9 z9 st9 hQ9
  subst y9 z9
  obtain ⟨rfl, Nq9, eq9⟩ := hQ9
  have N9 : Fr n0 L9 := by rw [l9]; exact Fr.app N0 Nq9
  obtain ⟨T10, X10, e10, st10⟩ := castY X9 hx hZ hown (hw _ (List.mem_of_getElem? (i := 43) rfl)) eq9 (Ins.self f7) (g := (mkF m 11 #[rv a0_, rv a1_, iv u2] [(.ref a1_), (.ref a0_)])) rfl rfl (hb hby d6_11)
  obtain ⟨T11, h11, X11, e11, W11, st11⟩ := putF X10 hx hZ hown (host := "") (Or.inl (hw _ (List.mem_of_getElem? (i := 44) rfl))) Via.refl e10 f5 f4 (Or.inr ⟨(hw _ (List.mem_of_getElem? (i := 45) rfl)), rfl, hnm⟩) (hw _ (List.mem_of_getElem? (i := 32) rfl)) (ty := (.object "java/lang/String")) (by decide) rfl rfl (g := (mkF m 14 #[rv a0_, rv a1_, iv u2] [(.ref a1_), (.ref a0_)])) rfl rfl (hb hby d6_14)
  have Fw11 := f5.same W11
  have f12 := f6.other W11 (Or.inr (slot_ne (Or.inr (hw _ (List.mem_of_getElem? (i := 47) rfl))) (Or.inr (hw _ (List.mem_of_getElem? (i := 45) rfl))) (by decide) (t := .int) (t' := (.object "java/lang/String")) (by decide) (by decide)))
  have f13 := f4.wr W11
  have hk14 := Nat.le_trans hkx3 (Keep.of_wr W11).1
  have f18 := f7.wr W11
  have N11 := Fr.snoc X11 N9 g0
  have Z11 : n0 ≤ h11.size := Nat.le_trans Z3 (Keep.of_wr W11).1
  have K11 : Keep h0 h11 [a0_] := K3.wr W11 (Or.inl (List.mem_of_getElem? (i := 0) rfl))
  obtain ⟨T19, h19, X19, e19, W19, st19⟩ := putF X11 hx hZ hown (host := "") (Or.inl (hw _ (List.mem_of_getElem? (i := 46) rfl))) Via.refl e11 f12 f13 (Or.inr ⟨(hw _ (List.mem_of_getElem? (i := 47) rfl)), rfl, hnm⟩) (hw _ (List.mem_of_getElem? (i := 32) rfl)) (ty := .int) (by decide) rfl rfl (g := (mkF m 48 #[rv a0_, rv a1_, iv u2] [(.int u2), (.ref a0_)])) rfl rfl (hb hby d6_48)
  have Fw19 := f12.same W19
  have f20 := Fw11.other W19 (Or.inr (slot_ne (Or.inr (hw _ (List.mem_of_getElem? (i := 45) rfl))) (Or.inr (hw _ (List.mem_of_getElem? (i := 47) rfl))) (by decide) (t := (.object "java/lang/String")) (t' := .int) (by decide) (by decide)))
  have f21 := f13.wr W19
  have hk22 := Nat.le_trans hk14 (Keep.of_wr W19).1
  have f26 := f18.wr W19
  have N19 := Fr.snoc X19 N11 g0
  have Z19 : n0 ≤ h19.size := Nat.le_trans Z11 (Keep.of_wr W19).1
  have K19 : Keep h0 h19 [a0_] := K11.wr W19 (Or.inl (List.mem_of_getElem? (i := 0) rfl))
  obtain ⟨fs, hr, hrun, hended, hR1, hR2, hR3, hR4⟩ := Stand.leaveW (s := s) (vm₁ := T3.vm) X19 hS (by rw [e19]; exact hk22) (v := none) (fun _ => rfl)
  refine ⟨_, _, S8 _ ?_, hrun, hended, _, _, rfl, ?_, hR1, hR2, hR3, hR4.mono (by decide) (by decide)⟩
  · skip
    show Steps p.tables e below (T3.setTop (mkF m 8 #[rv a0_, rv a1_, iv u2] [(.ref lt3), (.ref a1_), (.ref a0_)])) _
    refine st9 _ ?_
    show Steps p.tables e below (T9.setTop (mkF m 11 #[rv a0_, rv a1_, iv u2] [(.ref a1_), (.ref a0_)])) _
    refine st10 _ ?_
    show Steps p.tables e below (T10.setTop (mkF m 14 #[rv a0_, rv a1_, iv u2] [(.ref a1_), (.ref a0_)])) _
    refine st11 _ ?_
    show Steps p.tables e below (T11.setTop (mkF m 17 #[rv a0_, rv a1_, iv u2] [])) _
    refine XS.iloadN X11.here hx rfl (hb hby d6_17) rfl ?_
    show Steps p.tables e below (T11.setTop (mkF m 18 #[rv a0_, rv a1_, iv u2] [(.int u2)])) _
    refine XS.iconst X11.here hx rfl (hb hby d6_18) ?_
    show Steps p.tables e below (T11.setTop (mkF m 19 #[rv a0_, rv a1_, iv u2] [(.int (1 : Int32)), (.int u2)])) _
    refine XS.icmpYes X11.here hx rfl (pc0 := 19) (pc' := 46) rfl (hb hby d6_19) rfl (flt hu).2.1 (by decide) (by decide) ?_
    show Steps p.tables e below (T11.setTop (mkF m 46 #[rv a0_, rv a1_, iv u2] [])) _
    refine XS.aloadN X11.here hx rfl (hb hby d6_46) rfl rfl ?_
    show Steps p.tables e below (T11.setTop (mkF m 47 #[rv a0_, rv a1_, iv u2] [(.ref a0_)])) _
    refine XS.iloadN X11.here hx rfl (hb hby d6_47) rfl ?_
    show Steps p.tables e below (T11.setTop (mkF m 48 #[rv a0_, rv a1_, iv u2] [(.int u2), (.ref a0_)])) _
    refine st19 _ ?_
    show Steps p.tables e below (T19.setTop (mkF m 51 #[rv a0_, rv a1_, iv u2] [])) _
    exact X19.returnOut hx Bd.returns (hb hby d6_51) hr
  · show QLoc Z a0_ a1_ u2 h0 n0 _ T19.heap _
    rw [e19]
    exact ⟨rfl, N19, K19, f21, f20, Fw19⟩
theorem d8_0 : decode prog_36_method_6_code 0 = .ok (.aload_n 1, 1) := by decide +kernel
theorem d8_1 : decode prog_36_method_6_code 1 = .ok (.instanceof 18, 3) := by decide +kernel
theorem d8_4 : decode prog_36_method_6_code 4 = .ok (.ifCond .eq 37, 3) := by decide +kernel
theorem d8_41 : decode prog_36_method_6_code 41 = .ok (.iconst 0, 1) := by decide +kernel
theorem d8_42 : decode prog_36_method_6_code 42 = .ok (.ireturn, 1) := by decide +kernel
def QEqN (Z : State) (a0_ : Addr)  (h0 : Heap) (n0 : Nat) (v : Option Value) (h : Heap) (L : List Loc) : Prop := v = some (.int (0 : Int32)) ∧ Fr n0 L ∧ h = h0
theorem ef_rmEqN (m : MethodId) (a0_ : Addr) : entryFrame m #[(.ref a0_), .null] 3 = mkF m 0 #[rv a0_, .val .null, .unset] [] := by first | (simp [entryFrame, mkF, argsToLocals, Value.category]; done) | rfl
set_option maxRecDepth 65536 in
set_option maxHeartbeats 40000000 in
theorem rmEqN (l : Launch) (Z : State) (a0 : Array Value) (hw : ∀ d ∈ tables_1, d.before a0 Z = true) (ws : List Jvm.Cond) (a0_ : Addr)  (h0 : Heap) (n0 : Nat) (Z0 : n0 ≤ h0.size) :
    MetFree l (⟨"com/example/kilit/kilit/source/Location", "equals", "(Ljava/lang/Object;)Z"⟩ : MethodName) (head1 (Jvm.Cond.code (⟨"com/example/kilit/kilit/source/Location", "equals", "(Ljava/lang/Object;)Z"⟩ : MethodName) prog_36_method_6_code 3 (some .boolean) :: ws) ({ frames := 0, cells := 0, slots := 0, locals := 0 } : Room)) (fun a U => a = #[(.ref a0_), .null] ∧ Z.Warmed39 U.vm ∧ U.heap = h0) (fun _ _ _ _ _ => True) (fun _ U o U' => ∃ v L, o = .returned v ∧ QEqN Z a0_ h0 n0 v U'.heap L ∧ FrameEnd U o U' L ({ frames := 0, cells := 0, slots := 0, locals := 0 } : Room).cells ({ frames := 0, cells := 0, slots := 0, locals := 0 } : Room).slots) := by
  refine MetFree.of_bodySF (plainFor_of_name pn_3) hisR ?_
  intro p e s m args below meth c s₁ Bd hml0 hP hK
  obtain ⟨rfl, hZ, hh⟩ := hP
  have hx := Bd.exec
  have hby := Bd.bytes
  have hml : c.maxLocals = 3 := hml0
  have hown : s.vm.findClass "com/example/kilit/kilit/source/Location" = some m.cls := findClass_of_methodNamed Bd.named
  have hnm := (name_of_methodNamed Bd.named Bd.method).1
  have X0 : Stand p l e ({ frames := 0, cells := 0, slots := 0, locals := 0 } : Room) s m #[(.ref a0_), .null] below meth c s₁ [] 0 0 := Stand.of_body Bd
  have e0 : s₁.heap = h0 := by rw [← hh, Bd.state]; rfl
  have N0 := Fr.nil n0
  have S0 : ∀ t, Steps p.tables e below (s₁.setTop (mkF m 0 #[rv a0_, .val .null, .unset] [])) t → Steps p.tables e below (s₁.setTop (entryFrame m #[(.ref a0_), .null] 3)) t := fun t k => castTop (ef_rmEqN m a0_) k
  obtain ⟨fs, hr, hrun, hended, hW, hsame⟩ := X0.leave (v := some (.int (0 : Int32))) (fun h => by rw [Bd.returns] at h; cases h)
  refine ⟨_, _, S0 _ ?_, hrun, hended, _, _, rfl, ?_, ⟨_, rfl⟩, hW, hsame.mono (by decide) (by decide)⟩
  · skip
    show Steps p.tables e below (s₁.setTop (mkF m 0 #[rv a0_, .val .null, .unset] [])) _
    refine XS.aloadN X0.here hx rfl (hb hby d8_0) rfl rfl ?_
    show Steps p.tables e below (s₁.setTop (mkF m 1 #[rv a0_, .val .null, .unset] [.null])) _
    refine X0.instanceofNull hx (g := (mkF m 1 #[rv a0_, .val .null, .unset] [.null])) rfl rfl (hb hby d8_1) _ ?_
    show Steps p.tables e below (s₁.setTop (mkF m 4 #[rv a0_, .val .null, .unset] [(.int (0 : Int32))])) _
    refine XS.ifYes X0.here hx rfl (pc0 := 4) (pc' := 41) rfl (hb hby d8_4) rfl ((if0 _ _).trans (teq (by decide : (0 : Int32) = (0 : Int32))).1) (by decide) (by decide) ?_
    show Steps p.tables e below (s₁.setTop (mkF m 41 #[rv a0_, .val .null, .unset] [])) _
    refine XS.iconst X0.here hx rfl (hb hby d8_41) ?_
    show Steps p.tables e below (s₁.setTop (mkF m 42 #[rv a0_, .val .null, .unset] [(.int (0 : Int32))])) _
    exact retN X0 hx (t := .boolean) Bd.returns (by simp) (hb hby d8_42) hr
  · show QEqN Z a0_ h0 n0 _ s₁.heap _
    rw [e0]
    exact ⟨rfl, N0, rfl⟩
def QEqS (Z : State) (a0_ : Addr) (a1_ : Addr)  (h0 : Heap) (n0 : Nat) (v : Option Value) (h : Heap) (L : List Loc) : Prop := v = some (.int (0 : Int32)) ∧ Fr n0 L ∧ h = h0
theorem ef_rmEqS (m : MethodId) (a0_ : Addr) (a1_ : Addr) : entryFrame m #[(.ref a0_), (.ref a1_)] 3 = mkF m 0 #[rv a0_, rv a1_, .unset] [] := by first | (simp [entryFrame, mkF, argsToLocals, Value.category]; done) | rfl
set_option maxRecDepth 65536 in
set_option maxHeartbeats 40000000 in
theorem rmEqS (l : Launch) (Z : State) (a0 : Array Value) (hw : ∀ d ∈ tables_1, d.before a0 Z = true) (ws : List Jvm.Cond) (a0_ : Addr) (a1_ : Addr)  (h0 : Heap) (n0 : Nat) (Z0 : n0 ≤ h0.size) (E1 : Exa Z h0 a1_ "java/lang/String") :
    MetFree l (⟨"com/example/kilit/kilit/source/Location", "equals", "(Ljava/lang/Object;)Z"⟩ : MethodName) (head1 (Jvm.Cond.code (⟨"com/example/kilit/kilit/source/Location", "equals", "(Ljava/lang/Object;)Z"⟩ : MethodName) prog_36_method_6_code 3 (some .boolean) :: ws) ({ frames := 0, cells := 0, slots := 0, locals := 0 } : Room)) (fun a U => a = #[(.ref a0_), (.ref a1_)] ∧ Z.Warmed39 U.vm ∧ U.heap = h0) (fun _ _ _ _ _ => True) (fun _ U o U' => ∃ v L, o = .returned v ∧ QEqS Z a0_ a1_ h0 n0 v U'.heap L ∧ FrameEnd U o U' L ({ frames := 0, cells := 0, slots := 0, locals := 0 } : Room).cells ({ frames := 0, cells := 0, slots := 0, locals := 0 } : Room).slots) := by
  refine MetFree.of_bodySF (plainFor_of_name pn_3) hisR ?_
  intro p e s m args below meth c s₁ Bd hml0 hP hK
  obtain ⟨rfl, hZ, hh⟩ := hP
  have hx := Bd.exec
  have hby := Bd.bytes
  have hml : c.maxLocals = 3 := hml0
  have hown : s.vm.findClass "com/example/kilit/kilit/source/Location" = some m.cls := findClass_of_methodNamed Bd.named
  have hnm := (name_of_methodNamed Bd.named Bd.method).1
  have X0 : Stand p l e ({ frames := 0, cells := 0, slots := 0, locals := 0 } : Room) s m #[(.ref a0_), (.ref a1_)] below meth c s₁ [] 0 0 := Stand.of_body Bd
  have e0 : s₁.heap = h0 := by rw [← hh, Bd.state]; rfl
  have N0 := Fr.nil n0
  have S0 : ∀ t, Steps p.tables e below (s₁.setTop (mkF m 0 #[rv a0_, rv a1_, .unset] [])) t → Steps p.tables e below (s₁.setTop (entryFrame m #[(.ref a0_), (.ref a1_)] 3)) t := fun t k => castTop (ef_rmEqS m a0_ a1_) k
  have hno := own_NSno (hw _ (List.mem_of_getElem? (i := 76) rfl)) (hw _ (List.mem_of_getElem? (i := 32) rfl)) (NS.step (hw _ (List.mem_of_getElem? (i := 76) rfl)) (own_NSroot (hw _ (List.mem_of_getElem? (i := 77) rfl)) (hw _ (List.mem_of_getElem? (i := 32) rfl)) (by decide)) (by decide)) (by decide)
  obtain ⟨T1, X1, e1, st1⟩ := instNo X0 hx hZ hown (hw _ (List.mem_of_getElem? (i := 53) rfl)) e0 E1 hno (g := (mkF m 1 #[rv a0_, rv a1_, .unset] [(.ref a1_)])) rfl rfl (hb hby d8_1)
  obtain ⟨fs, hr, hrun, hended, hW, hsame⟩ := X1.leave (v := some (.int (0 : Int32))) (fun h => by rw [Bd.returns] at h; cases h)
  refine ⟨_, _, S0 _ ?_, hrun, hended, _, _, rfl, ?_, ⟨_, rfl⟩, hW, hsame.mono (by decide) (by decide)⟩
  · skip
    show Steps p.tables e below (s₁.setTop (mkF m 0 #[rv a0_, rv a1_, .unset] [])) _
    refine XS.aloadN X0.here hx rfl (hb hby d8_0) rfl rfl ?_
    show Steps p.tables e below (s₁.setTop (mkF m 1 #[rv a0_, rv a1_, .unset] [(.ref a1_)])) _
    refine st1 _ ?_
    show Steps p.tables e below (T1.setTop (mkF m 4 #[rv a0_, rv a1_, .unset] [(.int (0 : Int32))])) _
    refine XS.ifYes X1.here hx rfl (pc0 := 4) (pc' := 41) rfl (hb hby d8_4) rfl ((if0 _ _).trans (teq (by decide : (0 : Int32) = (0 : Int32))).1) (by decide) (by decide) ?_
    show Steps p.tables e below (T1.setTop (mkF m 41 #[rv a0_, rv a1_, .unset] [])) _
    refine XS.iconst X1.here hx rfl (hb hby d8_41) ?_
    show Steps p.tables e below (T1.setTop (mkF m 42 #[rv a0_, rv a1_, .unset] [(.int (0 : Int32))])) _
    exact retN X1 hx (t := .boolean) Bd.returns (by simp) (hb hby d8_42) hr
  · show QEqS Z a0_ a1_ h0 n0 _ T1.heap _
    rw [e1]
    exact ⟨rfl, N0, rfl⟩
theorem d8_7 : decode prog_36_method_6_code 7 = .ok (.aload_n 1, 1) := by decide +kernel
theorem d8_8 : decode prog_36_method_6_code 8 = .ok (.checkcast 18, 3) := by decide +kernel
theorem d8_11 : decode prog_36_method_6_code 11 = .ok (.astore_n 2, 1) := by decide +kernel
theorem d8_12 : decode prog_36_method_6_code 12 = .ok (.aload_n 0, 1) := by decide +kernel
theorem d8_13 : decode prog_36_method_6_code 13 = .ok (.getfield 17, 3) := by decide +kernel
theorem d8_16 : decode prog_36_method_6_code 16 = .ok (.aload_n 2, 1) := by decide +kernel
theorem d8_17 : decode prog_36_method_6_code 17 = .ok (.getfield 17, 3) := by decide +kernel
theorem d8_20 : decode prog_36_method_6_code 20 = .ok (.invokevirtual 69, 3) := by decide +kernel
theorem pd_3 : parseMethodDescriptor "(Ljava/lang/Object;)Z" = some ⟨[(.object "java/lang/Object")], some .boolean⟩ := by decide +kernel
theorem d8_23 : decode prog_36_method_6_code 23 = .ok (.ifCond .eq 18, 3) := by decide +kernel
theorem d8_26 : decode prog_36_method_6_code 26 = .ok (.aload_n 0, 1) := by decide +kernel
theorem d8_27 : decode prog_36_method_6_code 27 = .ok (.getfield 39, 3) := by decide +kernel
theorem d8_30 : decode prog_36_method_6_code 30 = .ok (.aload_n 2, 1) := by decide +kernel
theorem d8_31 : decode prog_36_method_6_code 31 = .ok (.getfield 39, 3) := by decide +kernel
theorem d8_34 : decode prog_36_method_6_code 34 = .ok (.if_icmp .ne 7, 3) := by decide +kernel
theorem d8_37 : decode prog_36_method_6_code 37 = .ok (.iconst 1, 1) := by decide +kernel
theorem d8_38 : decode prog_36_method_6_code 38 = .ok (.goto 4, 3) := by decide +kernel
def QEq (Z : State) (a0_ : Addr) (a1_ : Addr) (f0 f1 : Addr) (cs0 cs1 : List Int32) (l0 l1 G1 : Int32) (h0 : Heap) (n0 : Nat) (v : Option Value) (h : Heap) (L : List Loc) : Prop := v = some (.int (own_leq cs0 cs1 l0 l1)) ∧ Fr n0 L ∧ h = h0
theorem ef_rmEq (m : MethodId) (a0_ : Addr) (a1_ : Addr) : entryFrame m #[(.ref a0_), (.ref a1_)] 3 = mkF m 0 #[rv a0_, rv a1_, .unset] [] := by first | (simp [entryFrame, mkF, argsToLocals, Value.category]; done) | rfl
set_option maxRecDepth 65536 in
set_option maxHeartbeats 40000000 in
theorem rmEq (l : Launch) (Z : State) (a0 : Array Value) (hw : ∀ d ∈ tables_1, d.before a0 Z = true) (ws : List Jvm.Cond) (a0_ : Addr) (a1_ : Addr) (f0 f1 : Addr) (cs0 cs1 : List Int32) (l0 l1 G1 : Int32) (h0 : Heap) (n0 : Nat) (Z0 : n0 ≤ h0.size) (hO : Old Z n0 h0) (O2 : Sta Z Z.heap "java/lang/String" "COMPACT_STRINGS" "Z" (.int G1)) (P3 : ¬ (G1 = (0 : Int32))) (E1 : Exa Z h0 a1_ "com/example/kilit/kilit/source/Location") (Ff0 : Fld Z h0 a0_ "com/example/kilit/kilit/source/Location" "file" "Ljava/lang/String;" (.ref f0)) (Fl0 : Fld Z h0 a0_ "com/example/kilit/kilit/source/Location" "line" "I" (.int l0)) (Ff1 : Fld Z h0 a1_ "com/example/kilit/kilit/source/Location" "file" "Ljava/lang/String;" (.ref f1)) (Fl1 : Fld Z h0 a1_ "com/example/kilit/kilit/source/Location" "line" "I" (.int l1)) (S0_ : own_S Z h0 f0 cs0) (S1_ : own_S Z h0 f1 cs1) (b0_ : ∀ c ∈ cs0, own_Ch c) (b1_ : ∀ c ∈ cs1, own_Ch c) (m0_ : cs0.length ≤ 4000) (m1_ : cs1.length ≤ 4000) :
    MetFree l (⟨"com/example/kilit/kilit/source/Location", "equals", "(Ljava/lang/Object;)Z"⟩ : MethodName) (head1 (Jvm.Cond.code (⟨"com/example/kilit/kilit/source/Location", "equals", "(Ljava/lang/Object;)Z"⟩ : MethodName) prog_36_method_6_code 3 (some .boolean) :: ws) ({ frames := 2, cells := 0, slots := 0, locals := 28 } : Room)) (fun a U => a = #[(.ref a0_), (.ref a1_)] ∧ Z.Warmed39 U.vm ∧ U.heap = h0) (fun _ _ _ _ _ => True) (fun _ U o U' => ∃ v L, o = .returned v ∧ QEq Z a0_ a1_ f0 f1 cs0 cs1 l0 l1 G1 h0 n0 v U'.heap L ∧ FrameEnd U o U' L ({ frames := 2, cells := 0, slots := 0, locals := 28 } : Room).cells ({ frames := 2, cells := 0, slots := 0, locals := 28 } : Room).slots) := by
  refine MetFree.of_bodySF (plainFor_of_name pn_3) hisR ?_
  intro p e s m args below meth c s₁ Bd hml0 hP hK
  obtain ⟨rfl, hZ, hh⟩ := hP
  have hx := Bd.exec
  have hby := Bd.bytes
  have hml : c.maxLocals = 3 := hml0
  have hown : s.vm.findClass "com/example/kilit/kilit/source/Location" = some m.cls := findClass_of_methodNamed Bd.named
  have hnm := (name_of_methodNamed Bd.named Bd.method).1
  have X0 : Stand p l e ({ frames := 2, cells := 0, slots := 0, locals := 28 } : Room) s m #[(.ref a0_), (.ref a1_)] below meth c s₁ [] 0 0 := Stand.of_body Bd
  have e0 : s₁.heap = h0 := by rw [← hh, Bd.state]; rfl
  have N0 := Fr.nil n0
  have S0 : ∀ t, Steps p.tables e below (s₁.setTop (mkF m 0 #[rv a0_, rv a1_, .unset] [])) t → Steps p.tables e below (s₁.setTop (entryFrame m #[(.ref a0_), (.ref a1_)] 3)) t := fun t k => castTop (ef_rmEq m a0_ a1_) k
  have hwq : ∀ d ∈ StrChars.Road.wordsEq, d.before a0 Z = true := fun d hd => hw d ((by decide +kernel : ∀ d ∈ StrChars.Road.wordsEq, d ∈ tables_1) d hd)
  obtain ⟨t0_, kb0, N0_, vs0, ES0, VS0, CS0, AS0, cod0⟩ := id S0_
  obtain ⟨t1_, kb1, N1_, vs1, ES1, VS1, CS1, AS1, cod1⟩ := id S1_
  obtain ⟨T1, X1, e1, st1⟩ := instY X0 hx hZ hown (hw _ (List.mem_of_getElem? (i := 53) rfl)) e0 (Ins.self E1) (g := (mkF m 1 #[rv a0_, rv a1_, .unset] [(.ref a1_)])) rfl rfl (hb hby d8_1)
  obtain ⟨T2, X2, e2, st2⟩ := castY X1 hx hZ hown (hw _ (List.mem_of_getElem? (i := 53) rfl)) e1 (Ins.self E1) (g := (mkF m 8 #[rv a0_, rv a1_, .unset] [(.ref a1_)])) rfl rfl (hb hby d8_8)
  obtain ⟨T3, X3, e3, st3⟩ := getF X2 hx hZ hown (host := "") (Or.inl (hw _ (List.mem_of_getElem? (i := 44) rfl))) Via.refl e2 Ff0 (g := (mkF m 13 #[rv a0_, rv a1_, rv a1_] [(.ref a0_)])) rfl rfl (hb hby d8_13)
  obtain ⟨T4, X4, e4, st4⟩ := getF X3 hx hZ hown (host := "") (Or.inl (hw _ (List.mem_of_getElem? (i := 44) rfl))) Via.refl e3 Ff1 (g := (mkF m 17 #[rv a0_, rv a1_, rv a1_] [(.ref a1_), (.ref f0)])) rfl rfl (hb hby d8_17)
  obtain ⟨cq5, kq5, q5a, q5b, q5c⟩ := isOf hZ e4 ES0
  obtain ⟨_, _, ⟨T5, L5, k5, n5⟩, -, X5, ⟨Lc5, hQ5, l5, y5, z5⟩, st5⟩ := X4.virtualBack hx (y := (⟨"java/lang/String", "equals", "(Ljava/lang/Object;)Z"⟩ : MethodName)) (z := (⟨"java/lang/String", "equals", "(Ljava/lang/Object;)Z"⟩ : MethodName)) hown (mvT hZ (hw _ (List.mem_of_getElem? (i := 55) rfl))) (mvT hZ (hw _ (List.mem_of_getElem? (i := 56) rfl))) (notFace_of_selects (args := #[]) (mvT hZ (hw _ (List.mem_of_getElem? (i := 58) rfl)))) (mvT hZ (hw _ (List.mem_of_getElem? (i := 58) rfl))) (mvT hZ (hw _ (List.mem_of_getElem? (i := 57) rfl))) (by decide) (Back.mono (StrChars.Road.eqW (W := 0) hZ hwq (kI := 4) (hw _ (List.mem_of_getElem? (i := 10) rfl)) ES0 VS0 CS0 AS0 cod0 (own_b16 b0_) m0_ ES1 VS1 CS1 AS1 cod1 (own_b16 b1_) m1_ (O2.ext hO.2) P3 (by decide) (by decide)) (fun _ _ h_ => h_) (Post' := fun P _ v B => ∃ L, (v = some (.int (if cs0 = cs1 then (1 : Int32) else (0 : Int32))) ∧ Fr n0 L ∧ B.U.heap = h0) ∧ B.locs = P.locs ++ L ∧ B.cells = P.cells + 0 ∧ B.slots = P.slots + 0) (fun _ _ _ _ _ ⟨L_, ⟨q1, q2, q3⟩, r_⟩ => ⟨L_, ⟨own_eqv q1, q2 ▸ Fr.nil n0, q3⟩, r_⟩)) q5a q5c (g := (mkF m 20 #[rv a0_, rv a1_, rv a1_] [(.ref f1), (.ref f0)])) rfl (by rw [hml]; rfl) (Steps.refl _) (argsL := [(.ref f1)]) (rest := []) (lenOf pd_3 rfl) rfl (by show 2 * 0 + _ ≤ _; exact Nat.le_of_eq rfl) (hb hby d8_20) (fun _ _ => ⟨rfl, e4, (by decide : 0 + 0 ≤ _), (by decide : 0 + 0 ≤ _)⟩)
  dsimp only [Pt.U, Pt.locs, Pt.cells, Pt.slots] at X5 l5 y5 z5 st5 hQ5
  subst y5 z5
  obtain ⟨rfl, Nq5, eq5⟩ := hQ5
  have N5 : Fr n0 L5 := by rw [l5]; exact Fr.app N0 Nq5
  have S6 : ∀ t, Steps p.tables e below (T5.setTop (mkF m 23 #[rv a0_, rv a1_, rv a1_] [(.int (if cs0 = cs1 then (1 : Int32) else (0 : Int32)))])) t → Steps p.tables e below (s₁.setTop (entryFrame m #[(.ref a0_), (.ref a1_)] 3)) t := by
    intro t k
    refine S0 t ?_
    show Steps p.tables e below (s₁.setTop (mkF m 0 #[rv a0_, rv a1_, .unset] [])) _
    refine XS.aloadN X0.here hx rfl (hb hby d8_0) rfl rfl ?_
    show Steps p.tables e below (s₁.setTop (mkF m 1 #[rv a0_, rv a1_, .unset] [(.ref a1_)])) _
    refine st1 _ ?_
    show Steps p.tables e below (T1.setTop (mkF m 4 #[rv a0_, rv a1_, .unset] [(.int (1 : Int32))])) _
    refine XS.ifNo X1.here hx rfl (hb hby d8_4) rfl ((if0 _ _).trans (feq (by decide : ¬ ((1 : Int32) = (0 : Int32)))).1) ?_
    show Steps p.tables e below (T1.setTop (mkF m 7 #[rv a0_, rv a1_, .unset] [])) _
    refine XS.aloadN X1.here hx rfl (hb hby d8_7) rfl rfl ?_
    show Steps p.tables e below (T1.setTop (mkF m 8 #[rv a0_, rv a1_, .unset] [(.ref a1_)])) _
    refine st2 _ ?_
    show Steps p.tables e below (T2.setTop (mkF m 11 #[rv a0_, rv a1_, .unset] [(.ref a1_)])) _
    refine XS.astoreN X2.here hx rfl (hb hby d8_11) rfl rfl (l' := #[rv a0_, rv a1_, rv a1_]) rfl ?_
    show Steps p.tables e below (T2.setTop (mkF m 12 #[rv a0_, rv a1_, rv a1_] [])) _
    refine XS.aloadN X2.here hx rfl (hb hby d8_12) rfl rfl ?_
    show Steps p.tables e below (T2.setTop (mkF m 13 #[rv a0_, rv a1_, rv a1_] [(.ref a0_)])) _
    refine st3 _ ?_
    show Steps p.tables e below (T3.setTop (mkF m 16 #[rv a0_, rv a1_, rv a1_] [(.ref f0)])) _
    refine XS.aloadN X3.here hx rfl (hb hby d8_16) rfl rfl ?_
    show Steps p.tables e below (T3.setTop (mkF m 17 #[rv a0_, rv a1_, rv a1_] [(.ref a1_), (.ref f0)])) _
    refine st4 _ ?_
    show Steps p.tables e below (T4.setTop (mkF m 20 #[rv a0_, rv a1_, rv a1_] [(.ref f1), (.ref f0)])) _
    refine st5.trans ?_
    exact k
  by_cases hc7 : (if cs0 = cs1 then (1 : Int32) else (0 : Int32)) = (0 : Int32)
  · skip
    obtain ⟨fs, hr, hrun, hended, hW, hsame⟩ := X5.leave (v := some (.int (0 : Int32))) (fun h => by rw [Bd.returns] at h; cases h)
    refine ⟨_, _, S6 _ ?_, hrun, hended, _, _, rfl, ?_, ⟨_, rfl⟩, hW, hsame.mono (by decide) (by decide)⟩
    · skip
      show Steps p.tables e below (T5.setTop (mkF m 23 #[rv a0_, rv a1_, rv a1_] [(.int (if cs0 = cs1 then (1 : Int32) else (0 : Int32)))])) _
      refine XS.ifYes X5.here hx rfl (pc0 := 23) (pc' := 41) rfl (hb hby d8_23) rfl ((if0 _ _).trans (teq hc7).1) (by decide) (by decide) ?_
      show Steps p.tables e below (T5.setTop (mkF m 41 #[rv a0_, rv a1_, rv a1_] [])) _
      refine XS.iconst X5.here hx rfl (hb hby d8_41) ?_
      show Steps p.tables e below (T5.setTop (mkF m 42 #[rv a0_, rv a1_, rv a1_] [(.int (0 : Int32))])) _
      exact retN X5 hx (t := .boolean) Bd.returns (by simp) (hb hby d8_42) hr
    · show QEq Z a0_ a1_ f0 f1 cs0 cs1 l0 l1 G1 h0 n0 _ T5.heap _
      rw [eq5]
      exact ⟨by rw [own_leqz hc7], N5, rfl⟩
  · skip
    obtain ⟨T8, X8, e8, st8⟩ := getF X5 hx hZ hown (host := "") (Or.inl (hw _ (List.mem_of_getElem? (i := 46) rfl))) Via.refl eq5 Fl0 (g := (mkF m 27 #[rv a0_, rv a1_, rv a1_] [(.ref a0_)])) rfl rfl (hb hby d8_27)
    obtain ⟨T9, X9, e9, st9⟩ := getF X8 hx hZ hown (host := "") (Or.inl (hw _ (List.mem_of_getElem? (i := 46) rfl))) Via.refl e8 Fl1 (g := (mkF m 31 #[rv a0_, rv a1_, rv a1_] [(.ref a1_), (.int l0)])) rfl rfl (hb hby d8_31)
    have S10 : ∀ t, Steps p.tables e below (T9.setTop (mkF m 34 #[rv a0_, rv a1_, rv a1_] [(.int l1), (.int l0)])) t → Steps p.tables e below (s₁.setTop (entryFrame m #[(.ref a0_), (.ref a1_)] 3)) t := by
      intro t k
      refine S6 t ?_
      show Steps p.tables e below (T5.setTop (mkF m 23 #[rv a0_, rv a1_, rv a1_] [(.int (if cs0 = cs1 then (1 : Int32) else (0 : Int32)))])) _
      refine XS.ifNo X5.here hx rfl (hb hby d8_23) rfl ((if0 _ _).trans (feq hc7).1) ?_
      show Steps p.tables e below (T5.setTop (mkF m 26 #[rv a0_, rv a1_, rv a1_] [])) _
      refine XS.aloadN X5.here hx rfl (hb hby d8_26) rfl rfl ?_
      show Steps p.tables e below (T5.setTop (mkF m 27 #[rv a0_, rv a1_, rv a1_] [(.ref a0_)])) _
      refine st8 _ ?_
      show Steps p.tables e below (T8.setTop (mkF m 30 #[rv a0_, rv a1_, rv a1_] [(.int l0)])) _
      refine XS.aloadN X8.here hx rfl (hb hby d8_30) rfl rfl ?_
      show Steps p.tables e below (T8.setTop (mkF m 31 #[rv a0_, rv a1_, rv a1_] [(.ref a1_), (.int l0)])) _
      refine st9 _ ?_
      exact k
    by_cases hc11 : l0 = l1
    · skip
      obtain ⟨fs, hr, hrun, hended, hW, hsame⟩ := X9.leave (v := some (.int (1 : Int32))) (fun h => by rw [Bd.returns] at h; cases h)
      refine ⟨_, _, S10 _ ?_, hrun, hended, _, _, rfl, ?_, ⟨_, rfl⟩, hW, hsame.mono (by decide) (by decide)⟩
      · skip
        show Steps p.tables e below (T9.setTop (mkF m 34 #[rv a0_, rv a1_, rv a1_] [(.int l1), (.int l0)])) _
        refine XS.icmpNo X9.here hx rfl (hb hby d8_34) rfl (teq hc11).2 ?_
        show Steps p.tables e below (T9.setTop (mkF m 37 #[rv a0_, rv a1_, rv a1_] [])) _
        refine XS.iconst X9.here hx rfl (hb hby d8_37) ?_
        show Steps p.tables e below (T9.setTop (mkF m 38 #[rv a0_, rv a1_, rv a1_] [(.int (1 : Int32))])) _
        refine XS.goto X9.here hx rfl (pc0 := 38) (pc' := 42) rfl (hb hby d8_38) (by decide) (by decide) ?_
        show Steps p.tables e below (T9.setTop (mkF m 42 #[rv a0_, rv a1_, rv a1_] [(.int (1 : Int32))])) _
        exact retN X9 hx (t := .boolean) Bd.returns (by simp) (hb hby d8_42) hr
      · show QEq Z a0_ a1_ f0 f1 cs0 cs1 l0 l1 G1 h0 n0 _ T9.heap _
        rw [e9]
        exact ⟨by rw [own_leq1 hc7 hc11], N5, rfl⟩
    · skip
      obtain ⟨fs, hr, hrun, hended, hW, hsame⟩ := X9.leave (v := some (.int (0 : Int32))) (fun h => by rw [Bd.returns] at h; cases h)
      refine ⟨_, _, S10 _ ?_, hrun, hended, _, _, rfl, ?_, ⟨_, rfl⟩, hW, hsame.mono (by decide) (by decide)⟩
      · skip
        show Steps p.tables e below (T9.setTop (mkF m 34 #[rv a0_, rv a1_, rv a1_] [(.int l1), (.int l0)])) _
        refine XS.icmpYes X9.here hx rfl (pc0 := 34) (pc' := 41) rfl (hb hby d8_34) rfl (feq hc11).2 (by decide) (by decide) ?_
        show Steps p.tables e below (T9.setTop (mkF m 41 #[rv a0_, rv a1_, rv a1_] [])) _
        refine XS.iconst X9.here hx rfl (hb hby d8_41) ?_
        show Steps p.tables e below (T9.setTop (mkF m 42 #[rv a0_, rv a1_, rv a1_] [(.int (0 : Int32))])) _
        exact retN X9 hx (t := .boolean) Bd.returns (by simp) (hb hby d8_42) hr
      · show QEq Z a0_ a1_ f0 f1 cs0 cs1 l0 l1 G1 h0 n0 _ T9.heap _
        rw [e9]
        exact ⟨by rw [own_leq2 hc7 hc11], N5, rfl⟩
theorem pd_4 : parseMethodDescriptor "(II)I" = some ⟨[.int, .int], some .int⟩ := by decide +kernel
theorem pd_5 : parseMethodDescriptor "(ICC)Ljava/lang/String;" = some ⟨[.int, .char, .char], some (.object "java/lang/String")⟩ := by decide +kernel
theorem pd_6 : parseMethodDescriptor "(Ljava/lang/String;I)V" = some ⟨[(.object "java/lang/String"), .int], none⟩ := by decide +kernel
def Q0 (Z : State) (u0 : Int32) (u1 : Int32) (u2 : Int32) (u3 : Int32) (u4 : Int32) (G1 : Int32) (h0 : Heap) (n0 : Nat) (v : Option Value) (h : Heap) (L : List Loc) : Prop := v = some (.int 1) ∧ Fr n0 L
theorem ef_rm0 (m : MethodId) (u0 : Int32) (u1 : Int32) (u2 : Int32) (u3 : Int32) (u4 : Int32) : entryFrame m #[(.int u0), (.int u1), (.int u2), (.int u3), (.int u4)] maxLocals = mkF m 0 #[iv u0, iv u1, iv u2, iv u3, iv u4, .unset, .unset, .unset, .unset, .unset, .unset, .unset, .unset, .unset, .unset, .unset, .unset, .unset, .unset, .unset] [] := by first | (simp [entryFrame, mkF, argsToLocals, Value.category, maxLocals]; done) | rfl
set_option maxRecDepth 65536 in
set_option maxHeartbeats 40000000 in
theorem rm0 (l : Launch) (Z : State) (a0 : Array Value) (hw : ∀ d ∈ tables_1, d.before a0 Z = true) (ws : List Jvm.Cond) (u0 : Int32) (u1 : Int32) (u2 : Int32) (u3 : Int32) (u4 : Int32) (G1 : Int32) (h0 : Heap) (n0 : Nat) (Z0 : n0 ≤ h0.size) (hO : Old Z n0 h0) (O2 : Sta Z Z.heap "java/lang/String" "COMPACT_STRINGS" "Z" (.int G1)) (P3 : ¬ (G1 = (0 : Int32))) :
    MetFree l x (head1 (Jvm.Cond.code x code maxLocals ret :: ws) room_1) (fun a U => a = #[(.int u0), (.int u1), (.int u2), (.int u3), (.int u4)] ∧ Z.Warmed39 U.vm ∧ U.heap = h0 ∧ CHv Z own_EL U.vm h0) (fun _ _ _ _ _ => True) (fun _ U o U' => ∃ v L, o = .returned v ∧ Q0 Z u0 u1 u2 u3 u4 G1 h0 n0 v U'.heap L ∧ ReturnedEndW U o U' L room_1.cells room_1.slots) := by
  refine MetFree.of_bodySF (plainFor_of_name pn_1) hisR ?_
  intro p e s m args below meth c s₁ Bd hml0 hP hK
  obtain ⟨rfl, hZ, hh, hCH⟩ := hP
  have hx := Bd.exec
  have hby := Bd.bytes
  have hml : c.maxLocals = 20 := hml0
  have hown : s.vm.findClass "com/example/kilit/kilit/source/LocationEqualsPinLaw" = some m.cls := findClass_of_methodNamed Bd.named
  have hnm := (name_of_methodNamed Bd.named Bd.method).1
  have X0 : Stand p l e room_1 s m #[(.int u0), (.int u1), (.int u2), (.int u3), (.int u4)] below meth c s₁ [] 0 0 := Stand.of_body Bd
  have e0 : s₁.heap = h0 := by rw [← hh, Bd.state]; rfl
  have N0 := Fr.nil n0
  have S0 : ∀ t, Steps p.tables e below (s₁.setTop (mkF m 0 #[iv u0, iv u1, iv u2, iv u3, iv u4, .unset, .unset, .unset, .unset, .unset, .unset, .unset, .unset, .unset, .unset, .unset, .unset, .unset, .unset, .unset] [])) t → Steps p.tables e below (s₁.setTop (entryFrame m #[(.int u0), (.int u1), (.int u2), (.int u3), (.int u4)] maxLocals)) t := fun t k => castTop (ef_rm0 m u0 u1 u2 u3 u4) k
  have C0 : CHr Z own_EL s.vm h0 s.vm h0 := CHr.refl hCH
  have hEL : EW Z a0 own_EL := EW.cons (hw _ (List.mem_of_getElem? (i := 23) rfl)) (by decide) EW.nil
  have hwS : ∀ a ∈ Bundle.stringAtoms, a.before a0 Z = true := fun d hd => hw d ((by decide +kernel : ∀ d ∈ Bundle.stringAtoms, d ∈ tables_1) d hd)
  have hS : s.Since s.vm 0 := (State.WarmedH.refl s).since 0
  have hk0 : 0 ≤ h0.size := Nat.zero_le _
  have S1 : ∀ t, Steps p.tables e below (s₁.setTop (mkF m 8 #[iv u0, iv u1, iv u2, iv u3, iv u4, iv ((u4 &&& (3 : Int32)) % (3 : Int32)), .unset, .unset, .unset, .unset, .unset, .unset, .unset, .unset, .unset, .unset, .unset, .unset, .unset, .unset] [])) t → Steps p.tables e below (s₁.setTop (entryFrame m #[(.int u0), (.int u1), (.int u2), (.int u3), (.int u4)] maxLocals)) t := by
    intro t k
    refine S0 t ?_
    show Steps p.tables e below (s₁.setTop (mkF m 0 #[iv u0, iv u1, iv u2, iv u3, iv u4, .unset, .unset, .unset, .unset, .unset, .unset, .unset, .unset, .unset, .unset, .unset, .unset, .unset, .unset, .unset] [])) _
    refine XS.iload X0.here hx rfl (hb hby at_0) rfl ?_
    show Steps p.tables e below (s₁.setTop (mkF m 2 #[iv u0, iv u1, iv u2, iv u3, iv u4, .unset, .unset, .unset, .unset, .unset, .unset, .unset, .unset, .unset, .unset, .unset, .unset, .unset, .unset, .unset] [(.int u4)])) _
    refine XS.iconst X0.here hx rfl (hb hby at_2) ?_
    show Steps p.tables e below (s₁.setTop (mkF m 3 #[iv u0, iv u1, iv u2, iv u3, iv u4, .unset, .unset, .unset, .unset, .unset, .unset, .unset, .unset, .unset, .unset, .unset, .unset, .unset, .unset, .unset] [(.int (3 : Int32)), (.int u4)])) _
    refine XS.iand X0.here hx rfl (hb hby at_3) rfl ?_
    show Steps p.tables e below (s₁.setTop (mkF m 4 #[iv u0, iv u1, iv u2, iv u3, iv u4, .unset, .unset, .unset, .unset, .unset, .unset, .unset, .unset, .unset, .unset, .unset, .unset, .unset, .unset, .unset] [(.int (u4 &&& (3 : Int32)))])) _
    refine XS.iconst X0.here hx rfl (hb hby at_4) ?_
    show Steps p.tables e below (s₁.setTop (mkF m 5 #[iv u0, iv u1, iv u2, iv u3, iv u4, .unset, .unset, .unset, .unset, .unset, .unset, .unset, .unset, .unset, .unset, .unset, .unset, .unset, .unset, .unset] [(.int (3 : Int32)), (.int (u4 &&& (3 : Int32)))])) _
    refine iremM X0 hx rfl (hb hby at_5) rfl (by decide) ?_
    show Steps p.tables e below (s₁.setTop (mkF m 6 #[iv u0, iv u1, iv u2, iv u3, iv u4, .unset, .unset, .unset, .unset, .unset, .unset, .unset, .unset, .unset, .unset, .unset, .unset, .unset, .unset, .unset] [(.int ((u4 &&& (3 : Int32)) % (3 : Int32)))])) _
    refine XS.istore X0.here hx rfl (hb hby at_6) rfl (l' := #[iv u0, iv u1, iv u2, iv u3, iv u4, iv ((u4 &&& (3 : Int32)) % (3 : Int32)), .unset, .unset, .unset, .unset, .unset, .unset, .unset, .unset, .unset, .unset, .unset, .unset, .unset, .unset]) rfl ?_
    exact k
  obtain ⟨xn1, e_xn1⟩ : ∃ z : Int32, z = ((u4 &&& (3 : Int32)) % (3 : Int32)) := ⟨_, rfl⟩
  rw [← e_xn1] at S1
  have h_xn1 : own_L3 xn1 := by rw [e_xn1]; exact own_l3 _
  have S2 : ∀ t, Steps p.tables e below (s₁.setTop (mkF m 16 #[iv u0, iv u1, iv u2, iv u3, iv u4, iv xn1, iv ((u0 &&& (255 : Int32)).toUInt32.toUInt16.toUInt32.toInt32), .unset, .unset, .unset, .unset, .unset, .unset, .unset, .unset, .unset, .unset, .unset, .unset, .unset] [])) t → Steps p.tables e below (s₁.setTop (entryFrame m #[(.int u0), (.int u1), (.int u2), (.int u3), (.int u4)] maxLocals)) t := by
    intro t k
    refine S1 t ?_
    show Steps p.tables e below (s₁.setTop (mkF m 8 #[iv u0, iv u1, iv u2, iv u3, iv u4, iv xn1, .unset, .unset, .unset, .unset, .unset, .unset, .unset, .unset, .unset, .unset, .unset, .unset, .unset, .unset] [])) _
    refine XS.iloadN X0.here hx rfl (hb hby at_8) rfl ?_
    show Steps p.tables e below (s₁.setTop (mkF m 9 #[iv u0, iv u1, iv u2, iv u3, iv u4, iv xn1, .unset, .unset, .unset, .unset, .unset, .unset, .unset, .unset, .unset, .unset, .unset, .unset, .unset, .unset] [(.int u0)])) _
    refine XS.sipush X0.here hx rfl (hb hby at_9) ?_
    show Steps p.tables e below (s₁.setTop (mkF m 12 #[iv u0, iv u1, iv u2, iv u3, iv u4, iv xn1, .unset, .unset, .unset, .unset, .unset, .unset, .unset, .unset, .unset, .unset, .unset, .unset, .unset, .unset] [(.int (255 : Int32)), (.int u0)])) _
    refine XS.iand X0.here hx rfl (hb hby at_12) rfl ?_
    show Steps p.tables e below (s₁.setTop (mkF m 13 #[iv u0, iv u1, iv u2, iv u3, iv u4, iv xn1, .unset, .unset, .unset, .unset, .unset, .unset, .unset, .unset, .unset, .unset, .unset, .unset, .unset, .unset] [(.int (u0 &&& (255 : Int32)))])) _
    refine XS.i2c X0.here hx rfl (hb hby at_13) rfl ?_
    show Steps p.tables e below (s₁.setTop (mkF m 14 #[iv u0, iv u1, iv u2, iv u3, iv u4, iv xn1, .unset, .unset, .unset, .unset, .unset, .unset, .unset, .unset, .unset, .unset, .unset, .unset, .unset, .unset] [(.int ((u0 &&& (255 : Int32)).toUInt32.toUInt16.toUInt32.toInt32))])) _
    refine XS.istore X0.here hx rfl (hb hby at_14) rfl (l' := #[iv u0, iv u1, iv u2, iv u3, iv u4, iv xn1, iv ((u0 &&& (255 : Int32)).toUInt32.toUInt16.toUInt32.toInt32), .unset, .unset, .unset, .unset, .unset, .unset, .unset, .unset, .unset, .unset, .unset, .unset, .unset]) rfl ?_
    exact k
  obtain ⟨xc0, e_xc0⟩ : ∃ z : Int32, z = ((u0 &&& (255 : Int32)).toUInt32.toUInt16.toUInt32.toInt32) := ⟨_, rfl⟩
  rw [← e_xc0] at S2
  have h_xc0 : own_Ch xc0 := by rw [e_xc0]; exact own_ch _
  have S3 : ∀ t, Steps p.tables e below (s₁.setTop (mkF m 27 #[iv u0, iv u1, iv u2, iv u3, iv u4, iv xn1, iv xc0, iv ((((u0.toUInt32 >>> ((8 : Int32) &&& 31).toUInt32).toInt32) &&& (255 : Int32)).toUInt32.toUInt16.toUInt32.toInt32), .unset, .unset, .unset, .unset, .unset, .unset, .unset, .unset, .unset, .unset, .unset, .unset] [])) t → Steps p.tables e below (s₁.setTop (entryFrame m #[(.int u0), (.int u1), (.int u2), (.int u3), (.int u4)] maxLocals)) t := by
    intro t k
    refine S2 t ?_
    show Steps p.tables e below (s₁.setTop (mkF m 16 #[iv u0, iv u1, iv u2, iv u3, iv u4, iv xn1, iv xc0, .unset, .unset, .unset, .unset, .unset, .unset, .unset, .unset, .unset, .unset, .unset, .unset, .unset] [])) _
    refine XS.iloadN X0.here hx rfl (hb hby at_16) rfl ?_
    show Steps p.tables e below (s₁.setTop (mkF m 17 #[iv u0, iv u1, iv u2, iv u3, iv u4, iv xn1, iv xc0, .unset, .unset, .unset, .unset, .unset, .unset, .unset, .unset, .unset, .unset, .unset, .unset, .unset] [(.int u0)])) _
    refine XS.bipush X0.here hx rfl (hb hby at_17) ?_
    show Steps p.tables e below (s₁.setTop (mkF m 19 #[iv u0, iv u1, iv u2, iv u3, iv u4, iv xn1, iv xc0, .unset, .unset, .unset, .unset, .unset, .unset, .unset, .unset, .unset, .unset, .unset, .unset, .unset] [(.int (8 : Int32)), (.int u0)])) _
    refine XS.iushr X0.here hx rfl (hb hby at_19) rfl ?_
    show Steps p.tables e below (s₁.setTop (mkF m 20 #[iv u0, iv u1, iv u2, iv u3, iv u4, iv xn1, iv xc0, .unset, .unset, .unset, .unset, .unset, .unset, .unset, .unset, .unset, .unset, .unset, .unset, .unset] [(.int ((u0.toUInt32 >>> ((8 : Int32) &&& 31).toUInt32).toInt32))])) _
    refine XS.sipush X0.here hx rfl (hb hby at_20) ?_
    show Steps p.tables e below (s₁.setTop (mkF m 23 #[iv u0, iv u1, iv u2, iv u3, iv u4, iv xn1, iv xc0, .unset, .unset, .unset, .unset, .unset, .unset, .unset, .unset, .unset, .unset, .unset, .unset, .unset] [(.int (255 : Int32)), (.int ((u0.toUInt32 >>> ((8 : Int32) &&& 31).toUInt32).toInt32))])) _
    refine XS.iand X0.here hx rfl (hb hby at_23) rfl ?_
    show Steps p.tables e below (s₁.setTop (mkF m 24 #[iv u0, iv u1, iv u2, iv u3, iv u4, iv xn1, iv xc0, .unset, .unset, .unset, .unset, .unset, .unset, .unset, .unset, .unset, .unset, .unset, .unset, .unset] [(.int (((u0.toUInt32 >>> ((8 : Int32) &&& 31).toUInt32).toInt32) &&& (255 : Int32)))])) _
    refine XS.i2c X0.here hx rfl (hb hby at_24) rfl ?_
    show Steps p.tables e below (s₁.setTop (mkF m 25 #[iv u0, iv u1, iv u2, iv u3, iv u4, iv xn1, iv xc0, .unset, .unset, .unset, .unset, .unset, .unset, .unset, .unset, .unset, .unset, .unset, .unset, .unset] [(.int ((((u0.toUInt32 >>> ((8 : Int32) &&& 31).toUInt32).toInt32) &&& (255 : Int32)).toUInt32.toUInt16.toUInt32.toInt32))])) _
    refine XS.istore X0.here hx rfl (hb hby at_25) rfl (l' := #[iv u0, iv u1, iv u2, iv u3, iv u4, iv xn1, iv xc0, iv ((((u0.toUInt32 >>> ((8 : Int32) &&& 31).toUInt32).toInt32) &&& (255 : Int32)).toUInt32.toUInt16.toUInt32.toInt32), .unset, .unset, .unset, .unset, .unset, .unset, .unset, .unset, .unset, .unset, .unset, .unset]) rfl ?_
    exact k
  obtain ⟨xc1, e_xc1⟩ : ∃ z : Int32, z = ((((u0.toUInt32 >>> ((8 : Int32) &&& 31).toUInt32).toInt32) &&& (255 : Int32)).toUInt32.toUInt16.toUInt32.toInt32) := ⟨_, rfl⟩
  rw [← e_xc1] at S3
  have h_xc1 : own_Ch xc1 := by rw [e_xc1]; exact own_ch _
  have S4 : ∀ t, Steps p.tables e below (s₁.setTop (mkF m 31 #[iv u0, iv u1, iv u2, iv u3, iv u4, iv xn1, iv xc0, iv xc1, .unset, .unset, .unset, .unset, .unset, .unset, .unset, .unset, .unset, .unset, .unset, .unset] [(.int (u4 &&& (4 : Int32)))])) t → Steps p.tables e below (s₁.setTop (entryFrame m #[(.int u0), (.int u1), (.int u2), (.int u3), (.int u4)] maxLocals)) t := by
    intro t k
    refine S3 t ?_
    show Steps p.tables e below (s₁.setTop (mkF m 27 #[iv u0, iv u1, iv u2, iv u3, iv u4, iv xn1, iv xc0, iv xc1, .unset, .unset, .unset, .unset, .unset, .unset, .unset, .unset, .unset, .unset, .unset, .unset] [])) _
    refine XS.iload X0.here hx rfl (hb hby at_27) rfl ?_
    show Steps p.tables e below (s₁.setTop (mkF m 29 #[iv u0, iv u1, iv u2, iv u3, iv u4, iv xn1, iv xc0, iv xc1, .unset, .unset, .unset, .unset, .unset, .unset, .unset, .unset, .unset, .unset, .unset, .unset] [(.int u4)])) _
    refine XS.iconst X0.here hx rfl (hb hby at_29) ?_
    show Steps p.tables e below (s₁.setTop (mkF m 30 #[iv u0, iv u1, iv u2, iv u3, iv u4, iv xn1, iv xc0, iv xc1, .unset, .unset, .unset, .unset, .unset, .unset, .unset, .unset, .unset, .unset, .unset, .unset] [(.int (4 : Int32)), (.int u4)])) _
    refine XS.iand X0.here hx rfl (hb hby at_30) rfl ?_
    exact k
  obtain ⟨xd0, e_xd0⟩ : ∃ z : Int32, z = (if (u4 &&& (4 : Int32)) = (0 : Int32) then ((u1 &&& (255 : Int32)).toUInt32.toUInt16.toUInt32.toInt32) else xc0) := ⟨_, rfl⟩
  have S6 : ∀ t, Steps p.tables e below (s₁.setTop (mkF m 45 #[iv u0, iv u1, iv u2, iv u3, iv u4, iv xn1, iv xc0, iv xc1, .unset, .unset, .unset, .unset, .unset, .unset, .unset, .unset, .unset, .unset, .unset, .unset] [(.int xd0)])) t → Steps p.tables e below (s₁.setTop (entryFrame m #[(.int u0), (.int u1), (.int u2), (.int u3), (.int u4)] maxLocals)) t := by
    intro t k
    refine S4 t ?_
    by_cases hd5 : (u4 &&& (4 : Int32)) = (0 : Int32)
    · skip
      rw [show xd0 = ((u1 &&& (255 : Int32)).toUInt32.toUInt16.toUInt32.toInt32) from by rw [e_xd0, if_pos hd5]] at k
      show Steps p.tables e below (s₁.setTop (mkF m 31 #[iv u0, iv u1, iv u2, iv u3, iv u4, iv xn1, iv xc0, iv xc1, .unset, .unset, .unset, .unset, .unset, .unset, .unset, .unset, .unset, .unset, .unset, .unset] [(.int (u4 &&& (4 : Int32)))])) _
      refine XS.ifYes X0.here hx rfl (pc0 := 31) (pc' := 39) rfl (hb hby at_31) rfl ((if0 _ _).trans (teq hd5).1) (by decide) (by decide) ?_
      show Steps p.tables e below (s₁.setTop (mkF m 39 #[iv u0, iv u1, iv u2, iv u3, iv u4, iv xn1, iv xc0, iv xc1, .unset, .unset, .unset, .unset, .unset, .unset, .unset, .unset, .unset, .unset, .unset, .unset] [])) _
      refine XS.iloadN X0.here hx rfl (hb hby at_39) rfl ?_
      show Steps p.tables e below (s₁.setTop (mkF m 40 #[iv u0, iv u1, iv u2, iv u3, iv u4, iv xn1, iv xc0, iv xc1, .unset, .unset, .unset, .unset, .unset, .unset, .unset, .unset, .unset, .unset, .unset, .unset] [(.int u1)])) _
      refine XS.sipush X0.here hx rfl (hb hby at_40) ?_
      show Steps p.tables e below (s₁.setTop (mkF m 43 #[iv u0, iv u1, iv u2, iv u3, iv u4, iv xn1, iv xc0, iv xc1, .unset, .unset, .unset, .unset, .unset, .unset, .unset, .unset, .unset, .unset, .unset, .unset] [(.int (255 : Int32)), (.int u1)])) _
      refine XS.iand X0.here hx rfl (hb hby at_43) rfl ?_
      show Steps p.tables e below (s₁.setTop (mkF m 44 #[iv u0, iv u1, iv u2, iv u3, iv u4, iv xn1, iv xc0, iv xc1, .unset, .unset, .unset, .unset, .unset, .unset, .unset, .unset, .unset, .unset, .unset, .unset] [(.int (u1 &&& (255 : Int32)))])) _
      refine XS.i2c X0.here hx rfl (hb hby at_44) rfl ?_
      exact k
    · skip
      rw [show xd0 = xc0 from by rw [e_xd0, if_neg hd5]] at k
      show Steps p.tables e below (s₁.setTop (mkF m 31 #[iv u0, iv u1, iv u2, iv u3, iv u4, iv xn1, iv xc0, iv xc1, .unset, .unset, .unset, .unset, .unset, .unset, .unset, .unset, .unset, .unset, .unset, .unset] [(.int (u4 &&& (4 : Int32)))])) _
      refine XS.ifNo X0.here hx rfl (hb hby at_31) rfl ((if0 _ _).trans (feq hd5).1) ?_
      show Steps p.tables e below (s₁.setTop (mkF m 34 #[iv u0, iv u1, iv u2, iv u3, iv u4, iv xn1, iv xc0, iv xc1, .unset, .unset, .unset, .unset, .unset, .unset, .unset, .unset, .unset, .unset, .unset, .unset] [])) _
      refine XS.iload X0.here hx rfl (hb hby at_34) rfl ?_
      show Steps p.tables e below (s₁.setTop (mkF m 36 #[iv u0, iv u1, iv u2, iv u3, iv u4, iv xn1, iv xc0, iv xc1, .unset, .unset, .unset, .unset, .unset, .unset, .unset, .unset, .unset, .unset, .unset, .unset] [(.int xc0)])) _
      refine XS.goto X0.here hx rfl (pc0 := 36) (pc' := 45) rfl (hb hby at_36) (by decide) (by decide) ?_
      exact k
  have h_xd0 : own_Ch xd0 := by rw [e_xd0]; split <;> first | exact h_xc0 | exact own_ch _
  have S7 : ∀ t, Steps p.tables e below (s₁.setTop (mkF m 52 #[iv u0, iv u1, iv u2, iv u3, iv u4, iv xn1, iv xc0, iv xc1, iv xd0, .unset, .unset, .unset, .unset, .unset, .unset, .unset, .unset, .unset, .unset, .unset] [(.int (u4 &&& (8 : Int32)))])) t → Steps p.tables e below (s₁.setTop (entryFrame m #[(.int u0), (.int u1), (.int u2), (.int u3), (.int u4)] maxLocals)) t := by
    intro t k
    refine S6 t ?_
    show Steps p.tables e below (s₁.setTop (mkF m 45 #[iv u0, iv u1, iv u2, iv u3, iv u4, iv xn1, iv xc0, iv xc1, .unset, .unset, .unset, .unset, .unset, .unset, .unset, .unset, .unset, .unset, .unset, .unset] [(.int xd0)])) _
    refine XS.istore X0.here hx rfl (hb hby at_45) rfl (l' := #[iv u0, iv u1, iv u2, iv u3, iv u4, iv xn1, iv xc0, iv xc1, iv xd0, .unset, .unset, .unset, .unset, .unset, .unset, .unset, .unset, .unset, .unset, .unset]) rfl ?_
    show Steps p.tables e below (s₁.setTop (mkF m 47 #[iv u0, iv u1, iv u2, iv u3, iv u4, iv xn1, iv xc0, iv xc1, iv xd0, .unset, .unset, .unset, .unset, .unset, .unset, .unset, .unset, .unset, .unset, .unset] [])) _
    refine XS.iload X0.here hx rfl (hb hby at_47) rfl ?_
    show Steps p.tables e below (s₁.setTop (mkF m 49 #[iv u0, iv u1, iv u2, iv u3, iv u4, iv xn1, iv xc0, iv xc1, iv xd0, .unset, .unset, .unset, .unset, .unset, .unset, .unset, .unset, .unset, .unset, .unset] [(.int u4)])) _
    refine XS.bipush X0.here hx rfl (hb hby at_49) ?_
    show Steps p.tables e below (s₁.setTop (mkF m 51 #[iv u0, iv u1, iv u2, iv u3, iv u4, iv xn1, iv xc0, iv xc1, iv xd0, .unset, .unset, .unset, .unset, .unset, .unset, .unset, .unset, .unset, .unset, .unset] [(.int (8 : Int32)), (.int u4)])) _
    refine XS.iand X0.here hx rfl (hb hby at_51) rfl ?_
    exact k
  obtain ⟨xd1, e_xd1⟩ : ∃ z : Int32, z = (if (u4 &&& (8 : Int32)) = (0 : Int32) then ((((u1.toUInt32 >>> ((8 : Int32) &&& 31).toUInt32).toInt32) &&& (255 : Int32)).toUInt32.toUInt16.toUInt32.toInt32) else xc1) := ⟨_, rfl⟩
  have S9 : ∀ t, Steps p.tables e below (s₁.setTop (mkF m 69 #[iv u0, iv u1, iv u2, iv u3, iv u4, iv xn1, iv xc0, iv xc1, iv xd0, .unset, .unset, .unset, .unset, .unset, .unset, .unset, .unset, .unset, .unset, .unset] [(.int xd1)])) t → Steps p.tables e below (s₁.setTop (entryFrame m #[(.int u0), (.int u1), (.int u2), (.int u3), (.int u4)] maxLocals)) t := by
    intro t k
    refine S7 t ?_
    by_cases hd8 : (u4 &&& (8 : Int32)) = (0 : Int32)
    · skip
      rw [show xd1 = ((((u1.toUInt32 >>> ((8 : Int32) &&& 31).toUInt32).toInt32) &&& (255 : Int32)).toUInt32.toUInt16.toUInt32.toInt32) from by rw [e_xd1, if_pos hd8]] at k
      show Steps p.tables e below (s₁.setTop (mkF m 52 #[iv u0, iv u1, iv u2, iv u3, iv u4, iv xn1, iv xc0, iv xc1, iv xd0, .unset, .unset, .unset, .unset, .unset, .unset, .unset, .unset, .unset, .unset, .unset] [(.int (u4 &&& (8 : Int32)))])) _
      refine XS.ifYes X0.here hx rfl (pc0 := 52) (pc' := 60) rfl (hb hby at_52) rfl ((if0 _ _).trans (teq hd8).1) (by decide) (by decide) ?_
      show Steps p.tables e below (s₁.setTop (mkF m 60 #[iv u0, iv u1, iv u2, iv u3, iv u4, iv xn1, iv xc0, iv xc1, iv xd0, .unset, .unset, .unset, .unset, .unset, .unset, .unset, .unset, .unset, .unset, .unset] [])) _
      refine XS.iloadN X0.here hx rfl (hb hby at_60) rfl ?_
      show Steps p.tables e below (s₁.setTop (mkF m 61 #[iv u0, iv u1, iv u2, iv u3, iv u4, iv xn1, iv xc0, iv xc1, iv xd0, .unset, .unset, .unset, .unset, .unset, .unset, .unset, .unset, .unset, .unset, .unset] [(.int u1)])) _
      refine XS.bipush X0.here hx rfl (hb hby at_61) ?_
      show Steps p.tables e below (s₁.setTop (mkF m 63 #[iv u0, iv u1, iv u2, iv u3, iv u4, iv xn1, iv xc0, iv xc1, iv xd0, .unset, .unset, .unset, .unset, .unset, .unset, .unset, .unset, .unset, .unset, .unset] [(.int (8 : Int32)), (.int u1)])) _
      refine XS.iushr X0.here hx rfl (hb hby at_63) rfl ?_
      show Steps p.tables e below (s₁.setTop (mkF m 64 #[iv u0, iv u1, iv u2, iv u3, iv u4, iv xn1, iv xc0, iv xc1, iv xd0, .unset, .unset, .unset, .unset, .unset, .unset, .unset, .unset, .unset, .unset, .unset] [(.int ((u1.toUInt32 >>> ((8 : Int32) &&& 31).toUInt32).toInt32))])) _
      refine XS.sipush X0.here hx rfl (hb hby at_64) ?_
      show Steps p.tables e below (s₁.setTop (mkF m 67 #[iv u0, iv u1, iv u2, iv u3, iv u4, iv xn1, iv xc0, iv xc1, iv xd0, .unset, .unset, .unset, .unset, .unset, .unset, .unset, .unset, .unset, .unset, .unset] [(.int (255 : Int32)), (.int ((u1.toUInt32 >>> ((8 : Int32) &&& 31).toUInt32).toInt32))])) _
      refine XS.iand X0.here hx rfl (hb hby at_67) rfl ?_
      show Steps p.tables e below (s₁.setTop (mkF m 68 #[iv u0, iv u1, iv u2, iv u3, iv u4, iv xn1, iv xc0, iv xc1, iv xd0, .unset, .unset, .unset, .unset, .unset, .unset, .unset, .unset, .unset, .unset, .unset] [(.int (((u1.toUInt32 >>> ((8 : Int32) &&& 31).toUInt32).toInt32) &&& (255 : Int32)))])) _
      refine XS.i2c X0.here hx rfl (hb hby at_68) rfl ?_
      exact k
    · skip
      rw [show xd1 = xc1 from by rw [e_xd1, if_neg hd8]] at k
      show Steps p.tables e below (s₁.setTop (mkF m 52 #[iv u0, iv u1, iv u2, iv u3, iv u4, iv xn1, iv xc0, iv xc1, iv xd0, .unset, .unset, .unset, .unset, .unset, .unset, .unset, .unset, .unset, .unset, .unset] [(.int (u4 &&& (8 : Int32)))])) _
      refine XS.ifNo X0.here hx rfl (hb hby at_52) rfl ((if0 _ _).trans (feq hd8).1) ?_
      show Steps p.tables e below (s₁.setTop (mkF m 55 #[iv u0, iv u1, iv u2, iv u3, iv u4, iv xn1, iv xc0, iv xc1, iv xd0, .unset, .unset, .unset, .unset, .unset, .unset, .unset, .unset, .unset, .unset, .unset] [])) _
      refine XS.iload X0.here hx rfl (hb hby at_55) rfl ?_
      show Steps p.tables e below (s₁.setTop (mkF m 57 #[iv u0, iv u1, iv u2, iv u3, iv u4, iv xn1, iv xc0, iv xc1, iv xd0, .unset, .unset, .unset, .unset, .unset, .unset, .unset, .unset, .unset, .unset, .unset] [(.int xc1)])) _
      refine XS.goto X0.here hx rfl (pc0 := 57) (pc' := 69) rfl (hb hby at_57) (by decide) (by decide) ?_
      exact k
  have h_xd1 : own_Ch xd1 := by rw [e_xd1]; split <;> first | exact h_xc1 | exact own_ch _
  have S10 : ∀ t, Steps p.tables e below (s₁.setTop (mkF m 76 #[iv u0, iv u1, iv u2, iv u3, iv u4, iv xn1, iv xc0, iv xc1, iv xd0, iv xd1, .unset, .unset, .unset, .unset, .unset, .unset, .unset, .unset, .unset, .unset] [(.int (u4 &&& (16 : Int32)))])) t → Steps p.tables e below (s₁.setTop (entryFrame m #[(.int u0), (.int u1), (.int u2), (.int u3), (.int u4)] maxLocals)) t := by
    intro t k
    refine S9 t ?_
    show Steps p.tables e below (s₁.setTop (mkF m 69 #[iv u0, iv u1, iv u2, iv u3, iv u4, iv xn1, iv xc0, iv xc1, iv xd0, .unset, .unset, .unset, .unset, .unset, .unset, .unset, .unset, .unset, .unset, .unset] [(.int xd1)])) _
    refine XS.istore X0.here hx rfl (hb hby at_69) rfl (l' := #[iv u0, iv u1, iv u2, iv u3, iv u4, iv xn1, iv xc0, iv xc1, iv xd0, iv xd1, .unset, .unset, .unset, .unset, .unset, .unset, .unset, .unset, .unset, .unset]) rfl ?_
    show Steps p.tables e below (s₁.setTop (mkF m 71 #[iv u0, iv u1, iv u2, iv u3, iv u4, iv xn1, iv xc0, iv xc1, iv xd0, iv xd1, .unset, .unset, .unset, .unset, .unset, .unset, .unset, .unset, .unset, .unset] [])) _
    refine XS.iload X0.here hx rfl (hb hby at_71) rfl ?_
    show Steps p.tables e below (s₁.setTop (mkF m 73 #[iv u0, iv u1, iv u2, iv u3, iv u4, iv xn1, iv xc0, iv xc1, iv xd0, iv xd1, .unset, .unset, .unset, .unset, .unset, .unset, .unset, .unset, .unset, .unset] [(.int u4)])) _
    refine XS.bipush X0.here hx rfl (hb hby at_73) ?_
    show Steps p.tables e below (s₁.setTop (mkF m 75 #[iv u0, iv u1, iv u2, iv u3, iv u4, iv xn1, iv xc0, iv xc1, iv xd0, iv xd1, .unset, .unset, .unset, .unset, .unset, .unset, .unset, .unset, .unset, .unset] [(.int (16 : Int32)), (.int u4)])) _
    refine XS.iand X0.here hx rfl (hb hby at_75) rfl ?_
    exact k
  obtain ⟨xn2, e_xn2⟩ : ∃ z : Int32, z = (if (u4 &&& (16 : Int32)) = (0 : Int32) then ((((u4.toUInt32 >>> ((5 : Int32) &&& 31).toUInt32).toInt32) &&& (3 : Int32)) % (3 : Int32)) else xn1) := ⟨_, rfl⟩
  have S12 : ∀ t, Steps p.tables e below (s₁.setTop (mkF m 92 #[iv u0, iv u1, iv u2, iv u3, iv u4, iv xn1, iv xc0, iv xc1, iv xd0, iv xd1, .unset, .unset, .unset, .unset, .unset, .unset, .unset, .unset, .unset, .unset] [(.int xn2)])) t → Steps p.tables e below (s₁.setTop (entryFrame m #[(.int u0), (.int u1), (.int u2), (.int u3), (.int u4)] maxLocals)) t := by
    intro t k
    refine S10 t ?_
    by_cases hd11 : (u4 &&& (16 : Int32)) = (0 : Int32)
    · skip
      rw [show xn2 = ((((u4.toUInt32 >>> ((5 : Int32) &&& 31).toUInt32).toInt32) &&& (3 : Int32)) % (3 : Int32)) from by rw [e_xn2, if_pos hd11]] at k
      show Steps p.tables e below (s₁.setTop (mkF m 76 #[iv u0, iv u1, iv u2, iv u3, iv u4, iv xn1, iv xc0, iv xc1, iv xd0, iv xd1, .unset, .unset, .unset, .unset, .unset, .unset, .unset, .unset, .unset, .unset] [(.int (u4 &&& (16 : Int32)))])) _
      refine XS.ifYes X0.here hx rfl (pc0 := 76) (pc' := 84) rfl (hb hby at_76) rfl ((if0 _ _).trans (teq hd11).1) (by decide) (by decide) ?_
      show Steps p.tables e below (s₁.setTop (mkF m 84 #[iv u0, iv u1, iv u2, iv u3, iv u4, iv xn1, iv xc0, iv xc1, iv xd0, iv xd1, .unset, .unset, .unset, .unset, .unset, .unset, .unset, .unset, .unset, .unset] [])) _
      refine XS.iload X0.here hx rfl (hb hby at_84) rfl ?_
      show Steps p.tables e below (s₁.setTop (mkF m 86 #[iv u0, iv u1, iv u2, iv u3, iv u4, iv xn1, iv xc0, iv xc1, iv xd0, iv xd1, .unset, .unset, .unset, .unset, .unset, .unset, .unset, .unset, .unset, .unset] [(.int u4)])) _
      refine XS.iconst X0.here hx rfl (hb hby at_86) ?_
      show Steps p.tables e below (s₁.setTop (mkF m 87 #[iv u0, iv u1, iv u2, iv u3, iv u4, iv xn1, iv xc0, iv xc1, iv xd0, iv xd1, .unset, .unset, .unset, .unset, .unset, .unset, .unset, .unset, .unset, .unset] [(.int (5 : Int32)), (.int u4)])) _
      refine XS.iushr X0.here hx rfl (hb hby at_87) rfl ?_
      show Steps p.tables e below (s₁.setTop (mkF m 88 #[iv u0, iv u1, iv u2, iv u3, iv u4, iv xn1, iv xc0, iv xc1, iv xd0, iv xd1, .unset, .unset, .unset, .unset, .unset, .unset, .unset, .unset, .unset, .unset] [(.int ((u4.toUInt32 >>> ((5 : Int32) &&& 31).toUInt32).toInt32))])) _
      refine XS.iconst X0.here hx rfl (hb hby at_88) ?_
      show Steps p.tables e below (s₁.setTop (mkF m 89 #[iv u0, iv u1, iv u2, iv u3, iv u4, iv xn1, iv xc0, iv xc1, iv xd0, iv xd1, .unset, .unset, .unset, .unset, .unset, .unset, .unset, .unset, .unset, .unset] [(.int (3 : Int32)), (.int ((u4.toUInt32 >>> ((5 : Int32) &&& 31).toUInt32).toInt32))])) _
      refine XS.iand X0.here hx rfl (hb hby at_89) rfl ?_
      show Steps p.tables e below (s₁.setTop (mkF m 90 #[iv u0, iv u1, iv u2, iv u3, iv u4, iv xn1, iv xc0, iv xc1, iv xd0, iv xd1, .unset, .unset, .unset, .unset, .unset, .unset, .unset, .unset, .unset, .unset] [(.int (((u4.toUInt32 >>> ((5 : Int32) &&& 31).toUInt32).toInt32) &&& (3 : Int32)))])) _
      refine XS.iconst X0.here hx rfl (hb hby at_90) ?_
      show Steps p.tables e below (s₁.setTop (mkF m 91 #[iv u0, iv u1, iv u2, iv u3, iv u4, iv xn1, iv xc0, iv xc1, iv xd0, iv xd1, .unset, .unset, .unset, .unset, .unset, .unset, .unset, .unset, .unset, .unset] [(.int (3 : Int32)), (.int (((u4.toUInt32 >>> ((5 : Int32) &&& 31).toUInt32).toInt32) &&& (3 : Int32)))])) _
      refine iremM X0 hx rfl (hb hby at_91) rfl (by decide) ?_
      exact k
    · skip
      rw [show xn2 = xn1 from by rw [e_xn2, if_neg hd11]] at k
      show Steps p.tables e below (s₁.setTop (mkF m 76 #[iv u0, iv u1, iv u2, iv u3, iv u4, iv xn1, iv xc0, iv xc1, iv xd0, iv xd1, .unset, .unset, .unset, .unset, .unset, .unset, .unset, .unset, .unset, .unset] [(.int (u4 &&& (16 : Int32)))])) _
      refine XS.ifNo X0.here hx rfl (hb hby at_76) rfl ((if0 _ _).trans (feq hd11).1) ?_
      show Steps p.tables e below (s₁.setTop (mkF m 79 #[iv u0, iv u1, iv u2, iv u3, iv u4, iv xn1, iv xc0, iv xc1, iv xd0, iv xd1, .unset, .unset, .unset, .unset, .unset, .unset, .unset, .unset, .unset, .unset] [])) _
      refine XS.iload X0.here hx rfl (hb hby at_79) rfl ?_
      show Steps p.tables e below (s₁.setTop (mkF m 81 #[iv u0, iv u1, iv u2, iv u3, iv u4, iv xn1, iv xc0, iv xc1, iv xd0, iv xd1, .unset, .unset, .unset, .unset, .unset, .unset, .unset, .unset, .unset, .unset] [(.int xn1)])) _
      refine XS.goto X0.here hx rfl (pc0 := 81) (pc' := 92) rfl (hb hby at_81) (by decide) (by decide) ?_
      exact k
  have h_xn2 : own_L3 xn2 := by rw [e_xn2]; split <;> first | exact h_xn1 | exact own_l3 _
  obtain ⟨_, _, ⟨T13, L13, k13, n13⟩, -, X13, ⟨Lc13, hQ13, l13, y13, z13⟩, st13⟩ := Jvm.LawKit.callS X0 hx (y := (⟨"java/lang/Math", "max", "(II)I"⟩ : MethodName)) hown (mvT hZ (hw _ (List.mem_of_getElem? (i := 1) rfl))) (mvT hZ (hw _ (List.mem_of_getElem? (i := 2) rfl))) (mvT hZ (hw _ (List.mem_of_getElem? (i := 3) rfl))) (mvT hZ (hw _ (List.mem_of_getElem? (i := 4) rfl))) (by decide) (backOf (W := 0) (rm1 l Z a0 hw [] (1 : Int32) (u2 &&& (2147483647 : Int32)) h0 n0 Z0) hZ (hw _ (List.mem_of_getElem? (i := 4) rfl)) (hw _ (List.mem_of_getElem? (i := 3) rfl)) (by decide) (by decide)) (g := (mkF m 99 #[iv u0, iv u1, iv u2, iv u3, iv u4, iv xn1, iv xc0, iv xc1, iv xd0, iv xd1, iv xn2, .unset, .unset, .unset, .unset, .unset, .unset, .unset, .unset, .unset] [(.int (u2 &&& (2147483647 : Int32))), (.int (1 : Int32))])) rfl (by rw [hml]; rfl) (argsL := [(.int (1 : Int32)), (.int (u2 &&& (2147483647 : Int32)))]) (rest := []) (lenOf pd_4 rfl) rfl (by show 2 * 0 + _ ≤ _; exact Nat.le_of_eq rfl) (hb hby at_99) (fun _ _ => ⟨rfl, e0, (by decide : 0 + 0 ≤ _), (by decide : 0 + 0 ≤ _)⟩)
  dsimp only [Pt.U, Pt.locs, Pt.cells, Pt.slots] at X13 l13 y13 z13 st13 hQ13
  subst y13 z13
  obtain ⟨rfl, Nq13, eq13⟩ := hQ13
  have N13 : Fr n0 L13 := by rw [l13]; exact Fr.app N0 Nq13
  have S14 : ∀ t, Steps p.tables e below (T13.setTop (mkF m 104 #[iv u0, iv u1, iv u2, iv u3, iv u4, iv xn1, iv xc0, iv xc1, iv xd0, iv xd1, iv xn2, iv (own_max (1 : Int32) (u2 &&& (2147483647 : Int32))), .unset, .unset, .unset, .unset, .unset, .unset, .unset, .unset] [])) t → Steps p.tables e below (s₁.setTop (entryFrame m #[(.int u0), (.int u1), (.int u2), (.int u3), (.int u4)] maxLocals)) t := by
    intro t k
    refine S12 t ?_
    show Steps p.tables e below (s₁.setTop (mkF m 92 #[iv u0, iv u1, iv u2, iv u3, iv u4, iv xn1, iv xc0, iv xc1, iv xd0, iv xd1, .unset, .unset, .unset, .unset, .unset, .unset, .unset, .unset, .unset, .unset] [(.int xn2)])) _
    refine XS.istore X0.here hx rfl (hb hby at_92) rfl (l' := #[iv u0, iv u1, iv u2, iv u3, iv u4, iv xn1, iv xc0, iv xc1, iv xd0, iv xd1, iv xn2, .unset, .unset, .unset, .unset, .unset, .unset, .unset, .unset, .unset]) rfl ?_
    show Steps p.tables e below (s₁.setTop (mkF m 94 #[iv u0, iv u1, iv u2, iv u3, iv u4, iv xn1, iv xc0, iv xc1, iv xd0, iv xd1, iv xn2, .unset, .unset, .unset, .unset, .unset, .unset, .unset, .unset, .unset] [])) _
    refine XS.iconst X0.here hx rfl (hb hby at_94) ?_
    show Steps p.tables e below (s₁.setTop (mkF m 95 #[iv u0, iv u1, iv u2, iv u3, iv u4, iv xn1, iv xc0, iv xc1, iv xd0, iv xd1, iv xn2, .unset, .unset, .unset, .unset, .unset, .unset, .unset, .unset, .unset] [(.int (1 : Int32))])) _
    refine XS.iloadN X0.here hx rfl (hb hby at_95) rfl ?_
    show Steps p.tables e below (s₁.setTop (mkF m 96 #[iv u0, iv u1, iv u2, iv u3, iv u4, iv xn1, iv xc0, iv xc1, iv xd0, iv xd1, iv xn2, .unset, .unset, .unset, .unset, .unset, .unset, .unset, .unset, .unset] [(.int u2), (.int (1 : Int32))])) _
    refine X0.ldcInt hx hown (mvT hZ (hw _ (List.mem_of_getElem? (i := 0) rfl))) (g := (mkF m 96 #[iv u0, iv u1, iv u2, iv u3, iv u4, iv xn1, iv xc0, iv xc1, iv xd0, iv xd1, iv xn2, .unset, .unset, .unset, .unset, .unset, .unset, .unset, .unset, .unset] [(.int u2), (.int (1 : Int32))])) rfl (hb hby at_96) _ ?_
    show Steps p.tables e below (s₁.setTop (mkF m 98 #[iv u0, iv u1, iv u2, iv u3, iv u4, iv xn1, iv xc0, iv xc1, iv xd0, iv xd1, iv xn2, .unset, .unset, .unset, .unset, .unset, .unset, .unset, .unset, .unset] [(.int (2147483647 : Int32)), (.int u2), (.int (1 : Int32))])) _
    refine XS.iand X0.here hx rfl (hb hby at_98) rfl ?_
    show Steps p.tables e below (s₁.setTop (mkF m 99 #[iv u0, iv u1, iv u2, iv u3, iv u4, iv xn1, iv xc0, iv xc1, iv xd0, iv xd1, iv xn2, .unset, .unset, .unset, .unset, .unset, .unset, .unset, .unset, .unset] [(.int (u2 &&& (2147483647 : Int32))), (.int (1 : Int32))])) _
    refine st13 _ ?_
    show Steps p.tables e below (T13.setTop (mkF m 102 #[iv u0, iv u1, iv u2, iv u3, iv u4, iv xn1, iv xc0, iv xc1, iv xd0, iv xd1, iv xn2, .unset, .unset, .unset, .unset, .unset, .unset, .unset, .unset, .unset] [(.int (own_max (1 : Int32) (u2 &&& (2147483647 : Int32))))])) _
    refine XS.istore X13.here hx rfl (hb hby at_102) rfl (l' := #[iv u0, iv u1, iv u2, iv u3, iv u4, iv xn1, iv xc0, iv xc1, iv xd0, iv xd1, iv xn2, iv (own_max (1 : Int32) (u2 &&& (2147483647 : Int32))), .unset, .unset, .unset, .unset, .unset, .unset, .unset, .unset]) rfl ?_
    exact k
  obtain ⟨xl1, e_xl1⟩ : ∃ z : Int32, z = (own_max (1 : Int32) (u2 &&& (2147483647 : Int32))) := ⟨_, rfl⟩
  rw [← e_xl1] at S14
  have h_xl1 : ¬ xl1 < (1 : Int32) := by rw [e_xl1]; exact own_mx _
  have S15 : ∀ t, Steps p.tables e below (T13.setTop (mkF m 110 #[iv u0, iv u1, iv u2, iv u3, iv u4, iv xn1, iv xc0, iv xc1, iv xd0, iv xd1, iv xn2, iv xl1, .unset, .unset, .unset, .unset, .unset, .unset, .unset, .unset] [(.int (u4 &&& (128 : Int32)))])) t → Steps p.tables e below (s₁.setTop (entryFrame m #[(.int u0), (.int u1), (.int u2), (.int u3), (.int u4)] maxLocals)) t := by
    intro t k
    refine S14 t ?_
    show Steps p.tables e below (T13.setTop (mkF m 104 #[iv u0, iv u1, iv u2, iv u3, iv u4, iv xn1, iv xc0, iv xc1, iv xd0, iv xd1, iv xn2, iv xl1, .unset, .unset, .unset, .unset, .unset, .unset, .unset, .unset] [])) _
    refine XS.iload X13.here hx rfl (hb hby at_104) rfl ?_
    show Steps p.tables e below (T13.setTop (mkF m 106 #[iv u0, iv u1, iv u2, iv u3, iv u4, iv xn1, iv xc0, iv xc1, iv xd0, iv xd1, iv xn2, iv xl1, .unset, .unset, .unset, .unset, .unset, .unset, .unset, .unset] [(.int u4)])) _
    refine XS.sipush X13.here hx rfl (hb hby at_106) ?_
    show Steps p.tables e below (T13.setTop (mkF m 109 #[iv u0, iv u1, iv u2, iv u3, iv u4, iv xn1, iv xc0, iv xc1, iv xd0, iv xd1, iv xn2, iv xl1, .unset, .unset, .unset, .unset, .unset, .unset, .unset, .unset] [(.int (128 : Int32)), (.int u4)])) _
    refine XS.iand X13.here hx rfl (hb hby at_109) rfl ?_
    exact k
  by_cases hc16 : (u4 &&& (128 : Int32)) = (0 : Int32)
  · skip
    obtain ⟨_, _, ⟨T17, L17, k17, n17⟩, -, X17, ⟨Lc17, hQ17, l17, y17, z17⟩, st17⟩ := Jvm.LawKit.callS X13 hx (y := (⟨"java/lang/Math", "max", "(II)I"⟩ : MethodName)) hown (mvT hZ (hw _ (List.mem_of_getElem? (i := 1) rfl))) (mvT hZ (hw _ (List.mem_of_getElem? (i := 2) rfl))) (mvT hZ (hw _ (List.mem_of_getElem? (i := 3) rfl))) (mvT hZ (hw _ (List.mem_of_getElem? (i := 4) rfl))) (by decide) (backOf (W := 0) (rm1 l Z a0 hw [] (1 : Int32) (u3 &&& (2147483647 : Int32)) h0 n0 Z0) hZ (hw _ (List.mem_of_getElem? (i := 4) rfl)) (hw _ (List.mem_of_getElem? (i := 3) rfl)) (by decide) (by decide)) (g := (mkF m 123 #[iv u0, iv u1, iv u2, iv u3, iv u4, iv xn1, iv xc0, iv xc1, iv xd0, iv xd1, iv xn2, iv xl1, .unset, .unset, .unset, .unset, .unset, .unset, .unset, .unset] [(.int (u3 &&& (2147483647 : Int32))), (.int (1 : Int32))])) rfl (by rw [hml]; rfl) (argsL := [(.int (1 : Int32)), (.int (u3 &&& (2147483647 : Int32)))]) (rest := []) (lenOf pd_4 rfl) rfl (by show 2 * 0 + _ ≤ _; exact Nat.le_of_eq rfl) (hb hby at_123) (fun _ _ => ⟨rfl, eq13, (by decide : 0 + 0 ≤ _), (by decide : 0 + 0 ≤ _)⟩)
    dsimp only [Pt.U, Pt.locs, Pt.cells, Pt.slots] at X17 l17 y17 z17 st17 hQ17
    subst y17 z17
    obtain ⟨rfl, Nq17, eq17⟩ := hQ17
    have N17 : Fr n0 L17 := by rw [l17]; exact Fr.app N13 Nq17
    have S18 : ∀ t, Steps p.tables e below (T17.setTop (mkF m 128 #[iv u0, iv u1, iv u2, iv u3, iv u4, iv xn1, iv xc0, iv xc1, iv xd0, iv xd1, iv xn2, iv xl1, iv (own_max (1 : Int32) (u3 &&& (2147483647 : Int32))), .unset, .unset, .unset, .unset, .unset, .unset, .unset] [])) t → Steps p.tables e below (s₁.setTop (entryFrame m #[(.int u0), (.int u1), (.int u2), (.int u3), (.int u4)] maxLocals)) t := by
      intro t k
      refine S15 t ?_
      show Steps p.tables e below (T13.setTop (mkF m 110 #[iv u0, iv u1, iv u2, iv u3, iv u4, iv xn1, iv xc0, iv xc1, iv xd0, iv xd1, iv xn2, iv xl1, .unset, .unset, .unset, .unset, .unset, .unset, .unset, .unset] [(.int (u4 &&& (128 : Int32)))])) _
      refine XS.ifYes X13.here hx rfl (pc0 := 110) (pc' := 118) rfl (hb hby at_110) rfl ((if0 _ _).trans (teq hc16).1) (by decide) (by decide) ?_
      show Steps p.tables e below (T13.setTop (mkF m 118 #[iv u0, iv u1, iv u2, iv u3, iv u4, iv xn1, iv xc0, iv xc1, iv xd0, iv xd1, iv xn2, iv xl1, .unset, .unset, .unset, .unset, .unset, .unset, .unset, .unset] [])) _
      refine XS.iconst X13.here hx rfl (hb hby at_118) ?_
      show Steps p.tables e below (T13.setTop (mkF m 119 #[iv u0, iv u1, iv u2, iv u3, iv u4, iv xn1, iv xc0, iv xc1, iv xd0, iv xd1, iv xn2, iv xl1, .unset, .unset, .unset, .unset, .unset, .unset, .unset, .unset] [(.int (1 : Int32))])) _
      refine XS.iloadN X13.here hx rfl (hb hby at_119) rfl ?_
      show Steps p.tables e below (T13.setTop (mkF m 120 #[iv u0, iv u1, iv u2, iv u3, iv u4, iv xn1, iv xc0, iv xc1, iv xd0, iv xd1, iv xn2, iv xl1, .unset, .unset, .unset, .unset, .unset, .unset, .unset, .unset] [(.int u3), (.int (1 : Int32))])) _
      refine X13.ldcInt hx hown (mvT hZ (hw _ (List.mem_of_getElem? (i := 0) rfl))) (g := (mkF m 120 #[iv u0, iv u1, iv u2, iv u3, iv u4, iv xn1, iv xc0, iv xc1, iv xd0, iv xd1, iv xn2, iv xl1, .unset, .unset, .unset, .unset, .unset, .unset, .unset, .unset] [(.int u3), (.int (1 : Int32))])) rfl (hb hby at_120) _ ?_
      show Steps p.tables e below (T13.setTop (mkF m 122 #[iv u0, iv u1, iv u2, iv u3, iv u4, iv xn1, iv xc0, iv xc1, iv xd0, iv xd1, iv xn2, iv xl1, .unset, .unset, .unset, .unset, .unset, .unset, .unset, .unset] [(.int (2147483647 : Int32)), (.int u3), (.int (1 : Int32))])) _
      refine XS.iand X13.here hx rfl (hb hby at_122) rfl ?_
      show Steps p.tables e below (T13.setTop (mkF m 123 #[iv u0, iv u1, iv u2, iv u3, iv u4, iv xn1, iv xc0, iv xc1, iv xd0, iv xd1, iv xn2, iv xl1, .unset, .unset, .unset, .unset, .unset, .unset, .unset, .unset] [(.int (u3 &&& (2147483647 : Int32))), (.int (1 : Int32))])) _
      refine st17 _ ?_
      show Steps p.tables e below (T17.setTop (mkF m 126 #[iv u0, iv u1, iv u2, iv u3, iv u4, iv xn1, iv xc0, iv xc1, iv xd0, iv xd1, iv xn2, iv xl1, .unset, .unset, .unset, .unset, .unset, .unset, .unset, .unset] [(.int (own_max (1 : Int32) (u3 &&& (2147483647 : Int32))))])) _
      refine XS.istore X17.here hx rfl (hb hby at_126) rfl (l' := #[iv u0, iv u1, iv u2, iv u3, iv u4, iv xn1, iv xc0, iv xc1, iv xd0, iv xd1, iv xn2, iv xl1, iv (own_max (1 : Int32) (u3 &&& (2147483647 : Int32))), .unset, .unset, .unset, .unset, .unset, .unset, .unset]) rfl ?_
      exact k
    obtain ⟨xl2, e_xl2⟩ : ∃ z : Int32, z = (own_max (1 : Int32) (u3 &&& (2147483647 : Int32))) := ⟨_, rfl⟩
    rw [← e_xl2] at S18
    have h_xl2 : ¬ xl2 < (1 : Int32) := by rw [e_xl2]; exact own_mx _
    have S20 : ∀ t, Steps p.tables e below (T17.setTop (mkF m 134 #[iv u0, iv u1, iv u2, iv u3, iv u4, iv xn1, iv xc0, iv xc1, iv xd0, iv xd1, iv xn2, iv xl1, iv xl2, .unset, .unset, .unset, .unset, .unset, .unset, .unset] [(.int xc1), (.int xc0), (.int xn1)])) t → Steps p.tables e below (s₁.setTop (entryFrame m #[(.int u0), (.int u1), (.int u2), (.int u3), (.int u4)] maxLocals)) t := by
      intro t k
      refine S18 t ?_
      show Steps p.tables e below (T17.setTop (mkF m 128 #[iv u0, iv u1, iv u2, iv u3, iv u4, iv xn1, iv xc0, iv xc1, iv xd0, iv xd1, iv xn2, iv xl1, iv xl2, .unset, .unset, .unset, .unset, .unset, .unset, .unset] [])) _
      refine XS.iload X17.here hx rfl (hb hby at_128) rfl ?_
      show Steps p.tables e below (T17.setTop (mkF m 130 #[iv u0, iv u1, iv u2, iv u3, iv u4, iv xn1, iv xc0, iv xc1, iv xd0, iv xd1, iv xn2, iv xl1, iv xl2, .unset, .unset, .unset, .unset, .unset, .unset, .unset] [(.int xn1)])) _
      refine XS.iload X17.here hx rfl (hb hby at_130) rfl ?_
      show Steps p.tables e below (T17.setTop (mkF m 132 #[iv u0, iv u1, iv u2, iv u3, iv u4, iv xn1, iv xc0, iv xc1, iv xd0, iv xd1, iv xn2, iv xl1, iv xl2, .unset, .unset, .unset, .unset, .unset, .unset, .unset] [(.int xc0), (.int xn1)])) _
      refine XS.iload X17.here hx rfl (hb hby at_132) rfl ?_
      exact k
    obtain ⟨_, _, ⟨T19, L19, k19, n19⟩, -, X19, hSn19, hgr19, ⟨Lc19, hQ19, l19, y19, z19, CC19⟩, st19⟩ := callSS X17 hx (y := (⟨"com/example/kilit/kilit/source/LocationEqualsPinLaw", "mk", "(ICC)Ljava/lang/String;"⟩ : MethodName)) hown (mvT hZ (hw _ (List.mem_of_getElem? (i := 5) rfl))) (mvT hZ (hw _ (List.mem_of_getElem? (i := 6) rfl))) (mvT hZ (hw _ (List.mem_of_getElem? (i := 7) rfl))) (mvT hZ (hw _ (List.mem_of_getElem? (i := 8) rfl))) (by decide) (backOfSH (s := s) (vm0 := s.vm) (EL := own_EL) (W := 0) (rmMk l Z a0 hw [] xn1 xc0 xc1 G1 h0 n0 Z0 hO O2 P3 h_xc0 h_xc1) hZ (hw _ (List.mem_of_getElem? (i := 8) rfl)) (hw _ (List.mem_of_getElem? (i := 7) rfl)) (by decide) (by decide) hEL C0.1) (g := (mkF m 134 #[iv u0, iv u1, iv u2, iv u3, iv u4, iv xn1, iv xc0, iv xc1, iv xd0, iv xd1, iv xn2, iv xl1, iv xl2, .unset, .unset, .unset, .unset, .unset, .unset, .unset] [(.int xc1), (.int xc0), (.int xn1)])) rfl (by rw [hml]; rfl) (argsL := [(.int xn1), (.int xc0), (.int xc1)]) (rest := []) (lenOf pd_5 rfl) rfl (by show 2 * 0 + _ ≤ _; exact Nat.le_of_eq rfl) (hb hby at_134) (fun _ _ => ⟨rfl, eq17, (by decide : 0 + 6 ≤ _), (by decide : 0 + 20 ≤ _)⟩)
    dsimp only [Pt.U, Pt.locs, Pt.cells, Pt.slots] at X19 l19 y19 z19 st19 hQ19 hSn19 hgr19 CC19
    subst y19 z19
    obtain ⟨sb19, tq19, kb19, Nn19, vq19, rfl, Nq19, Kq19, geq19, szq19, Eq19, Fv19, Fc19, Vq19, cod19⟩ := hQ19
    have N19 : Fr n0 L19 := by rw [l19]; exact Fr.app N17 Nq19
    have hS := hS.trans hSn19 (Nat.le_trans hk0 (by rw [← eq17]; exact hgr19))
    have hZ : Z.Warmed39 (s.setVm T19.vm).vm := State.Warmed39.trans (t := s.setVm s.vm) hZ hSn19.1
    have hown : (s.setVm T19.vm).vm.findClass "com/example/kilit/kilit/source/LocationEqualsPinLaw" = some m.cls := by rw [show (s.setVm T19.vm).vm = T19.vm from rfl, hSn19.1.alike.findClass]; exact hown
    have hkq19 : T19.heap.size ≤ T19.heap.size := Nat.le_refl _
    have C19 := C0.trans CC19
    have Z19 : n0 ≤ T19.heap.size := Nat.le_trans Z0 Kq19.1
    have Od21 := hO.keep Kq19 all0
    have S22 : ∀ t, Steps p.tables e below (T19.setTop (mkF m 137 #[iv u0, iv u1, iv u2, iv u3, iv u4, iv xn1, iv xc0, iv xc1, iv xd0, iv xd1, iv xn2, iv xl1, iv xl2, .unset, .unset, .unset, .unset, .unset, .unset, .unset] [(.ref sb19)])) t → Steps p.tables e below (s₁.setTop (entryFrame m #[(.int u0), (.int u1), (.int u2), (.int u3), (.int u4)] maxLocals)) t := by
      intro t k
      refine S20 t ?_
      show Steps p.tables e below (T17.setTop (mkF m 134 #[iv u0, iv u1, iv u2, iv u3, iv u4, iv xn1, iv xc0, iv xc1, iv xd0, iv xd1, iv xn2, iv xl1, iv xl2, .unset, .unset, .unset, .unset, .unset, .unset, .unset] [(.int xc1), (.int xc0), (.int xn1)])) _
      refine st19.trans ?_
      exact k
    have S24 : ∀ t, Steps p.tables e below (T19.setTop (mkF m 145 #[iv u0, iv u1, iv u2, iv u3, iv u4, iv xn1, iv xc0, iv xc1, iv xd0, iv xd1, iv xn2, iv xl1, iv xl2, rv sb19, .unset, .unset, .unset, .unset, .unset, .unset] [(.int xd1), (.int xd0), (.int xn2)])) t → Steps p.tables e below (s₁.setTop (entryFrame m #[(.int u0), (.int u1), (.int u2), (.int u3), (.int u4)] maxLocals)) t := by
      intro t k
      refine S22 t ?_
      show Steps p.tables e below (T19.setTop (mkF m 137 #[iv u0, iv u1, iv u2, iv u3, iv u4, iv xn1, iv xc0, iv xc1, iv xd0, iv xd1, iv xn2, iv xl1, iv xl2, .unset, .unset, .unset, .unset, .unset, .unset, .unset] [(.ref sb19)])) _
      refine XS.astore X19.here hx rfl (hb hby at_137) rfl rfl (l' := #[iv u0, iv u1, iv u2, iv u3, iv u4, iv xn1, iv xc0, iv xc1, iv xd0, iv xd1, iv xn2, iv xl1, iv xl2, rv sb19, .unset, .unset, .unset, .unset, .unset, .unset]) rfl ?_
      show Steps p.tables e below (T19.setTop (mkF m 139 #[iv u0, iv u1, iv u2, iv u3, iv u4, iv xn1, iv xc0, iv xc1, iv xd0, iv xd1, iv xn2, iv xl1, iv xl2, rv sb19, .unset, .unset, .unset, .unset, .unset, .unset] [])) _
      refine XS.iload X19.here hx rfl (hb hby at_139) rfl ?_
      show Steps p.tables e below (T19.setTop (mkF m 141 #[iv u0, iv u1, iv u2, iv u3, iv u4, iv xn1, iv xc0, iv xc1, iv xd0, iv xd1, iv xn2, iv xl1, iv xl2, rv sb19, .unset, .unset, .unset, .unset, .unset, .unset] [(.int xn2)])) _
      refine XS.iload X19.here hx rfl (hb hby at_141) rfl ?_
      show Steps p.tables e below (T19.setTop (mkF m 143 #[iv u0, iv u1, iv u2, iv u3, iv u4, iv xn1, iv xc0, iv xc1, iv xd0, iv xd1, iv xn2, iv xl1, iv xl2, rv sb19, .unset, .unset, .unset, .unset, .unset, .unset] [(.int xd0), (.int xn2)])) _
      refine XS.iload X19.here hx rfl (hb hby at_143) rfl ?_
      exact k
    obtain ⟨_, _, ⟨T23, L23, k23, n23⟩, -, X23, hSn23, hgr23, ⟨Lc23, hQ23, l23, y23, z23, CC23⟩, st23⟩ := callSS X19 hx (y := (⟨"com/example/kilit/kilit/source/LocationEqualsPinLaw", "mk", "(ICC)Ljava/lang/String;"⟩ : MethodName)) hown (mvT hZ (hw _ (List.mem_of_getElem? (i := 5) rfl))) (mvT hZ (hw _ (List.mem_of_getElem? (i := 6) rfl))) (mvT hZ (hw _ (List.mem_of_getElem? (i := 7) rfl))) (mvT hZ (hw _ (List.mem_of_getElem? (i := 8) rfl))) (by decide) (backOfSH (s := s) (vm0 := T19.vm) (EL := own_EL) (W := 0) (rmMk l Z a0 hw [] xn2 xd0 xd1 G1 T19.heap n0 Z19 Od21 O2 P3 h_xd0 h_xd1) hZ (hw _ (List.mem_of_getElem? (i := 8) rfl)) (hw _ (List.mem_of_getElem? (i := 7) rfl)) (by decide) (by decide) hEL C19.1) (g := (mkF m 145 #[iv u0, iv u1, iv u2, iv u3, iv u4, iv xn1, iv xc0, iv xc1, iv xd0, iv xd1, iv xn2, iv xl1, iv xl2, rv sb19, .unset, .unset, .unset, .unset, .unset, .unset] [(.int xd1), (.int xd0), (.int xn2)])) rfl (by rw [hml]; rfl) (argsL := [(.int xn2), (.int xd0), (.int xd1)]) (rest := []) (lenOf pd_5 rfl) rfl (by show 2 * 0 + _ ≤ _; exact Nat.le_of_eq rfl) (hb hby at_145) (fun _ _ => ⟨rfl, rfl, (by decide : 6 + 6 ≤ _), (by decide : 20 + 20 ≤ _)⟩)
    dsimp only [Pt.U, Pt.locs, Pt.cells, Pt.slots] at X23 l23 y23 z23 st23 hQ23 hSn23 hgr23 CC23
    subst y23 z23
    obtain ⟨sb23, tq23, kb23, Nn23, vq23, rfl, Nq23, Kq23, geq23, szq23, Eq23, Fv23, Fc23, Vq23, cod23⟩ := hQ23
    have N23 : Fr n0 L23 := by rw [l23]; exact Fr.app N19 Nq23
    have hS := hS.trans hSn23 (Nat.le_trans hkq19 hgr23)
    have hZ : Z.Warmed39 (s.setVm T23.vm).vm := State.Warmed39.trans (t := s.setVm T19.vm) hZ hSn23.1
    have hown : (s.setVm T23.vm).vm.findClass "com/example/kilit/kilit/source/LocationEqualsPinLaw" = some m.cls := by rw [show (s.setVm T23.vm).vm = T23.vm from rfl, hSn23.1.alike.findClass]; exact hown
    have hkq23 : T23.heap.size ≤ T23.heap.size := Nat.le_refl _
    have C23 := C19.trans CC23
    have Z23 : n0 ≤ T23.heap.size := Nat.le_trans Z19 Kq23.1
    have Od25 := Od21.keep Kq23 all0
    have f26 := Eq19.keep Kq23
    have f27 := Fv19.keep Kq23 nin0
    have f28 := Fc19.keep Kq23 nin0
    have f29 := Vq19.keep Kq23 nin0
    have S30 : ∀ t, Steps p.tables e below (T23.setTop (mkF m 148 #[iv u0, iv u1, iv u2, iv u3, iv u4, iv xn1, iv xc0, iv xc1, iv xd0, iv xd1, iv xn2, iv xl1, iv xl2, rv sb19, .unset, .unset, .unset, .unset, .unset, .unset] [(.ref sb23)])) t → Steps p.tables e below (s₁.setTop (entryFrame m #[(.int u0), (.int u1), (.int u2), (.int u3), (.int u4)] maxLocals)) t := by
      intro t k
      refine S24 t ?_
      show Steps p.tables e below (T19.setTop (mkF m 145 #[iv u0, iv u1, iv u2, iv u3, iv u4, iv xn1, iv xc0, iv xc1, iv xd0, iv xd1, iv xn2, iv xl1, iv xl2, rv sb19, .unset, .unset, .unset, .unset, .unset, .unset] [(.int xd1), (.int xd0), (.int xn2)])) _
      refine st23.trans ?_
      exact k
    obtain ⟨T31, h31, X31, e31, E31, A31, D31, -, st31⟩ := newO X23 hx hZ hown (hw _ (List.mem_of_getElem? (i := 31) rfl)) (hw _ (List.mem_of_getElem? (i := 32) rfl)) (hw _ (List.mem_of_getElem? (i := 33) rfl)) rfl (g := (mkF m 150 #[iv u0, iv u1, iv u2, iv u3, iv u4, iv xn1, iv xc0, iv xc1, iv xd0, iv xd1, iv xn2, iv xl1, iv xl2, rv sb19, rv sb23, .unset, .unset, .unset, .unset, .unset] [])) rfl (hb hby at_150) (by decide) (by decide)
    obtain ⟨b31, g31⟩ : ∃ z, z = T23.heap.size := ⟨_, rfl⟩
    rw [← g31] at A31 D31 st31
    have ge_b31 : n0 ≤ b31 := Nat.le_trans Z23 (Nat.le_of_eq g31.symm)
    have ne_sb19_b31 : sb19 ≠ b31 := Nat.ne_of_lt (Nat.lt_of_lt_of_le (f26).lt (Nat.le_of_eq g31.symm))
    have ne_sb23_b31 : sb23 ≠ b31 := Nat.ne_of_lt (Nat.lt_of_lt_of_le (Eq23).lt (Nat.le_of_eq g31.symm))
    have ne_tq19_b31 : tq19 ≠ b31 := Nat.ne_of_lt (Nat.lt_of_lt_of_le (f29).lt (Nat.le_of_eq g31.symm))
    have ne_tq23_b31 : tq23 ≠ b31 := Nat.ne_of_lt (Nat.lt_of_lt_of_le (Vq23).lt (Nat.le_of_eq g31.symm))
    have hk32 := Nat.le_trans hkq23 E31.1
    have Od33 := Od25.ext E31
    have f34 := f26.ext E31
    have f35 := f27.ext E31
    have f36 := f28.ext E31
    have f37 := f29.ext E31
    have f38 := Eq23.ext E31
    have f39 := Fv23.ext E31
    have f40 := Fc23.ext E31
    have f41 := Vq23.ext E31
    have F31_file : Fld Z h31 b31 "com/example/kilit/kilit/source/Location" "file" "Ljava/lang/String;" .null := D31 (Or.inr (hw _ (List.mem_of_getElem? (i := 45) rfl))) (ty := (.object "java/lang/String")) (by decide)
    have F31_line : Fld Z h31 b31 "com/example/kilit/kilit/source/Location" "line" "I" (.int (0 : Int32)) := D31 (Or.inr (hw _ (List.mem_of_getElem? (i := 47) rfl))) (ty := .int) (by decide)
    have Z31 : n0 ≤ h31.size := Nat.le_trans Z23 E31.1
    have S43 : ∀ t, Steps p.tables e below (T31.setTop (mkF m 158 #[iv u0, iv u1, iv u2, iv u3, iv u4, iv xn1, iv xc0, iv xc1, iv xd0, iv xd1, iv xn2, iv xl1, iv xl2, rv sb19, rv sb23, .unset, .unset, .unset, .unset, .unset] [(.int xl1), (.ref sb19), (.ref b31), (.ref b31)])) t → Steps p.tables e below (s₁.setTop (entryFrame m #[(.int u0), (.int u1), (.int u2), (.int u3), (.int u4)] maxLocals)) t := by
      intro t k
      refine S30 t ?_
      show Steps p.tables e below (T23.setTop (mkF m 148 #[iv u0, iv u1, iv u2, iv u3, iv u4, iv xn1, iv xc0, iv xc1, iv xd0, iv xd1, iv xn2, iv xl1, iv xl2, rv sb19, .unset, .unset, .unset, .unset, .unset, .unset] [(.ref sb23)])) _
      refine XS.astore X23.here hx rfl (hb hby at_148) rfl rfl (l' := #[iv u0, iv u1, iv u2, iv u3, iv u4, iv xn1, iv xc0, iv xc1, iv xd0, iv xd1, iv xn2, iv xl1, iv xl2, rv sb19, rv sb23, .unset, .unset, .unset, .unset, .unset]) rfl ?_
      show Steps p.tables e below (T23.setTop (mkF m 150 #[iv u0, iv u1, iv u2, iv u3, iv u4, iv xn1, iv xc0, iv xc1, iv xd0, iv xd1, iv xn2, iv xl1, iv xl2, rv sb19, rv sb23, .unset, .unset, .unset, .unset, .unset] [])) _
      refine st31 _ ?_
      show Steps p.tables e below (T31.setTop (mkF m 153 #[iv u0, iv u1, iv u2, iv u3, iv u4, iv xn1, iv xc0, iv xc1, iv xd0, iv xd1, iv xn2, iv xl1, iv xl2, rv sb19, rv sb23, .unset, .unset, .unset, .unset, .unset] [(.ref b31)])) _
      refine XS.dup X31.here hx rfl (hb hby at_153) rfl rfl ?_
      show Steps p.tables e below (T31.setTop (mkF m 154 #[iv u0, iv u1, iv u2, iv u3, iv u4, iv xn1, iv xc0, iv xc1, iv xd0, iv xd1, iv xn2, iv xl1, iv xl2, rv sb19, rv sb23, .unset, .unset, .unset, .unset, .unset] [(.ref b31), (.ref b31)])) _
      refine XS.aload X31.here hx rfl (hb hby at_154) rfl rfl ?_
      show Steps p.tables e below (T31.setTop (mkF m 156 #[iv u0, iv u1, iv u2, iv u3, iv u4, iv xn1, iv xc0, iv xc1, iv xd0, iv xd1, iv xn2, iv xl1, iv xl2, rv sb19, rv sb23, .unset, .unset, .unset, .unset, .unset] [(.ref sb19), (.ref b31), (.ref b31)])) _
      refine XS.iload X31.here hx rfl (hb hby at_156) rfl ?_
      exact k
    obtain ⟨_, _, ⟨T42, L42, k42, n42⟩, -, X42, hSn42, hgr42, ⟨Lc42, hQ42, l42, y42, z42⟩, st42⟩ := X31.specialBackS hx (y := (⟨"com/example/kilit/kilit/source/Location", "<init>", "(Ljava/lang/String;I)V"⟩ : MethodName)) rfl hown (mvT hZ (hw _ (List.mem_of_getElem? (i := 34) rfl))) (mvT hZ (hw _ (List.mem_of_getElem? (i := 35) rfl))) (mvT hZ (hw _ (List.mem_of_getElem? (i := 36) rfl))) (by decide) (backOfS (W := 1) (rmLoc l Z a0 hw [] b31 sb19 xl1 h31 n0 Z31 A31 F31_file F31_line ge_b31 f34 h_xl1) hZ (hw _ (List.mem_of_getElem? (i := 36) rfl)) (hw _ (List.mem_of_getElem? (i := 33) rfl)) (by decide) (by decide)) (g := (mkF m 158 #[iv u0, iv u1, iv u2, iv u3, iv u4, iv xn1, iv xc0, iv xc1, iv xd0, iv xd1, iv xn2, iv xl1, iv xl2, rv sb19, rv sb23, .unset, .unset, .unset, .unset, .unset] [(.int xl1), (.ref sb19), (.ref b31), (.ref b31)])) rfl (by rw [hml]; rfl) (Steps.refl _) (a := b31) (argsL := [(.ref sb19), (.int xl1)]) (rest := [(.ref b31)]) (lenOf pd_6 rfl) rfl (by show 2 * 0 + _ ≤ _; exact Nat.le_of_eq rfl) (hb hby at_158) (fun _ _ => ⟨rfl, e31, (by decide : 13 + 2 ≤ _), (by decide : 42 + 20 ≤ _)⟩)
    dsimp only [Pt.U, Pt.locs, Pt.cells, Pt.slots] at X42 l42 y42 z42 st42 hQ42 hSn42 hgr42
    subst y42 z42
    obtain ⟨rfl, Nq42, Kq42, Eq42, Ff42, Fl42⟩ := hQ42
    have N42 : Fr n0 L42 := by rw [l42]; exact Fr.app N23 Nq42
    have hS := hS.trans hSn42 (Nat.le_trans hk32 (by rw [← e31]; exact hgr42))
    have hZ : Z.Warmed39 (s.setVm T42.vm).vm := State.Warmed39.trans (t := s.setVm T23.vm) hZ hSn42.1
    have hown : (s.setVm T42.vm).vm.findClass "com/example/kilit/kilit/source/LocationEqualsPinLaw" = some m.cls := by rw [show (s.setVm T42.vm).vm = T42.vm from rfl, hSn42.1.alike.findClass]; exact hown
    have hkq42 : T42.heap.size ≤ T42.heap.size := Nat.le_refl _
    have Z42 : n0 ≤ T42.heap.size := Nat.le_trans Z31 Kq42.1
    have Od44 := Od33.keep Kq42 (allS ge_b31 all0)
    have f45 := f34.keep Kq42
    have f46 := f35.keep Kq42 (ninS ne_sb19_b31 nin0)
    have f47 := f36.keep Kq42 (ninS ne_sb19_b31 nin0)
    have f48 := f37.keep Kq42 (ninS ne_tq19_b31 nin0)
    have f49 := f38.keep Kq42
    have f50 := f39.keep Kq42 (ninS ne_sb23_b31 nin0)
    have f51 := f40.keep Kq42 (ninS ne_sb23_b31 nin0)
    have f52 := f41.keep Kq42 (ninS ne_tq23_b31 nin0)
    have f53 := A31.keep Kq42
    have S56 : ∀ t, Steps p.tables e below (T42.setTop (mkF m 161 #[iv u0, iv u1, iv u2, iv u3, iv u4, iv xn1, iv xc0, iv xc1, iv xd0, iv xd1, iv xn2, iv xl1, iv xl2, rv sb19, rv sb23, .unset, .unset, .unset, .unset, .unset] [(.ref b31)])) t → Steps p.tables e below (s₁.setTop (entryFrame m #[(.int u0), (.int u1), (.int u2), (.int u3), (.int u4)] maxLocals)) t := by
      intro t k
      refine S43 t ?_
      show Steps p.tables e below (T31.setTop (mkF m 158 #[iv u0, iv u1, iv u2, iv u3, iv u4, iv xn1, iv xc0, iv xc1, iv xd0, iv xd1, iv xn2, iv xl1, iv xl2, rv sb19, rv sb23, .unset, .unset, .unset, .unset, .unset] [(.int xl1), (.ref sb19), (.ref b31), (.ref b31)])) _
      refine st42.trans ?_
      exact k
    obtain ⟨T57, h57, X57, e57, E57, A57, D57, -, st57⟩ := newO X42 hx hZ hown (hw _ (List.mem_of_getElem? (i := 31) rfl)) (hw _ (List.mem_of_getElem? (i := 32) rfl)) (hw _ (List.mem_of_getElem? (i := 33) rfl)) rfl (g := (mkF m 163 #[iv u0, iv u1, iv u2, iv u3, iv u4, iv xn1, iv xc0, iv xc1, iv xd0, iv xd1, iv xn2, iv xl1, iv xl2, rv sb19, rv sb23, rv b31, .unset, .unset, .unset, .unset] [])) rfl (hb hby at_163) (by decide) (by decide)
    obtain ⟨b57, g57⟩ : ∃ z, z = T42.heap.size := ⟨_, rfl⟩
    rw [← g57] at A57 D57 st57
    have ge_b57 : n0 ≤ b57 := Nat.le_trans Z42 (Nat.le_of_eq g57.symm)
    have ne_b31_b57 : b31 ≠ b57 := Nat.ne_of_lt (Nat.lt_of_lt_of_le (Eq42).lt (Nat.le_of_eq g57.symm))
    have ne_sb19_b57 : sb19 ≠ b57 := Nat.ne_of_lt (Nat.lt_of_lt_of_le (f45).lt (Nat.le_of_eq g57.symm))
    have ne_sb23_b57 : sb23 ≠ b57 := Nat.ne_of_lt (Nat.lt_of_lt_of_le (f49).lt (Nat.le_of_eq g57.symm))
    have ne_tq19_b57 : tq19 ≠ b57 := Nat.ne_of_lt (Nat.lt_of_lt_of_le (f48).lt (Nat.le_of_eq g57.symm))
    have ne_tq23_b57 : tq23 ≠ b57 := Nat.ne_of_lt (Nat.lt_of_lt_of_le (f52).lt (Nat.le_of_eq g57.symm))
    have hk58 := Nat.le_trans hkq42 E57.1
    have Od59 := Od44.ext E57
    have f60 := f45.ext E57
    have f61 := f46.ext E57
    have f62 := f47.ext E57
    have f63 := f48.ext E57
    have f64 := f49.ext E57
    have f65 := f50.ext E57
    have f66 := f51.ext E57
    have f67 := f52.ext E57
    have f68 := Eq42.ext E57
    have f69 := Ff42.ext E57
    have f70 := Fl42.ext E57
    have F57_file : Fld Z h57 b57 "com/example/kilit/kilit/source/Location" "file" "Ljava/lang/String;" .null := D57 (Or.inr (hw _ (List.mem_of_getElem? (i := 45) rfl))) (ty := (.object "java/lang/String")) (by decide)
    have F57_line : Fld Z h57 b57 "com/example/kilit/kilit/source/Location" "line" "I" (.int (0 : Int32)) := D57 (Or.inr (hw _ (List.mem_of_getElem? (i := 47) rfl))) (ty := .int) (by decide)
    have Z57 : n0 ≤ h57.size := Nat.le_trans Z42 E57.1
    have S72 : ∀ t, Steps p.tables e below (T57.setTop (mkF m 171 #[iv u0, iv u1, iv u2, iv u3, iv u4, iv xn1, iv xc0, iv xc1, iv xd0, iv xd1, iv xn2, iv xl1, iv xl2, rv sb19, rv sb23, rv b31, .unset, .unset, .unset, .unset] [(.int xl2), (.ref sb23), (.ref b57), (.ref b57)])) t → Steps p.tables e below (s₁.setTop (entryFrame m #[(.int u0), (.int u1), (.int u2), (.int u3), (.int u4)] maxLocals)) t := by
      intro t k
      refine S56 t ?_
      show Steps p.tables e below (T42.setTop (mkF m 161 #[iv u0, iv u1, iv u2, iv u3, iv u4, iv xn1, iv xc0, iv xc1, iv xd0, iv xd1, iv xn2, iv xl1, iv xl2, rv sb19, rv sb23, .unset, .unset, .unset, .unset, .unset] [(.ref b31)])) _
      refine XS.astore X42.here hx rfl (hb hby at_161) rfl rfl (l' := #[iv u0, iv u1, iv u2, iv u3, iv u4, iv xn1, iv xc0, iv xc1, iv xd0, iv xd1, iv xn2, iv xl1, iv xl2, rv sb19, rv sb23, rv b31, .unset, .unset, .unset, .unset]) rfl ?_
      show Steps p.tables e below (T42.setTop (mkF m 163 #[iv u0, iv u1, iv u2, iv u3, iv u4, iv xn1, iv xc0, iv xc1, iv xd0, iv xd1, iv xn2, iv xl1, iv xl2, rv sb19, rv sb23, rv b31, .unset, .unset, .unset, .unset] [])) _
      refine st57 _ ?_
      show Steps p.tables e below (T57.setTop (mkF m 166 #[iv u0, iv u1, iv u2, iv u3, iv u4, iv xn1, iv xc0, iv xc1, iv xd0, iv xd1, iv xn2, iv xl1, iv xl2, rv sb19, rv sb23, rv b31, .unset, .unset, .unset, .unset] [(.ref b57)])) _
      refine XS.dup X57.here hx rfl (hb hby at_166) rfl rfl ?_
      show Steps p.tables e below (T57.setTop (mkF m 167 #[iv u0, iv u1, iv u2, iv u3, iv u4, iv xn1, iv xc0, iv xc1, iv xd0, iv xd1, iv xn2, iv xl1, iv xl2, rv sb19, rv sb23, rv b31, .unset, .unset, .unset, .unset] [(.ref b57), (.ref b57)])) _
      refine XS.aload X57.here hx rfl (hb hby at_167) rfl rfl ?_
      show Steps p.tables e below (T57.setTop (mkF m 169 #[iv u0, iv u1, iv u2, iv u3, iv u4, iv xn1, iv xc0, iv xc1, iv xd0, iv xd1, iv xn2, iv xl1, iv xl2, rv sb19, rv sb23, rv b31, .unset, .unset, .unset, .unset] [(.ref sb23), (.ref b57), (.ref b57)])) _
      refine XS.iload X57.here hx rfl (hb hby at_169) rfl ?_
      exact k
    obtain ⟨_, _, ⟨T71, L71, k71, n71⟩, -, X71, hSn71, hgr71, ⟨Lc71, hQ71, l71, y71, z71⟩, st71⟩ := X57.specialBackS hx (y := (⟨"com/example/kilit/kilit/source/Location", "<init>", "(Ljava/lang/String;I)V"⟩ : MethodName)) rfl hown (mvT hZ (hw _ (List.mem_of_getElem? (i := 34) rfl))) (mvT hZ (hw _ (List.mem_of_getElem? (i := 35) rfl))) (mvT hZ (hw _ (List.mem_of_getElem? (i := 36) rfl))) (by decide) (backOfS (W := 1) (rmLoc l Z a0 hw [] b57 sb23 xl2 h57 n0 Z57 A57 F57_file F57_line ge_b57 f64 h_xl2) hZ (hw _ (List.mem_of_getElem? (i := 36) rfl)) (hw _ (List.mem_of_getElem? (i := 33) rfl)) (by decide) (by decide)) (g := (mkF m 171 #[iv u0, iv u1, iv u2, iv u3, iv u4, iv xn1, iv xc0, iv xc1, iv xd0, iv xd1, iv xn2, iv xl1, iv xl2, rv sb19, rv sb23, rv b31, .unset, .unset, .unset, .unset] [(.int xl2), (.ref sb23), (.ref b57), (.ref b57)])) rfl (by rw [hml]; rfl) (Steps.refl _) (a := b57) (argsL := [(.ref sb23), (.int xl2)]) (rest := [(.ref b57)]) (lenOf pd_6 rfl) rfl (by show 2 * 0 + _ ≤ _; exact Nat.le_of_eq rfl) (hb hby at_171) (fun _ _ => ⟨rfl, e57, (by decide : 16 + 2 ≤ _), (by decide : 64 + 20 ≤ _)⟩)
    dsimp only [Pt.U, Pt.locs, Pt.cells, Pt.slots] at X71 l71 y71 z71 st71 hQ71 hSn71 hgr71
    subst y71 z71
    obtain ⟨rfl, Nq71, Kq71, Eq71, Ff71, Fl71⟩ := hQ71
    have N71 : Fr n0 L71 := by rw [l71]; exact Fr.app N42 Nq71
    have hS := hS.trans hSn71 (Nat.le_trans hk58 (by rw [← e57]; exact hgr71))
    have hZ : Z.Warmed39 (s.setVm T71.vm).vm := State.Warmed39.trans (t := s.setVm T42.vm) hZ hSn71.1
    have hown : (s.setVm T71.vm).vm.findClass "com/example/kilit/kilit/source/LocationEqualsPinLaw" = some m.cls := by rw [show (s.setVm T71.vm).vm = T71.vm from rfl, hSn71.1.alike.findClass]; exact hown
    have hkq71 : T71.heap.size ≤ T71.heap.size := Nat.le_refl _
    have Z71 : n0 ≤ T71.heap.size := Nat.le_trans Z57 Kq71.1
    have Od73 := Od59.keep Kq71 (allS ge_b57 all0)
    have f74 := f60.keep Kq71
    have f75 := f61.keep Kq71 (ninS ne_sb19_b57 nin0)
    have f76 := f62.keep Kq71 (ninS ne_sb19_b57 nin0)
    have f77 := f63.keep Kq71 (ninS ne_tq19_b57 nin0)
    have f78 := f64.keep Kq71
    have f79 := f65.keep Kq71 (ninS ne_sb23_b57 nin0)
    have f80 := f66.keep Kq71 (ninS ne_sb23_b57 nin0)
    have f81 := f67.keep Kq71 (ninS ne_tq23_b57 nin0)
    have f82 := f68.keep Kq71
    have f83 := f69.keep Kq71 (ninS ne_b31_b57 nin0)
    have f84 := f70.keep Kq71 (ninS ne_b31_b57 nin0)
    have f85 := A57.keep Kq71
    have S88 : ∀ t, Steps p.tables e below (T71.setTop (mkF m 174 #[iv u0, iv u1, iv u2, iv u3, iv u4, iv xn1, iv xc0, iv xc1, iv xd0, iv xd1, iv xn2, iv xl1, iv xl2, rv sb19, rv sb23, rv b31, .unset, .unset, .unset, .unset] [(.ref b57)])) t → Steps p.tables e below (s₁.setTop (entryFrame m #[(.int u0), (.int u1), (.int u2), (.int u3), (.int u4)] maxLocals)) t := by
      intro t k
      refine S72 t ?_
      show Steps p.tables e below (T57.setTop (mkF m 171 #[iv u0, iv u1, iv u2, iv u3, iv u4, iv xn1, iv xc0, iv xc1, iv xd0, iv xd1, iv xn2, iv xl1, iv xl2, rv sb19, rv sb23, rv b31, .unset, .unset, .unset, .unset] [(.int xl2), (.ref sb23), (.ref b57), (.ref b57)])) _
      refine st71.trans ?_
      exact k
    have S89 : ∀ t, Steps p.tables e below (T71.setTop (mkF m 188 #[iv u0, iv u1, iv u2, iv u3, iv u4, iv xn1, iv xc0, iv xc1, iv xd0, iv xd1, iv xn2, iv xl1, iv xl2, rv sb19, rv sb23, rv b31, rv b57, iv (((u4.toUInt32 >>> ((8 : Int32) &&& 31).toUInt32).toInt32) &&& (3 : Int32)), .unset, .unset] [(.int (1 : Int32)), (.int (((u4.toUInt32 >>> ((8 : Int32) &&& 31).toUInt32).toInt32) &&& (3 : Int32)))])) t → Steps p.tables e below (s₁.setTop (entryFrame m #[(.int u0), (.int u1), (.int u2), (.int u3), (.int u4)] maxLocals)) t := by
      intro t k
      refine S88 t ?_
      show Steps p.tables e below (T71.setTop (mkF m 174 #[iv u0, iv u1, iv u2, iv u3, iv u4, iv xn1, iv xc0, iv xc1, iv xd0, iv xd1, iv xn2, iv xl1, iv xl2, rv sb19, rv sb23, rv b31, .unset, .unset, .unset, .unset] [(.ref b57)])) _
      refine XS.astore X71.here hx rfl (hb hby at_174) rfl rfl (l' := #[iv u0, iv u1, iv u2, iv u3, iv u4, iv xn1, iv xc0, iv xc1, iv xd0, iv xd1, iv xn2, iv xl1, iv xl2, rv sb19, rv sb23, rv b31, rv b57, .unset, .unset, .unset]) rfl ?_
      show Steps p.tables e below (T71.setTop (mkF m 176 #[iv u0, iv u1, iv u2, iv u3, iv u4, iv xn1, iv xc0, iv xc1, iv xd0, iv xd1, iv xn2, iv xl1, iv xl2, rv sb19, rv sb23, rv b31, rv b57, .unset, .unset, .unset] [])) _
      refine XS.iload X71.here hx rfl (hb hby at_176) rfl ?_
      show Steps p.tables e below (T71.setTop (mkF m 178 #[iv u0, iv u1, iv u2, iv u3, iv u4, iv xn1, iv xc0, iv xc1, iv xd0, iv xd1, iv xn2, iv xl1, iv xl2, rv sb19, rv sb23, rv b31, rv b57, .unset, .unset, .unset] [(.int u4)])) _
      refine XS.bipush X71.here hx rfl (hb hby at_178) ?_
      show Steps p.tables e below (T71.setTop (mkF m 180 #[iv u0, iv u1, iv u2, iv u3, iv u4, iv xn1, iv xc0, iv xc1, iv xd0, iv xd1, iv xn2, iv xl1, iv xl2, rv sb19, rv sb23, rv b31, rv b57, .unset, .unset, .unset] [(.int (8 : Int32)), (.int u4)])) _
      refine XS.iushr X71.here hx rfl (hb hby at_180) rfl ?_
      show Steps p.tables e below (T71.setTop (mkF m 181 #[iv u0, iv u1, iv u2, iv u3, iv u4, iv xn1, iv xc0, iv xc1, iv xd0, iv xd1, iv xn2, iv xl1, iv xl2, rv sb19, rv sb23, rv b31, rv b57, .unset, .unset, .unset] [(.int ((u4.toUInt32 >>> ((8 : Int32) &&& 31).toUInt32).toInt32))])) _
      refine XS.iconst X71.here hx rfl (hb hby at_181) ?_
      show Steps p.tables e below (T71.setTop (mkF m 182 #[iv u0, iv u1, iv u2, iv u3, iv u4, iv xn1, iv xc0, iv xc1, iv xd0, iv xd1, iv xn2, iv xl1, iv xl2, rv sb19, rv sb23, rv b31, rv b57, .unset, .unset, .unset] [(.int (3 : Int32)), (.int ((u4.toUInt32 >>> ((8 : Int32) &&& 31).toUInt32).toInt32))])) _
      refine XS.iand X71.here hx rfl (hb hby at_182) rfl ?_
      show Steps p.tables e below (T71.setTop (mkF m 183 #[iv u0, iv u1, iv u2, iv u3, iv u4, iv xn1, iv xc0, iv xc1, iv xd0, iv xd1, iv xn2, iv xl1, iv xl2, rv sb19, rv sb23, rv b31, rv b57, .unset, .unset, .unset] [(.int (((u4.toUInt32 >>> ((8 : Int32) &&& 31).toUInt32).toInt32) &&& (3 : Int32)))])) _
      refine XS.istore X71.here hx rfl (hb hby at_183) rfl (l' := #[iv u0, iv u1, iv u2, iv u3, iv u4, iv xn1, iv xc0, iv xc1, iv xd0, iv xd1, iv xn2, iv xl1, iv xl2, rv sb19, rv sb23, rv b31, rv b57, iv (((u4.toUInt32 >>> ((8 : Int32) &&& 31).toUInt32).toInt32) &&& (3 : Int32)), .unset, .unset]) rfl ?_
      show Steps p.tables e below (T71.setTop (mkF m 185 #[iv u0, iv u1, iv u2, iv u3, iv u4, iv xn1, iv xc0, iv xc1, iv xd0, iv xd1, iv xn2, iv xl1, iv xl2, rv sb19, rv sb23, rv b31, rv b57, iv (((u4.toUInt32 >>> ((8 : Int32) &&& 31).toUInt32).toInt32) &&& (3 : Int32)), .unset, .unset] [])) _
      refine XS.iload X71.here hx rfl (hb hby at_185) rfl ?_
      show Steps p.tables e below (T71.setTop (mkF m 187 #[iv u0, iv u1, iv u2, iv u3, iv u4, iv xn1, iv xc0, iv xc1, iv xd0, iv xd1, iv xn2, iv xl1, iv xl2, rv sb19, rv sb23, rv b31, rv b57, iv (((u4.toUInt32 >>> ((8 : Int32) &&& 31).toUInt32).toInt32) &&& (3 : Int32)), .unset, .unset] [(.int (((u4.toUInt32 >>> ((8 : Int32) &&& 31).toUInt32).toInt32) &&& (3 : Int32)))])) _
      refine XS.iconst X71.here hx rfl (hb hby at_187) ?_
      exact k
    by_cases hc90 : (((u4.toUInt32 >>> ((8 : Int32) &&& 31).toUInt32).toInt32) &&& (3 : Int32)) = (1 : Int32)
    · skip
      obtain ⟨cq91, kq91, q91a, q91b, q91c⟩ := isOf hZ rfl f82
      obtain ⟨_, _, ⟨T91, L91, k91, n91⟩, -, X91, ⟨Lc91, hQ91, l91, y91, z91⟩, st91⟩ := X71.virtualBack hx (y := (⟨"com/example/kilit/kilit/source/Location", "equals", "(Ljava/lang/Object;)Z"⟩ : MethodName)) (z := (⟨"com/example/kilit/kilit/source/Location", "equals", "(Ljava/lang/Object;)Z"⟩ : MethodName)) hown (mvT hZ (hw _ (List.mem_of_getElem? (i := 48) rfl))) (mvT hZ (hw _ (List.mem_of_getElem? (i := 49) rfl))) (notFace_of_selects (args := #[]) (mvT hZ (hw _ (List.mem_of_getElem? (i := 51) rfl)))) (mvT hZ (hw _ (List.mem_of_getElem? (i := 51) rfl))) (mvT hZ (hw _ (List.mem_of_getElem? (i := 50) rfl))) (by decide) (backOf (W := 0) (rmEqN l Z a0 hw [] b31 T71.heap n0 Z71) hZ (hw _ (List.mem_of_getElem? (i := 52) rfl)) (hw _ (List.mem_of_getElem? (i := 33) rfl)) (by decide) (by decide)) q91a q91c (g := (mkF m 194 #[iv u0, iv u1, iv u2, iv u3, iv u4, iv xn1, iv xc0, iv xc1, iv xd0, iv xd1, iv xn2, iv xl1, iv xl2, rv sb19, rv sb23, rv b31, rv b57, iv (((u4.toUInt32 >>> ((8 : Int32) &&& 31).toUInt32).toInt32) &&& (3 : Int32)), .unset, .unset] [.null, (.ref b31)])) rfl (by rw [hml]; rfl) (Steps.refl _) (argsL := [.null]) (rest := []) (lenOf pd_3 rfl) rfl (by show 2 * 0 + _ ≤ _; exact Nat.le_of_eq rfl) (hb hby at_194) (fun _ _ => ⟨rfl, rfl, (by decide : 18 + 0 ≤ _), (by decide : 84 + 0 ≤ _)⟩)
      dsimp only [Pt.U, Pt.locs, Pt.cells, Pt.slots] at X91 l91 y91 z91 st91 hQ91
      subst y91 z91
      obtain ⟨rfl, Nq91, eq91⟩ := hQ91
      have N91 : Fr n0 L91 := by rw [l91]; exact Fr.app N71 Nq91
      obtain ⟨fs, hr, hrun, hended, hR1, hR2, hR3, hR4⟩ := Stand.leaveW (s := s) (vm₁ := T71.vm) X91 hS (by rw [eq91]; exact hkq71) (v := some (.int (1 : Int32))) (fun h => by rw [Bd.returns] at h; cases h)
      refine ⟨_, _, S89 _ ?_, hrun, hended, _, _, rfl, ?_, hR1, hR2, hR3, hR4.mono (by decide) (by decide)⟩
      · skip
        show Steps p.tables e below (T71.setTop (mkF m 188 #[iv u0, iv u1, iv u2, iv u3, iv u4, iv xn1, iv xc0, iv xc1, iv xd0, iv xd1, iv xn2, iv xl1, iv xl2, rv sb19, rv sb23, rv b31, rv b57, iv (((u4.toUInt32 >>> ((8 : Int32) &&& 31).toUInt32).toInt32) &&& (3 : Int32)), .unset, .unset] [(.int (1 : Int32)), (.int (((u4.toUInt32 >>> ((8 : Int32) &&& 31).toUInt32).toInt32) &&& (3 : Int32)))])) _
        refine XS.icmpNo X71.here hx rfl (hb hby at_188) rfl (teq hc90).2 ?_
        show Steps p.tables e below (T71.setTop (mkF m 191 #[iv u0, iv u1, iv u2, iv u3, iv u4, iv xn1, iv xc0, iv xc1, iv xd0, iv xd1, iv xn2, iv xl1, iv xl2, rv sb19, rv sb23, rv b31, rv b57, iv (((u4.toUInt32 >>> ((8 : Int32) &&& 31).toUInt32).toInt32) &&& (3 : Int32)), .unset, .unset] [])) _
        refine XS.aload X71.here hx rfl (hb hby at_191) rfl rfl ?_
        show Steps p.tables e below (T71.setTop (mkF m 193 #[iv u0, iv u1, iv u2, iv u3, iv u4, iv xn1, iv xc0, iv xc1, iv xd0, iv xd1, iv xn2, iv xl1, iv xl2, rv sb19, rv sb23, rv b31, rv b57, iv (((u4.toUInt32 >>> ((8 : Int32) &&& 31).toUInt32).toInt32) &&& (3 : Int32)), .unset, .unset] [(.ref b31)])) _
        refine XS.aconstNull X71.here hx rfl (hb hby at_193) ?_
        show Steps p.tables e below (T71.setTop (mkF m 194 #[iv u0, iv u1, iv u2, iv u3, iv u4, iv xn1, iv xc0, iv xc1, iv xd0, iv xd1, iv xn2, iv xl1, iv xl2, rv sb19, rv sb23, rv b31, rv b57, iv (((u4.toUInt32 >>> ((8 : Int32) &&& 31).toUInt32).toInt32) &&& (3 : Int32)), .unset, .unset] [.null, (.ref b31)])) _
        refine st91.trans ?_
        show Steps p.tables e below (T91.setTop (mkF m 197 #[iv u0, iv u1, iv u2, iv u3, iv u4, iv xn1, iv xc0, iv xc1, iv xd0, iv xd1, iv xn2, iv xl1, iv xl2, rv sb19, rv sb23, rv b31, rv b57, iv (((u4.toUInt32 >>> ((8 : Int32) &&& 31).toUInt32).toInt32) &&& (3 : Int32)), .unset, .unset] [(.int (0 : Int32))])) _
        refine XS.ifNo X91.here hx rfl (hb hby at_197) rfl ((if0 _ _).trans (teq (by decide : (0 : Int32) = (0 : Int32))).2) ?_
        show Steps p.tables e below (T91.setTop (mkF m 200 #[iv u0, iv u1, iv u2, iv u3, iv u4, iv xn1, iv xc0, iv xc1, iv xd0, iv xd1, iv xn2, iv xl1, iv xl2, rv sb19, rv sb23, rv b31, rv b57, iv (((u4.toUInt32 >>> ((8 : Int32) &&& 31).toUInt32).toInt32) &&& (3 : Int32)), .unset, .unset] [])) _
        refine XS.iconst X91.here hx rfl (hb hby at_200) ?_
        show Steps p.tables e below (T91.setTop (mkF m 201 #[iv u0, iv u1, iv u2, iv u3, iv u4, iv xn1, iv xc0, iv xc1, iv xd0, iv xd1, iv xn2, iv xl1, iv xl2, rv sb19, rv sb23, rv b31, rv b57, iv (((u4.toUInt32 >>> ((8 : Int32) &&& 31).toUInt32).toInt32) &&& (3 : Int32)), .unset, .unset] [(.int (1 : Int32))])) _
        refine XS.goto X91.here hx rfl (pc0 := 201) (pc' := 205) rfl (hb hby at_201) (by decide) (by decide) ?_
        show Steps p.tables e below (T91.setTop (mkF m 205 #[iv u0, iv u1, iv u2, iv u3, iv u4, iv xn1, iv xc0, iv xc1, iv xd0, iv xd1, iv xn2, iv xl1, iv xl2, rv sb19, rv sb23, rv b31, rv b57, iv (((u4.toUInt32 >>> ((8 : Int32) &&& 31).toUInt32).toInt32) &&& (3 : Int32)), .unset, .unset] [(.int (1 : Int32))])) _
        exact retN X91 hx (t := .boolean) Bd.returns (by simp) (hb hby at_205) hr
      · show Q0 Z u0 u1 u2 u3 u4 G1 h0 n0 _ T91.heap _
        rw [eq91]
        exact ⟨rfl, N91⟩
    · skip
      have S92 : ∀ t, Steps p.tables e below (T71.setTop (mkF m 209 #[iv u0, iv u1, iv u2, iv u3, iv u4, iv xn1, iv xc0, iv xc1, iv xd0, iv xd1, iv xn2, iv xl1, iv xl2, rv sb19, rv sb23, rv b31, rv b57, iv (((u4.toUInt32 >>> ((8 : Int32) &&& 31).toUInt32).toInt32) &&& (3 : Int32)), .unset, .unset] [(.int (2 : Int32)), (.int (((u4.toUInt32 >>> ((8 : Int32) &&& 31).toUInt32).toInt32) &&& (3 : Int32)))])) t → Steps p.tables e below (s₁.setTop (entryFrame m #[(.int u0), (.int u1), (.int u2), (.int u3), (.int u4)] maxLocals)) t := by
        intro t k
        refine S89 t ?_
        show Steps p.tables e below (T71.setTop (mkF m 188 #[iv u0, iv u1, iv u2, iv u3, iv u4, iv xn1, iv xc0, iv xc1, iv xd0, iv xd1, iv xn2, iv xl1, iv xl2, rv sb19, rv sb23, rv b31, rv b57, iv (((u4.toUInt32 >>> ((8 : Int32) &&& 31).toUInt32).toInt32) &&& (3 : Int32)), .unset, .unset] [(.int (1 : Int32)), (.int (((u4.toUInt32 >>> ((8 : Int32) &&& 31).toUInt32).toInt32) &&& (3 : Int32)))])) _
        refine XS.icmpYes X71.here hx rfl (pc0 := 188) (pc' := 206) rfl (hb hby at_188) rfl (feq hc90).2 (by decide) (by decide) ?_
        show Steps p.tables e below (T71.setTop (mkF m 206 #[iv u0, iv u1, iv u2, iv u3, iv u4, iv xn1, iv xc0, iv xc1, iv xd0, iv xd1, iv xn2, iv xl1, iv xl2, rv sb19, rv sb23, rv b31, rv b57, iv (((u4.toUInt32 >>> ((8 : Int32) &&& 31).toUInt32).toInt32) &&& (3 : Int32)), .unset, .unset] [])) _
        refine XS.iload X71.here hx rfl (hb hby at_206) rfl ?_
        show Steps p.tables e below (T71.setTop (mkF m 208 #[iv u0, iv u1, iv u2, iv u3, iv u4, iv xn1, iv xc0, iv xc1, iv xd0, iv xd1, iv xn2, iv xl1, iv xl2, rv sb19, rv sb23, rv b31, rv b57, iv (((u4.toUInt32 >>> ((8 : Int32) &&& 31).toUInt32).toInt32) &&& (3 : Int32)), .unset, .unset] [(.int (((u4.toUInt32 >>> ((8 : Int32) &&& 31).toUInt32).toInt32) &&& (3 : Int32)))])) _
        refine XS.iconst X71.here hx rfl (hb hby at_208) ?_
        exact k
      by_cases hc93 : (((u4.toUInt32 >>> ((8 : Int32) &&& 31).toUInt32).toInt32) &&& (3 : Int32)) = (2 : Int32)
      · skip
        obtain ⟨cq94, kq94, q94a, q94b, q94c⟩ := isOf hZ rfl f82
        obtain ⟨_, _, ⟨T94, L94, k94, n94⟩, -, X94, ⟨Lc94, hQ94, l94, y94, z94⟩, st94⟩ := X71.virtualBack hx (y := (⟨"com/example/kilit/kilit/source/Location", "equals", "(Ljava/lang/Object;)Z"⟩ : MethodName)) (z := (⟨"com/example/kilit/kilit/source/Location", "equals", "(Ljava/lang/Object;)Z"⟩ : MethodName)) hown (mvT hZ (hw _ (List.mem_of_getElem? (i := 48) rfl))) (mvT hZ (hw _ (List.mem_of_getElem? (i := 49) rfl))) (notFace_of_selects (args := #[]) (mvT hZ (hw _ (List.mem_of_getElem? (i := 51) rfl)))) (mvT hZ (hw _ (List.mem_of_getElem? (i := 51) rfl))) (mvT hZ (hw _ (List.mem_of_getElem? (i := 50) rfl))) (by decide) (backOf (W := 0) (rmEqS l Z a0 hw [] b31 sb19 T71.heap n0 Z71 f74) hZ (hw _ (List.mem_of_getElem? (i := 52) rfl)) (hw _ (List.mem_of_getElem? (i := 33) rfl)) (by decide) (by decide)) q94a q94c (g := (mkF m 216 #[iv u0, iv u1, iv u2, iv u3, iv u4, iv xn1, iv xc0, iv xc1, iv xd0, iv xd1, iv xn2, iv xl1, iv xl2, rv sb19, rv sb23, rv b31, rv b57, iv (((u4.toUInt32 >>> ((8 : Int32) &&& 31).toUInt32).toInt32) &&& (3 : Int32)), .unset, .unset] [(.ref sb19), (.ref b31)])) rfl (by rw [hml]; rfl) (Steps.refl _) (argsL := [(.ref sb19)]) (rest := []) (lenOf pd_3 rfl) rfl (by show 2 * 0 + _ ≤ _; exact Nat.le_of_eq rfl) (hb hby at_216) (fun _ _ => ⟨rfl, rfl, (by decide : 18 + 0 ≤ _), (by decide : 84 + 0 ≤ _)⟩)
        dsimp only [Pt.U, Pt.locs, Pt.cells, Pt.slots] at X94 l94 y94 z94 st94 hQ94
        subst y94 z94
        obtain ⟨rfl, Nq94, eq94⟩ := hQ94
        have N94 : Fr n0 L94 := by rw [l94]; exact Fr.app N71 Nq94
        obtain ⟨fs, hr, hrun, hended, hR1, hR2, hR3, hR4⟩ := Stand.leaveW (s := s) (vm₁ := T71.vm) X94 hS (by rw [eq94]; exact hkq71) (v := some (.int (1 : Int32))) (fun h => by rw [Bd.returns] at h; cases h)
        refine ⟨_, _, S92 _ ?_, hrun, hended, _, _, rfl, ?_, hR1, hR2, hR3, hR4.mono (by decide) (by decide)⟩
        · skip
          show Steps p.tables e below (T71.setTop (mkF m 209 #[iv u0, iv u1, iv u2, iv u3, iv u4, iv xn1, iv xc0, iv xc1, iv xd0, iv xd1, iv xn2, iv xl1, iv xl2, rv sb19, rv sb23, rv b31, rv b57, iv (((u4.toUInt32 >>> ((8 : Int32) &&& 31).toUInt32).toInt32) &&& (3 : Int32)), .unset, .unset] [(.int (2 : Int32)), (.int (((u4.toUInt32 >>> ((8 : Int32) &&& 31).toUInt32).toInt32) &&& (3 : Int32)))])) _
          refine XS.icmpNo X71.here hx rfl (hb hby at_209) rfl (teq hc93).2 ?_
          show Steps p.tables e below (T71.setTop (mkF m 212 #[iv u0, iv u1, iv u2, iv u3, iv u4, iv xn1, iv xc0, iv xc1, iv xd0, iv xd1, iv xn2, iv xl1, iv xl2, rv sb19, rv sb23, rv b31, rv b57, iv (((u4.toUInt32 >>> ((8 : Int32) &&& 31).toUInt32).toInt32) &&& (3 : Int32)), .unset, .unset] [])) _
          refine XS.aload X71.here hx rfl (hb hby at_212) rfl rfl ?_
          show Steps p.tables e below (T71.setTop (mkF m 214 #[iv u0, iv u1, iv u2, iv u3, iv u4, iv xn1, iv xc0, iv xc1, iv xd0, iv xd1, iv xn2, iv xl1, iv xl2, rv sb19, rv sb23, rv b31, rv b57, iv (((u4.toUInt32 >>> ((8 : Int32) &&& 31).toUInt32).toInt32) &&& (3 : Int32)), .unset, .unset] [(.ref b31)])) _
          refine XS.aload X71.here hx rfl (hb hby at_214) rfl rfl ?_
          show Steps p.tables e below (T71.setTop (mkF m 216 #[iv u0, iv u1, iv u2, iv u3, iv u4, iv xn1, iv xc0, iv xc1, iv xd0, iv xd1, iv xn2, iv xl1, iv xl2, rv sb19, rv sb23, rv b31, rv b57, iv (((u4.toUInt32 >>> ((8 : Int32) &&& 31).toUInt32).toInt32) &&& (3 : Int32)), .unset, .unset] [(.ref sb19), (.ref b31)])) _
          refine st94.trans ?_
          show Steps p.tables e below (T94.setTop (mkF m 219 #[iv u0, iv u1, iv u2, iv u3, iv u4, iv xn1, iv xc0, iv xc1, iv xd0, iv xd1, iv xn2, iv xl1, iv xl2, rv sb19, rv sb23, rv b31, rv b57, iv (((u4.toUInt32 >>> ((8 : Int32) &&& 31).toUInt32).toInt32) &&& (3 : Int32)), .unset, .unset] [(.int (0 : Int32))])) _
          refine XS.ifNo X94.here hx rfl (hb hby at_219) rfl ((if0 _ _).trans (teq (by decide : (0 : Int32) = (0 : Int32))).2) ?_
          show Steps p.tables e below (T94.setTop (mkF m 222 #[iv u0, iv u1, iv u2, iv u3, iv u4, iv xn1, iv xc0, iv xc1, iv xd0, iv xd1, iv xn2, iv xl1, iv xl2, rv sb19, rv sb23, rv b31, rv b57, iv (((u4.toUInt32 >>> ((8 : Int32) &&& 31).toUInt32).toInt32) &&& (3 : Int32)), .unset, .unset] [])) _
          refine XS.iconst X94.here hx rfl (hb hby at_222) ?_
          show Steps p.tables e below (T94.setTop (mkF m 223 #[iv u0, iv u1, iv u2, iv u3, iv u4, iv xn1, iv xc0, iv xc1, iv xd0, iv xd1, iv xn2, iv xl1, iv xl2, rv sb19, rv sb23, rv b31, rv b57, iv (((u4.toUInt32 >>> ((8 : Int32) &&& 31).toUInt32).toInt32) &&& (3 : Int32)), .unset, .unset] [(.int (1 : Int32))])) _
          refine XS.goto X94.here hx rfl (pc0 := 223) (pc' := 227) rfl (hb hby at_223) (by decide) (by decide) ?_
          show Steps p.tables e below (T94.setTop (mkF m 227 #[iv u0, iv u1, iv u2, iv u3, iv u4, iv xn1, iv xc0, iv xc1, iv xd0, iv xd1, iv xn2, iv xl1, iv xl2, rv sb19, rv sb23, rv b31, rv b57, iv (((u4.toUInt32 >>> ((8 : Int32) &&& 31).toUInt32).toInt32) &&& (3 : Int32)), .unset, .unset] [(.int (1 : Int32))])) _
          exact retN X94 hx (t := .boolean) Bd.returns (by simp) (hb hby at_227) hr
        · show Q0 Z u0 u1 u2 u3 u4 G1 h0 n0 _ T94.heap _
          rw [eq94]
          exact ⟨rfl, N94⟩
      · skip
        have S95 : ∀ t, Steps p.tables e below (T71.setTop (mkF m 231 #[iv u0, iv u1, iv u2, iv u3, iv u4, iv xn1, iv xc0, iv xc1, iv xd0, iv xd1, iv xn2, iv xl1, iv xl2, rv sb19, rv sb23, rv b31, rv b57, iv (((u4.toUInt32 >>> ((8 : Int32) &&& 31).toUInt32).toInt32) &&& (3 : Int32)), .unset, .unset] [(.int (3 : Int32)), (.int (((u4.toUInt32 >>> ((8 : Int32) &&& 31).toUInt32).toInt32) &&& (3 : Int32)))])) t → Steps p.tables e below (s₁.setTop (entryFrame m #[(.int u0), (.int u1), (.int u2), (.int u3), (.int u4)] maxLocals)) t := by
          intro t k
          refine S92 t ?_
          show Steps p.tables e below (T71.setTop (mkF m 209 #[iv u0, iv u1, iv u2, iv u3, iv u4, iv xn1, iv xc0, iv xc1, iv xd0, iv xd1, iv xn2, iv xl1, iv xl2, rv sb19, rv sb23, rv b31, rv b57, iv (((u4.toUInt32 >>> ((8 : Int32) &&& 31).toUInt32).toInt32) &&& (3 : Int32)), .unset, .unset] [(.int (2 : Int32)), (.int (((u4.toUInt32 >>> ((8 : Int32) &&& 31).toUInt32).toInt32) &&& (3 : Int32)))])) _
          refine XS.icmpYes X71.here hx rfl (pc0 := 209) (pc' := 228) rfl (hb hby at_209) rfl (feq hc93).2 (by decide) (by decide) ?_
          show Steps p.tables e below (T71.setTop (mkF m 228 #[iv u0, iv u1, iv u2, iv u3, iv u4, iv xn1, iv xc0, iv xc1, iv xd0, iv xd1, iv xn2, iv xl1, iv xl2, rv sb19, rv sb23, rv b31, rv b57, iv (((u4.toUInt32 >>> ((8 : Int32) &&& 31).toUInt32).toInt32) &&& (3 : Int32)), .unset, .unset] [])) _
          refine XS.iload X71.here hx rfl (hb hby at_228) rfl ?_
          show Steps p.tables e below (T71.setTop (mkF m 230 #[iv u0, iv u1, iv u2, iv u3, iv u4, iv xn1, iv xc0, iv xc1, iv xd0, iv xd1, iv xn2, iv xl1, iv xl2, rv sb19, rv sb23, rv b31, rv b57, iv (((u4.toUInt32 >>> ((8 : Int32) &&& 31).toUInt32).toInt32) &&& (3 : Int32)), .unset, .unset] [(.int (((u4.toUInt32 >>> ((8 : Int32) &&& 31).toUInt32).toInt32) &&& (3 : Int32)))])) _
          refine XS.iconst X71.here hx rfl (hb hby at_230) ?_
          exact k
        by_cases hc96 : (((u4.toUInt32 >>> ((8 : Int32) &&& 31).toUInt32).toInt32) &&& (3 : Int32)) = (3 : Int32)
        · skip
          obtain ⟨cq97, kq97, q97a, q97b, q97c⟩ := isOf hZ rfl f82
          obtain ⟨_, _, ⟨T97, L97, k97, n97⟩, -, X97, ⟨Lc97, hQ97, l97, y97, z97⟩, st97⟩ := X71.virtualBack hx (y := (⟨"com/example/kilit/kilit/source/Location", "equals", "(Ljava/lang/Object;)Z"⟩ : MethodName)) (z := (⟨"com/example/kilit/kilit/source/Location", "equals", "(Ljava/lang/Object;)Z"⟩ : MethodName)) hown (mvT hZ (hw _ (List.mem_of_getElem? (i := 48) rfl))) (mvT hZ (hw _ (List.mem_of_getElem? (i := 49) rfl))) (notFace_of_selects (args := #[]) (mvT hZ (hw _ (List.mem_of_getElem? (i := 51) rfl)))) (mvT hZ (hw _ (List.mem_of_getElem? (i := 51) rfl))) (mvT hZ (hw _ (List.mem_of_getElem? (i := 50) rfl))) (by decide) (backOf (W := 0) (rmEq l Z a0 hw [] b31 b31 sb19 sb19 (own_mk xn1 xc0 xc1) (own_mk xn1 xc0 xc1) xl1 xl1 G1 T71.heap n0 Z71 Od73 O2 P3 f82 f83 f84 f83 f84 ⟨_, _, _, _, f74, f75, f76, f77, cod19⟩ ⟨_, _, _, _, f74, f75, f76, f77, cod19⟩ (own_mk_ch h_xc0 h_xc1) (own_mk_ch h_xc0 h_xc1) own_mk_len own_mk_len) hZ (hw _ (List.mem_of_getElem? (i := 52) rfl)) (hw _ (List.mem_of_getElem? (i := 33) rfl)) (by decide) (by decide)) q97a q97c (g := (mkF m 238 #[iv u0, iv u1, iv u2, iv u3, iv u4, iv xn1, iv xc0, iv xc1, iv xd0, iv xd1, iv xn2, iv xl1, iv xl2, rv sb19, rv sb23, rv b31, rv b57, iv (((u4.toUInt32 >>> ((8 : Int32) &&& 31).toUInt32).toInt32) &&& (3 : Int32)), .unset, .unset] [(.ref b31), (.ref b31)])) rfl (by rw [hml]; rfl) (Steps.refl _) (argsL := [(.ref b31)]) (rest := []) (lenOf pd_3 rfl) rfl (by show 2 * 0 + _ ≤ _; exact Nat.le_of_eq rfl) (hb hby at_238) (fun _ _ => ⟨rfl, rfl, (by decide : 18 + 0 ≤ _), (by decide : 84 + 0 ≤ _)⟩)
          dsimp only [Pt.U, Pt.locs, Pt.cells, Pt.slots] at X97 l97 y97 z97 st97 hQ97
          subst y97 z97
          obtain ⟨rfl, Nq97, eq97⟩ := hQ97
          have N97 : Fr n0 L97 := by rw [l97]; exact Fr.app N71 Nq97
          have S98 : ∀ t, Steps p.tables e below (T97.setTop (mkF m 241 #[iv u0, iv u1, iv u2, iv u3, iv u4, iv xn1, iv xc0, iv xc1, iv xd0, iv xd1, iv xn2, iv xl1, iv xl2, rv sb19, rv sb23, rv b31, rv b57, iv (((u4.toUInt32 >>> ((8 : Int32) &&& 31).toUInt32).toInt32) &&& (3 : Int32)), .unset, .unset] [(.int (own_leq (own_mk xn1 xc0 xc1) (own_mk xn1 xc0 xc1) xl1 xl1))])) t → Steps p.tables e below (s₁.setTop (entryFrame m #[(.int u0), (.int u1), (.int u2), (.int u3), (.int u4)] maxLocals)) t := by
            intro t k
            refine S95 t ?_
            show Steps p.tables e below (T71.setTop (mkF m 231 #[iv u0, iv u1, iv u2, iv u3, iv u4, iv xn1, iv xc0, iv xc1, iv xd0, iv xd1, iv xn2, iv xl1, iv xl2, rv sb19, rv sb23, rv b31, rv b57, iv (((u4.toUInt32 >>> ((8 : Int32) &&& 31).toUInt32).toInt32) &&& (3 : Int32)), .unset, .unset] [(.int (3 : Int32)), (.int (((u4.toUInt32 >>> ((8 : Int32) &&& 31).toUInt32).toInt32) &&& (3 : Int32)))])) _
            refine XS.icmpNo X71.here hx rfl (hb hby at_231) rfl (teq hc96).2 ?_
            show Steps p.tables e below (T71.setTop (mkF m 234 #[iv u0, iv u1, iv u2, iv u3, iv u4, iv xn1, iv xc0, iv xc1, iv xd0, iv xd1, iv xn2, iv xl1, iv xl2, rv sb19, rv sb23, rv b31, rv b57, iv (((u4.toUInt32 >>> ((8 : Int32) &&& 31).toUInt32).toInt32) &&& (3 : Int32)), .unset, .unset] [])) _
            refine XS.aload X71.here hx rfl (hb hby at_234) rfl rfl ?_
            show Steps p.tables e below (T71.setTop (mkF m 236 #[iv u0, iv u1, iv u2, iv u3, iv u4, iv xn1, iv xc0, iv xc1, iv xd0, iv xd1, iv xn2, iv xl1, iv xl2, rv sb19, rv sb23, rv b31, rv b57, iv (((u4.toUInt32 >>> ((8 : Int32) &&& 31).toUInt32).toInt32) &&& (3 : Int32)), .unset, .unset] [(.ref b31)])) _
            refine XS.aload X71.here hx rfl (hb hby at_236) rfl rfl ?_
            show Steps p.tables e below (T71.setTop (mkF m 238 #[iv u0, iv u1, iv u2, iv u3, iv u4, iv xn1, iv xc0, iv xc1, iv xd0, iv xd1, iv xn2, iv xl1, iv xl2, rv sb19, rv sb23, rv b31, rv b57, iv (((u4.toUInt32 >>> ((8 : Int32) &&& 31).toUInt32).toInt32) &&& (3 : Int32)), .unset, .unset] [(.ref b31), (.ref b31)])) _
            refine st97.trans ?_
            exact k
          rw [own_leq_refl] at S98
          obtain ⟨fs, hr, hrun, hended, hR1, hR2, hR3, hR4⟩ := Stand.leaveW (s := s) (vm₁ := T71.vm) X97 hS (by rw [eq97]; exact hkq71) (v := some (.int (1 : Int32))) (fun h => by rw [Bd.returns] at h; cases h)
          refine ⟨_, _, S98 _ ?_, hrun, hended, _, _, rfl, ?_, hR1, hR2, hR3, hR4.mono (by decide) (by decide)⟩
          · skip
            show Steps p.tables e below (T97.setTop (mkF m 241 #[iv u0, iv u1, iv u2, iv u3, iv u4, iv xn1, iv xc0, iv xc1, iv xd0, iv xd1, iv xn2, iv xl1, iv xl2, rv sb19, rv sb23, rv b31, rv b57, iv (((u4.toUInt32 >>> ((8 : Int32) &&& 31).toUInt32).toInt32) &&& (3 : Int32)), .unset, .unset] [(.int (1 : Int32))])) _
            exact retN X97 hx (t := .boolean) Bd.returns (by simp) (hb hby at_241) hr
          · show Q0 Z u0 u1 u2 u3 u4 G1 h0 n0 _ T97.heap _
            rw [eq97]
            exact ⟨rfl, N97⟩
        · skip
          have S99 : ∀ t, Steps p.tables e below (T71.setTop (mkF m 246 #[iv u0, iv u1, iv u2, iv u3, iv u4, iv xn1, iv xc0, iv xc1, iv xd0, iv xd1, iv xn2, iv xl1, iv xl2, rv sb19, rv sb23, rv b31, rv b57, iv (((u4.toUInt32 >>> ((8 : Int32) &&& 31).toUInt32).toInt32) &&& (3 : Int32)), .unset, .unset] [(.int xn2), (.int xn1)])) t → Steps p.tables e below (s₁.setTop (entryFrame m #[(.int u0), (.int u1), (.int u2), (.int u3), (.int u4)] maxLocals)) t := by
            intro t k
            refine S95 t ?_
            show Steps p.tables e below (T71.setTop (mkF m 231 #[iv u0, iv u1, iv u2, iv u3, iv u4, iv xn1, iv xc0, iv xc1, iv xd0, iv xd1, iv xn2, iv xl1, iv xl2, rv sb19, rv sb23, rv b31, rv b57, iv (((u4.toUInt32 >>> ((8 : Int32) &&& 31).toUInt32).toInt32) &&& (3 : Int32)), .unset, .unset] [(.int (3 : Int32)), (.int (((u4.toUInt32 >>> ((8 : Int32) &&& 31).toUInt32).toInt32) &&& (3 : Int32)))])) _
            refine XS.icmpYes X71.here hx rfl (pc0 := 231) (pc' := 242) rfl (hb hby at_231) rfl (feq hc96).2 (by decide) (by decide) ?_
            show Steps p.tables e below (T71.setTop (mkF m 242 #[iv u0, iv u1, iv u2, iv u3, iv u4, iv xn1, iv xc0, iv xc1, iv xd0, iv xd1, iv xn2, iv xl1, iv xl2, rv sb19, rv sb23, rv b31, rv b57, iv (((u4.toUInt32 >>> ((8 : Int32) &&& 31).toUInt32).toInt32) &&& (3 : Int32)), .unset, .unset] [])) _
            refine XS.iload X71.here hx rfl (hb hby at_242) rfl ?_
            show Steps p.tables e below (T71.setTop (mkF m 244 #[iv u0, iv u1, iv u2, iv u3, iv u4, iv xn1, iv xc0, iv xc1, iv xd0, iv xd1, iv xn2, iv xl1, iv xl2, rv sb19, rv sb23, rv b31, rv b57, iv (((u4.toUInt32 >>> ((8 : Int32) &&& 31).toUInt32).toInt32) &&& (3 : Int32)), .unset, .unset] [(.int xn1)])) _
            refine XS.iload X71.here hx rfl (hb hby at_244) rfl ?_
            exact k
          obtain ⟨xsf, e_xsf⟩ : ∃ z : Int32, z = (if xn1 = xn2 then (if xn1 < (1 : Int32) then (if xn1 < (2 : Int32) then (1 : Int32) else (if xc1 = xd1 then (1 : Int32) else (0 : Int32))) else (if xc0 = xd0 then (if xn1 < (2 : Int32) then (1 : Int32) else (if xc1 = xd1 then (1 : Int32) else (0 : Int32))) else (0 : Int32))) else (0 : Int32)) := ⟨_, rfl⟩
          have S107 : ∀ t, Steps p.tables e below (T71.setTop (mkF m 280 #[iv u0, iv u1, iv u2, iv u3, iv u4, iv xn1, iv xc0, iv xc1, iv xd0, iv xd1, iv xn2, iv xl1, iv xl2, rv sb19, rv sb23, rv b31, rv b57, iv (((u4.toUInt32 >>> ((8 : Int32) &&& 31).toUInt32).toInt32) &&& (3 : Int32)), .unset, .unset] [(.int xsf)])) t → Steps p.tables e below (s₁.setTop (entryFrame m #[(.int u0), (.int u1), (.int u2), (.int u3), (.int u4)] maxLocals)) t := by
            intro t k
            refine S99 t ?_
            by_cases hd100 : xn1 = xn2
            · skip
              by_cases hd101 : xn1 < (1 : Int32)
              · skip
                by_cases hd102 : xn1 < (2 : Int32)
                · skip
                  rw [show xsf = (1 : Int32) from by rw [e_xsf, if_pos hd100, if_pos hd101, if_pos hd102]] at k
                  show Steps p.tables e below (T71.setTop (mkF m 246 #[iv u0, iv u1, iv u2, iv u3, iv u4, iv xn1, iv xc0, iv xc1, iv xd0, iv xd1, iv xn2, iv xl1, iv xl2, rv sb19, rv sb23, rv b31, rv b57, iv (((u4.toUInt32 >>> ((8 : Int32) &&& 31).toUInt32).toInt32) &&& (3 : Int32)), .unset, .unset] [(.int xn2), (.int xn1)])) _
                  refine XS.icmpNo X71.here hx rfl (hb hby at_246) rfl (teq hd100).2 ?_
                  show Steps p.tables e below (T71.setTop (mkF m 249 #[iv u0, iv u1, iv u2, iv u3, iv u4, iv xn1, iv xc0, iv xc1, iv xd0, iv xd1, iv xn2, iv xl1, iv xl2, rv sb19, rv sb23, rv b31, rv b57, iv (((u4.toUInt32 >>> ((8 : Int32) &&& 31).toUInt32).toInt32) &&& (3 : Int32)), .unset, .unset] [])) _
                  refine XS.iload X71.here hx rfl (hb hby at_249) rfl ?_
                  show Steps p.tables e below (T71.setTop (mkF m 251 #[iv u0, iv u1, iv u2, iv u3, iv u4, iv xn1, iv xc0, iv xc1, iv xd0, iv xd1, iv xn2, iv xl1, iv xl2, rv sb19, rv sb23, rv b31, rv b57, iv (((u4.toUInt32 >>> ((8 : Int32) &&& 31).toUInt32).toInt32) &&& (3 : Int32)), .unset, .unset] [(.int xn1)])) _
                  refine XS.iconst X71.here hx rfl (hb hby at_251) ?_
                  show Steps p.tables e below (T71.setTop (mkF m 252 #[iv u0, iv u1, iv u2, iv u3, iv u4, iv xn1, iv xc0, iv xc1, iv xd0, iv xd1, iv xn2, iv xl1, iv xl2, rv sb19, rv sb23, rv b31, rv b57, iv (((u4.toUInt32 >>> ((8 : Int32) &&& 31).toUInt32).toInt32) &&& (3 : Int32)), .unset, .unset] [(.int (1 : Int32)), (.int xn1)])) _
                  refine XS.icmpYes X71.here hx rfl (pc0 := 252) (pc' := 262) rfl (hb hby at_252) rfl (tlt hd101).1 (by decide) (by decide) ?_
                  show Steps p.tables e below (T71.setTop (mkF m 262 #[iv u0, iv u1, iv u2, iv u3, iv u4, iv xn1, iv xc0, iv xc1, iv xd0, iv xd1, iv xn2, iv xl1, iv xl2, rv sb19, rv sb23, rv b31, rv b57, iv (((u4.toUInt32 >>> ((8 : Int32) &&& 31).toUInt32).toInt32) &&& (3 : Int32)), .unset, .unset] [])) _
                  refine XS.iload X71.here hx rfl (hb hby at_262) rfl ?_
                  show Steps p.tables e below (T71.setTop (mkF m 264 #[iv u0, iv u1, iv u2, iv u3, iv u4, iv xn1, iv xc0, iv xc1, iv xd0, iv xd1, iv xn2, iv xl1, iv xl2, rv sb19, rv sb23, rv b31, rv b57, iv (((u4.toUInt32 >>> ((8 : Int32) &&& 31).toUInt32).toInt32) &&& (3 : Int32)), .unset, .unset] [(.int xn1)])) _
                  refine XS.iconst X71.here hx rfl (hb hby at_264) ?_
                  show Steps p.tables e below (T71.setTop (mkF m 265 #[iv u0, iv u1, iv u2, iv u3, iv u4, iv xn1, iv xc0, iv xc1, iv xd0, iv xd1, iv xn2, iv xl1, iv xl2, rv sb19, rv sb23, rv b31, rv b57, iv (((u4.toUInt32 >>> ((8 : Int32) &&& 31).toUInt32).toInt32) &&& (3 : Int32)), .unset, .unset] [(.int (2 : Int32)), (.int xn1)])) _
                  refine XS.icmpYes X71.here hx rfl (pc0 := 265) (pc' := 275) rfl (hb hby at_265) rfl (tlt hd102).1 (by decide) (by decide) ?_
                  show Steps p.tables e below (T71.setTop (mkF m 275 #[iv u0, iv u1, iv u2, iv u3, iv u4, iv xn1, iv xc0, iv xc1, iv xd0, iv xd1, iv xn2, iv xl1, iv xl2, rv sb19, rv sb23, rv b31, rv b57, iv (((u4.toUInt32 >>> ((8 : Int32) &&& 31).toUInt32).toInt32) &&& (3 : Int32)), .unset, .unset] [])) _
                  refine XS.iconst X71.here hx rfl (hb hby at_275) ?_
                  show Steps p.tables e below (T71.setTop (mkF m 276 #[iv u0, iv u1, iv u2, iv u3, iv u4, iv xn1, iv xc0, iv xc1, iv xd0, iv xd1, iv xn2, iv xl1, iv xl2, rv sb19, rv sb23, rv b31, rv b57, iv (((u4.toUInt32 >>> ((8 : Int32) &&& 31).toUInt32).toInt32) &&& (3 : Int32)), .unset, .unset] [(.int (1 : Int32))])) _
                  refine XS.goto X71.here hx rfl (pc0 := 276) (pc' := 280) rfl (hb hby at_276) (by decide) (by decide) ?_
                  exact k
                · skip
                  by_cases hd103 : xc1 = xd1
                  · skip
                    rw [show xsf = (1 : Int32) from by rw [e_xsf, if_pos hd100, if_pos hd101, if_neg hd102, if_pos hd103]] at k
                    show Steps p.tables e below (T71.setTop (mkF m 246 #[iv u0, iv u1, iv u2, iv u3, iv u4, iv xn1, iv xc0, iv xc1, iv xd0, iv xd1, iv xn2, iv xl1, iv xl2, rv sb19, rv sb23, rv b31, rv b57, iv (((u4.toUInt32 >>> ((8 : Int32) &&& 31).toUInt32).toInt32) &&& (3 : Int32)), .unset, .unset] [(.int xn2), (.int xn1)])) _
                    refine XS.icmpNo X71.here hx rfl (hb hby at_246) rfl (teq hd100).2 ?_
                    show Steps p.tables e below (T71.setTop (mkF m 249 #[iv u0, iv u1, iv u2, iv u3, iv u4, iv xn1, iv xc0, iv xc1, iv xd0, iv xd1, iv xn2, iv xl1, iv xl2, rv sb19, rv sb23, rv b31, rv b57, iv (((u4.toUInt32 >>> ((8 : Int32) &&& 31).toUInt32).toInt32) &&& (3 : Int32)), .unset, .unset] [])) _
                    refine XS.iload X71.here hx rfl (hb hby at_249) rfl ?_
                    show Steps p.tables e below (T71.setTop (mkF m 251 #[iv u0, iv u1, iv u2, iv u3, iv u4, iv xn1, iv xc0, iv xc1, iv xd0, iv xd1, iv xn2, iv xl1, iv xl2, rv sb19, rv sb23, rv b31, rv b57, iv (((u4.toUInt32 >>> ((8 : Int32) &&& 31).toUInt32).toInt32) &&& (3 : Int32)), .unset, .unset] [(.int xn1)])) _
                    refine XS.iconst X71.here hx rfl (hb hby at_251) ?_
                    show Steps p.tables e below (T71.setTop (mkF m 252 #[iv u0, iv u1, iv u2, iv u3, iv u4, iv xn1, iv xc0, iv xc1, iv xd0, iv xd1, iv xn2, iv xl1, iv xl2, rv sb19, rv sb23, rv b31, rv b57, iv (((u4.toUInt32 >>> ((8 : Int32) &&& 31).toUInt32).toInt32) &&& (3 : Int32)), .unset, .unset] [(.int (1 : Int32)), (.int xn1)])) _
                    refine XS.icmpYes X71.here hx rfl (pc0 := 252) (pc' := 262) rfl (hb hby at_252) rfl (tlt hd101).1 (by decide) (by decide) ?_
                    show Steps p.tables e below (T71.setTop (mkF m 262 #[iv u0, iv u1, iv u2, iv u3, iv u4, iv xn1, iv xc0, iv xc1, iv xd0, iv xd1, iv xn2, iv xl1, iv xl2, rv sb19, rv sb23, rv b31, rv b57, iv (((u4.toUInt32 >>> ((8 : Int32) &&& 31).toUInt32).toInt32) &&& (3 : Int32)), .unset, .unset] [])) _
                    refine XS.iload X71.here hx rfl (hb hby at_262) rfl ?_
                    show Steps p.tables e below (T71.setTop (mkF m 264 #[iv u0, iv u1, iv u2, iv u3, iv u4, iv xn1, iv xc0, iv xc1, iv xd0, iv xd1, iv xn2, iv xl1, iv xl2, rv sb19, rv sb23, rv b31, rv b57, iv (((u4.toUInt32 >>> ((8 : Int32) &&& 31).toUInt32).toInt32) &&& (3 : Int32)), .unset, .unset] [(.int xn1)])) _
                    refine XS.iconst X71.here hx rfl (hb hby at_264) ?_
                    show Steps p.tables e below (T71.setTop (mkF m 265 #[iv u0, iv u1, iv u2, iv u3, iv u4, iv xn1, iv xc0, iv xc1, iv xd0, iv xd1, iv xn2, iv xl1, iv xl2, rv sb19, rv sb23, rv b31, rv b57, iv (((u4.toUInt32 >>> ((8 : Int32) &&& 31).toUInt32).toInt32) &&& (3 : Int32)), .unset, .unset] [(.int (2 : Int32)), (.int xn1)])) _
                    refine XS.icmpNo X71.here hx rfl (hb hby at_265) rfl (flt hd102).1 ?_
                    show Steps p.tables e below (T71.setTop (mkF m 268 #[iv u0, iv u1, iv u2, iv u3, iv u4, iv xn1, iv xc0, iv xc1, iv xd0, iv xd1, iv xn2, iv xl1, iv xl2, rv sb19, rv sb23, rv b31, rv b57, iv (((u4.toUInt32 >>> ((8 : Int32) &&& 31).toUInt32).toInt32) &&& (3 : Int32)), .unset, .unset] [])) _
                    refine XS.iload X71.here hx rfl (hb hby at_268) rfl ?_
                    show Steps p.tables e below (T71.setTop (mkF m 270 #[iv u0, iv u1, iv u2, iv u3, iv u4, iv xn1, iv xc0, iv xc1, iv xd0, iv xd1, iv xn2, iv xl1, iv xl2, rv sb19, rv sb23, rv b31, rv b57, iv (((u4.toUInt32 >>> ((8 : Int32) &&& 31).toUInt32).toInt32) &&& (3 : Int32)), .unset, .unset] [(.int xc1)])) _
                    refine XS.iload X71.here hx rfl (hb hby at_270) rfl ?_
                    show Steps p.tables e below (T71.setTop (mkF m 272 #[iv u0, iv u1, iv u2, iv u3, iv u4, iv xn1, iv xc0, iv xc1, iv xd0, iv xd1, iv xn2, iv xl1, iv xl2, rv sb19, rv sb23, rv b31, rv b57, iv (((u4.toUInt32 >>> ((8 : Int32) &&& 31).toUInt32).toInt32) &&& (3 : Int32)), .unset, .unset] [(.int xd1), (.int xc1)])) _
                    refine XS.icmpNo X71.here hx rfl (hb hby at_272) rfl (teq hd103).2 ?_
                    show Steps p.tables e below (T71.setTop (mkF m 275 #[iv u0, iv u1, iv u2, iv u3, iv u4, iv xn1, iv xc0, iv xc1, iv xd0, iv xd1, iv xn2, iv xl1, iv xl2, rv sb19, rv sb23, rv b31, rv b57, iv (((u4.toUInt32 >>> ((8 : Int32) &&& 31).toUInt32).toInt32) &&& (3 : Int32)), .unset, .unset] [])) _
                    refine XS.iconst X71.here hx rfl (hb hby at_275) ?_
                    show Steps p.tables e below (T71.setTop (mkF m 276 #[iv u0, iv u1, iv u2, iv u3, iv u4, iv xn1, iv xc0, iv xc1, iv xd0, iv xd1, iv xn2, iv xl1, iv xl2, rv sb19, rv sb23, rv b31, rv b57, iv (((u4.toUInt32 >>> ((8 : Int32) &&& 31).toUInt32).toInt32) &&& (3 : Int32)), .unset, .unset] [(.int (1 : Int32))])) _
                    refine XS.goto X71.here hx rfl (pc0 := 276) (pc' := 280) rfl (hb hby at_276) (by decide) (by decide) ?_
                    exact k
                  · skip
                    rw [show xsf = (0 : Int32) from by rw [e_xsf, if_pos hd100, if_pos hd101, if_neg hd102, if_neg hd103]] at k
                    show Steps p.tables e below (T71.setTop (mkF m 246 #[iv u0, iv u1, iv u2, iv u3, iv u4, iv xn1, iv xc0, iv xc1, iv xd0, iv xd1, iv xn2, iv xl1, iv xl2, rv sb19, rv sb23, rv b31, rv b57, iv (((u4.toUInt32 >>> ((8 : Int32) &&& 31).toUInt32).toInt32) &&& (3 : Int32)), .unset, .unset] [(.int xn2), (.int xn1)])) _
                    refine XS.icmpNo X71.here hx rfl (hb hby at_246) rfl (teq hd100).2 ?_
                    show Steps p.tables e below (T71.setTop (mkF m 249 #[iv u0, iv u1, iv u2, iv u3, iv u4, iv xn1, iv xc0, iv xc1, iv xd0, iv xd1, iv xn2, iv xl1, iv xl2, rv sb19, rv sb23, rv b31, rv b57, iv (((u4.toUInt32 >>> ((8 : Int32) &&& 31).toUInt32).toInt32) &&& (3 : Int32)), .unset, .unset] [])) _
                    refine XS.iload X71.here hx rfl (hb hby at_249) rfl ?_
                    show Steps p.tables e below (T71.setTop (mkF m 251 #[iv u0, iv u1, iv u2, iv u3, iv u4, iv xn1, iv xc0, iv xc1, iv xd0, iv xd1, iv xn2, iv xl1, iv xl2, rv sb19, rv sb23, rv b31, rv b57, iv (((u4.toUInt32 >>> ((8 : Int32) &&& 31).toUInt32).toInt32) &&& (3 : Int32)), .unset, .unset] [(.int xn1)])) _
                    refine XS.iconst X71.here hx rfl (hb hby at_251) ?_
                    show Steps p.tables e below (T71.setTop (mkF m 252 #[iv u0, iv u1, iv u2, iv u3, iv u4, iv xn1, iv xc0, iv xc1, iv xd0, iv xd1, iv xn2, iv xl1, iv xl2, rv sb19, rv sb23, rv b31, rv b57, iv (((u4.toUInt32 >>> ((8 : Int32) &&& 31).toUInt32).toInt32) &&& (3 : Int32)), .unset, .unset] [(.int (1 : Int32)), (.int xn1)])) _
                    refine XS.icmpYes X71.here hx rfl (pc0 := 252) (pc' := 262) rfl (hb hby at_252) rfl (tlt hd101).1 (by decide) (by decide) ?_
                    show Steps p.tables e below (T71.setTop (mkF m 262 #[iv u0, iv u1, iv u2, iv u3, iv u4, iv xn1, iv xc0, iv xc1, iv xd0, iv xd1, iv xn2, iv xl1, iv xl2, rv sb19, rv sb23, rv b31, rv b57, iv (((u4.toUInt32 >>> ((8 : Int32) &&& 31).toUInt32).toInt32) &&& (3 : Int32)), .unset, .unset] [])) _
                    refine XS.iload X71.here hx rfl (hb hby at_262) rfl ?_
                    show Steps p.tables e below (T71.setTop (mkF m 264 #[iv u0, iv u1, iv u2, iv u3, iv u4, iv xn1, iv xc0, iv xc1, iv xd0, iv xd1, iv xn2, iv xl1, iv xl2, rv sb19, rv sb23, rv b31, rv b57, iv (((u4.toUInt32 >>> ((8 : Int32) &&& 31).toUInt32).toInt32) &&& (3 : Int32)), .unset, .unset] [(.int xn1)])) _
                    refine XS.iconst X71.here hx rfl (hb hby at_264) ?_
                    show Steps p.tables e below (T71.setTop (mkF m 265 #[iv u0, iv u1, iv u2, iv u3, iv u4, iv xn1, iv xc0, iv xc1, iv xd0, iv xd1, iv xn2, iv xl1, iv xl2, rv sb19, rv sb23, rv b31, rv b57, iv (((u4.toUInt32 >>> ((8 : Int32) &&& 31).toUInt32).toInt32) &&& (3 : Int32)), .unset, .unset] [(.int (2 : Int32)), (.int xn1)])) _
                    refine XS.icmpNo X71.here hx rfl (hb hby at_265) rfl (flt hd102).1 ?_
                    show Steps p.tables e below (T71.setTop (mkF m 268 #[iv u0, iv u1, iv u2, iv u3, iv u4, iv xn1, iv xc0, iv xc1, iv xd0, iv xd1, iv xn2, iv xl1, iv xl2, rv sb19, rv sb23, rv b31, rv b57, iv (((u4.toUInt32 >>> ((8 : Int32) &&& 31).toUInt32).toInt32) &&& (3 : Int32)), .unset, .unset] [])) _
                    refine XS.iload X71.here hx rfl (hb hby at_268) rfl ?_
                    show Steps p.tables e below (T71.setTop (mkF m 270 #[iv u0, iv u1, iv u2, iv u3, iv u4, iv xn1, iv xc0, iv xc1, iv xd0, iv xd1, iv xn2, iv xl1, iv xl2, rv sb19, rv sb23, rv b31, rv b57, iv (((u4.toUInt32 >>> ((8 : Int32) &&& 31).toUInt32).toInt32) &&& (3 : Int32)), .unset, .unset] [(.int xc1)])) _
                    refine XS.iload X71.here hx rfl (hb hby at_270) rfl ?_
                    show Steps p.tables e below (T71.setTop (mkF m 272 #[iv u0, iv u1, iv u2, iv u3, iv u4, iv xn1, iv xc0, iv xc1, iv xd0, iv xd1, iv xn2, iv xl1, iv xl2, rv sb19, rv sb23, rv b31, rv b57, iv (((u4.toUInt32 >>> ((8 : Int32) &&& 31).toUInt32).toInt32) &&& (3 : Int32)), .unset, .unset] [(.int xd1), (.int xc1)])) _
                    refine XS.icmpYes X71.here hx rfl (pc0 := 272) (pc' := 279) rfl (hb hby at_272) rfl (feq hd103).2 (by decide) (by decide) ?_
                    show Steps p.tables e below (T71.setTop (mkF m 279 #[iv u0, iv u1, iv u2, iv u3, iv u4, iv xn1, iv xc0, iv xc1, iv xd0, iv xd1, iv xn2, iv xl1, iv xl2, rv sb19, rv sb23, rv b31, rv b57, iv (((u4.toUInt32 >>> ((8 : Int32) &&& 31).toUInt32).toInt32) &&& (3 : Int32)), .unset, .unset] [])) _
                    refine XS.iconst X71.here hx rfl (hb hby at_279) ?_
                    exact k
              · skip
                by_cases hd104 : xc0 = xd0
                · skip
                  by_cases hd105 : xn1 < (2 : Int32)
                  · skip
                    rw [show xsf = (1 : Int32) from by rw [e_xsf, if_pos hd100, if_neg hd101, if_pos hd104, if_pos hd105]] at k
                    show Steps p.tables e below (T71.setTop (mkF m 246 #[iv u0, iv u1, iv u2, iv u3, iv u4, iv xn1, iv xc0, iv xc1, iv xd0, iv xd1, iv xn2, iv xl1, iv xl2, rv sb19, rv sb23, rv b31, rv b57, iv (((u4.toUInt32 >>> ((8 : Int32) &&& 31).toUInt32).toInt32) &&& (3 : Int32)), .unset, .unset] [(.int xn2), (.int xn1)])) _
                    refine XS.icmpNo X71.here hx rfl (hb hby at_246) rfl (teq hd100).2 ?_
                    show Steps p.tables e below (T71.setTop (mkF m 249 #[iv u0, iv u1, iv u2, iv u3, iv u4, iv xn1, iv xc0, iv xc1, iv xd0, iv xd1, iv xn2, iv xl1, iv xl2, rv sb19, rv sb23, rv b31, rv b57, iv (((u4.toUInt32 >>> ((8 : Int32) &&& 31).toUInt32).toInt32) &&& (3 : Int32)), .unset, .unset] [])) _
                    refine XS.iload X71.here hx rfl (hb hby at_249) rfl ?_
                    show Steps p.tables e below (T71.setTop (mkF m 251 #[iv u0, iv u1, iv u2, iv u3, iv u4, iv xn1, iv xc0, iv xc1, iv xd0, iv xd1, iv xn2, iv xl1, iv xl2, rv sb19, rv sb23, rv b31, rv b57, iv (((u4.toUInt32 >>> ((8 : Int32) &&& 31).toUInt32).toInt32) &&& (3 : Int32)), .unset, .unset] [(.int xn1)])) _
                    refine XS.iconst X71.here hx rfl (hb hby at_251) ?_
                    show Steps p.tables e below (T71.setTop (mkF m 252 #[iv u0, iv u1, iv u2, iv u3, iv u4, iv xn1, iv xc0, iv xc1, iv xd0, iv xd1, iv xn2, iv xl1, iv xl2, rv sb19, rv sb23, rv b31, rv b57, iv (((u4.toUInt32 >>> ((8 : Int32) &&& 31).toUInt32).toInt32) &&& (3 : Int32)), .unset, .unset] [(.int (1 : Int32)), (.int xn1)])) _
                    refine XS.icmpNo X71.here hx rfl (hb hby at_252) rfl (flt hd101).1 ?_
                    show Steps p.tables e below (T71.setTop (mkF m 255 #[iv u0, iv u1, iv u2, iv u3, iv u4, iv xn1, iv xc0, iv xc1, iv xd0, iv xd1, iv xn2, iv xl1, iv xl2, rv sb19, rv sb23, rv b31, rv b57, iv (((u4.toUInt32 >>> ((8 : Int32) &&& 31).toUInt32).toInt32) &&& (3 : Int32)), .unset, .unset] [])) _
                    refine XS.iload X71.here hx rfl (hb hby at_255) rfl ?_
                    show Steps p.tables e below (T71.setTop (mkF m 257 #[iv u0, iv u1, iv u2, iv u3, iv u4, iv xn1, iv xc0, iv xc1, iv xd0, iv xd1, iv xn2, iv xl1, iv xl2, rv sb19, rv sb23, rv b31, rv b57, iv (((u4.toUInt32 >>> ((8 : Int32) &&& 31).toUInt32).toInt32) &&& (3 : Int32)), .unset, .unset] [(.int xc0)])) _
                    refine XS.iload X71.here hx rfl (hb hby at_257) rfl ?_
                    show Steps p.tables e below (T71.setTop (mkF m 259 #[iv u0, iv u1, iv u2, iv u3, iv u4, iv xn1, iv xc0, iv xc1, iv xd0, iv xd1, iv xn2, iv xl1, iv xl2, rv sb19, rv sb23, rv b31, rv b57, iv (((u4.toUInt32 >>> ((8 : Int32) &&& 31).toUInt32).toInt32) &&& (3 : Int32)), .unset, .unset] [(.int xd0), (.int xc0)])) _
                    refine XS.icmpNo X71.here hx rfl (hb hby at_259) rfl (teq hd104).2 ?_
                    show Steps p.tables e below (T71.setTop (mkF m 262 #[iv u0, iv u1, iv u2, iv u3, iv u4, iv xn1, iv xc0, iv xc1, iv xd0, iv xd1, iv xn2, iv xl1, iv xl2, rv sb19, rv sb23, rv b31, rv b57, iv (((u4.toUInt32 >>> ((8 : Int32) &&& 31).toUInt32).toInt32) &&& (3 : Int32)), .unset, .unset] [])) _
                    refine XS.iload X71.here hx rfl (hb hby at_262) rfl ?_
                    show Steps p.tables e below (T71.setTop (mkF m 264 #[iv u0, iv u1, iv u2, iv u3, iv u4, iv xn1, iv xc0, iv xc1, iv xd0, iv xd1, iv xn2, iv xl1, iv xl2, rv sb19, rv sb23, rv b31, rv b57, iv (((u4.toUInt32 >>> ((8 : Int32) &&& 31).toUInt32).toInt32) &&& (3 : Int32)), .unset, .unset] [(.int xn1)])) _
                    refine XS.iconst X71.here hx rfl (hb hby at_264) ?_
                    show Steps p.tables e below (T71.setTop (mkF m 265 #[iv u0, iv u1, iv u2, iv u3, iv u4, iv xn1, iv xc0, iv xc1, iv xd0, iv xd1, iv xn2, iv xl1, iv xl2, rv sb19, rv sb23, rv b31, rv b57, iv (((u4.toUInt32 >>> ((8 : Int32) &&& 31).toUInt32).toInt32) &&& (3 : Int32)), .unset, .unset] [(.int (2 : Int32)), (.int xn1)])) _
                    refine XS.icmpYes X71.here hx rfl (pc0 := 265) (pc' := 275) rfl (hb hby at_265) rfl (tlt hd105).1 (by decide) (by decide) ?_
                    show Steps p.tables e below (T71.setTop (mkF m 275 #[iv u0, iv u1, iv u2, iv u3, iv u4, iv xn1, iv xc0, iv xc1, iv xd0, iv xd1, iv xn2, iv xl1, iv xl2, rv sb19, rv sb23, rv b31, rv b57, iv (((u4.toUInt32 >>> ((8 : Int32) &&& 31).toUInt32).toInt32) &&& (3 : Int32)), .unset, .unset] [])) _
                    refine XS.iconst X71.here hx rfl (hb hby at_275) ?_
                    show Steps p.tables e below (T71.setTop (mkF m 276 #[iv u0, iv u1, iv u2, iv u3, iv u4, iv xn1, iv xc0, iv xc1, iv xd0, iv xd1, iv xn2, iv xl1, iv xl2, rv sb19, rv sb23, rv b31, rv b57, iv (((u4.toUInt32 >>> ((8 : Int32) &&& 31).toUInt32).toInt32) &&& (3 : Int32)), .unset, .unset] [(.int (1 : Int32))])) _
                    refine XS.goto X71.here hx rfl (pc0 := 276) (pc' := 280) rfl (hb hby at_276) (by decide) (by decide) ?_
                    exact k
                  · skip
                    by_cases hd106 : xc1 = xd1
                    · skip
                      rw [show xsf = (1 : Int32) from by rw [e_xsf, if_pos hd100, if_neg hd101, if_pos hd104, if_neg hd105, if_pos hd106]] at k
                      show Steps p.tables e below (T71.setTop (mkF m 246 #[iv u0, iv u1, iv u2, iv u3, iv u4, iv xn1, iv xc0, iv xc1, iv xd0, iv xd1, iv xn2, iv xl1, iv xl2, rv sb19, rv sb23, rv b31, rv b57, iv (((u4.toUInt32 >>> ((8 : Int32) &&& 31).toUInt32).toInt32) &&& (3 : Int32)), .unset, .unset] [(.int xn2), (.int xn1)])) _
                      refine XS.icmpNo X71.here hx rfl (hb hby at_246) rfl (teq hd100).2 ?_
                      show Steps p.tables e below (T71.setTop (mkF m 249 #[iv u0, iv u1, iv u2, iv u3, iv u4, iv xn1, iv xc0, iv xc1, iv xd0, iv xd1, iv xn2, iv xl1, iv xl2, rv sb19, rv sb23, rv b31, rv b57, iv (((u4.toUInt32 >>> ((8 : Int32) &&& 31).toUInt32).toInt32) &&& (3 : Int32)), .unset, .unset] [])) _
                      refine XS.iload X71.here hx rfl (hb hby at_249) rfl ?_
                      show Steps p.tables e below (T71.setTop (mkF m 251 #[iv u0, iv u1, iv u2, iv u3, iv u4, iv xn1, iv xc0, iv xc1, iv xd0, iv xd1, iv xn2, iv xl1, iv xl2, rv sb19, rv sb23, rv b31, rv b57, iv (((u4.toUInt32 >>> ((8 : Int32) &&& 31).toUInt32).toInt32) &&& (3 : Int32)), .unset, .unset] [(.int xn1)])) _
                      refine XS.iconst X71.here hx rfl (hb hby at_251) ?_
                      show Steps p.tables e below (T71.setTop (mkF m 252 #[iv u0, iv u1, iv u2, iv u3, iv u4, iv xn1, iv xc0, iv xc1, iv xd0, iv xd1, iv xn2, iv xl1, iv xl2, rv sb19, rv sb23, rv b31, rv b57, iv (((u4.toUInt32 >>> ((8 : Int32) &&& 31).toUInt32).toInt32) &&& (3 : Int32)), .unset, .unset] [(.int (1 : Int32)), (.int xn1)])) _
                      refine XS.icmpNo X71.here hx rfl (hb hby at_252) rfl (flt hd101).1 ?_
                      show Steps p.tables e below (T71.setTop (mkF m 255 #[iv u0, iv u1, iv u2, iv u3, iv u4, iv xn1, iv xc0, iv xc1, iv xd0, iv xd1, iv xn2, iv xl1, iv xl2, rv sb19, rv sb23, rv b31, rv b57, iv (((u4.toUInt32 >>> ((8 : Int32) &&& 31).toUInt32).toInt32) &&& (3 : Int32)), .unset, .unset] [])) _
                      refine XS.iload X71.here hx rfl (hb hby at_255) rfl ?_
                      show Steps p.tables e below (T71.setTop (mkF m 257 #[iv u0, iv u1, iv u2, iv u3, iv u4, iv xn1, iv xc0, iv xc1, iv xd0, iv xd1, iv xn2, iv xl1, iv xl2, rv sb19, rv sb23, rv b31, rv b57, iv (((u4.toUInt32 >>> ((8 : Int32) &&& 31).toUInt32).toInt32) &&& (3 : Int32)), .unset, .unset] [(.int xc0)])) _
                      refine XS.iload X71.here hx rfl (hb hby at_257) rfl ?_
                      show Steps p.tables e below (T71.setTop (mkF m 259 #[iv u0, iv u1, iv u2, iv u3, iv u4, iv xn1, iv xc0, iv xc1, iv xd0, iv xd1, iv xn2, iv xl1, iv xl2, rv sb19, rv sb23, rv b31, rv b57, iv (((u4.toUInt32 >>> ((8 : Int32) &&& 31).toUInt32).toInt32) &&& (3 : Int32)), .unset, .unset] [(.int xd0), (.int xc0)])) _
                      refine XS.icmpNo X71.here hx rfl (hb hby at_259) rfl (teq hd104).2 ?_
                      show Steps p.tables e below (T71.setTop (mkF m 262 #[iv u0, iv u1, iv u2, iv u3, iv u4, iv xn1, iv xc0, iv xc1, iv xd0, iv xd1, iv xn2, iv xl1, iv xl2, rv sb19, rv sb23, rv b31, rv b57, iv (((u4.toUInt32 >>> ((8 : Int32) &&& 31).toUInt32).toInt32) &&& (3 : Int32)), .unset, .unset] [])) _
                      refine XS.iload X71.here hx rfl (hb hby at_262) rfl ?_
                      show Steps p.tables e below (T71.setTop (mkF m 264 #[iv u0, iv u1, iv u2, iv u3, iv u4, iv xn1, iv xc0, iv xc1, iv xd0, iv xd1, iv xn2, iv xl1, iv xl2, rv sb19, rv sb23, rv b31, rv b57, iv (((u4.toUInt32 >>> ((8 : Int32) &&& 31).toUInt32).toInt32) &&& (3 : Int32)), .unset, .unset] [(.int xn1)])) _
                      refine XS.iconst X71.here hx rfl (hb hby at_264) ?_
                      show Steps p.tables e below (T71.setTop (mkF m 265 #[iv u0, iv u1, iv u2, iv u3, iv u4, iv xn1, iv xc0, iv xc1, iv xd0, iv xd1, iv xn2, iv xl1, iv xl2, rv sb19, rv sb23, rv b31, rv b57, iv (((u4.toUInt32 >>> ((8 : Int32) &&& 31).toUInt32).toInt32) &&& (3 : Int32)), .unset, .unset] [(.int (2 : Int32)), (.int xn1)])) _
                      refine XS.icmpNo X71.here hx rfl (hb hby at_265) rfl (flt hd105).1 ?_
                      show Steps p.tables e below (T71.setTop (mkF m 268 #[iv u0, iv u1, iv u2, iv u3, iv u4, iv xn1, iv xc0, iv xc1, iv xd0, iv xd1, iv xn2, iv xl1, iv xl2, rv sb19, rv sb23, rv b31, rv b57, iv (((u4.toUInt32 >>> ((8 : Int32) &&& 31).toUInt32).toInt32) &&& (3 : Int32)), .unset, .unset] [])) _
                      refine XS.iload X71.here hx rfl (hb hby at_268) rfl ?_
                      show Steps p.tables e below (T71.setTop (mkF m 270 #[iv u0, iv u1, iv u2, iv u3, iv u4, iv xn1, iv xc0, iv xc1, iv xd0, iv xd1, iv xn2, iv xl1, iv xl2, rv sb19, rv sb23, rv b31, rv b57, iv (((u4.toUInt32 >>> ((8 : Int32) &&& 31).toUInt32).toInt32) &&& (3 : Int32)), .unset, .unset] [(.int xc1)])) _
                      refine XS.iload X71.here hx rfl (hb hby at_270) rfl ?_
                      show Steps p.tables e below (T71.setTop (mkF m 272 #[iv u0, iv u1, iv u2, iv u3, iv u4, iv xn1, iv xc0, iv xc1, iv xd0, iv xd1, iv xn2, iv xl1, iv xl2, rv sb19, rv sb23, rv b31, rv b57, iv (((u4.toUInt32 >>> ((8 : Int32) &&& 31).toUInt32).toInt32) &&& (3 : Int32)), .unset, .unset] [(.int xd1), (.int xc1)])) _
                      refine XS.icmpNo X71.here hx rfl (hb hby at_272) rfl (teq hd106).2 ?_
                      show Steps p.tables e below (T71.setTop (mkF m 275 #[iv u0, iv u1, iv u2, iv u3, iv u4, iv xn1, iv xc0, iv xc1, iv xd0, iv xd1, iv xn2, iv xl1, iv xl2, rv sb19, rv sb23, rv b31, rv b57, iv (((u4.toUInt32 >>> ((8 : Int32) &&& 31).toUInt32).toInt32) &&& (3 : Int32)), .unset, .unset] [])) _
                      refine XS.iconst X71.here hx rfl (hb hby at_275) ?_
                      show Steps p.tables e below (T71.setTop (mkF m 276 #[iv u0, iv u1, iv u2, iv u3, iv u4, iv xn1, iv xc0, iv xc1, iv xd0, iv xd1, iv xn2, iv xl1, iv xl2, rv sb19, rv sb23, rv b31, rv b57, iv (((u4.toUInt32 >>> ((8 : Int32) &&& 31).toUInt32).toInt32) &&& (3 : Int32)), .unset, .unset] [(.int (1 : Int32))])) _
                      refine XS.goto X71.here hx rfl (pc0 := 276) (pc' := 280) rfl (hb hby at_276) (by decide) (by decide) ?_
                      exact k
                    · skip
                      rw [show xsf = (0 : Int32) from by rw [e_xsf, if_pos hd100, if_neg hd101, if_pos hd104, if_neg hd105, if_neg hd106]] at k
                      show Steps p.tables e below (T71.setTop (mkF m 246 #[iv u0, iv u1, iv u2, iv u3, iv u4, iv xn1, iv xc0, iv xc1, iv xd0, iv xd1, iv xn2, iv xl1, iv xl2, rv sb19, rv sb23, rv b31, rv b57, iv (((u4.toUInt32 >>> ((8 : Int32) &&& 31).toUInt32).toInt32) &&& (3 : Int32)), .unset, .unset] [(.int xn2), (.int xn1)])) _
                      refine XS.icmpNo X71.here hx rfl (hb hby at_246) rfl (teq hd100).2 ?_
                      show Steps p.tables e below (T71.setTop (mkF m 249 #[iv u0, iv u1, iv u2, iv u3, iv u4, iv xn1, iv xc0, iv xc1, iv xd0, iv xd1, iv xn2, iv xl1, iv xl2, rv sb19, rv sb23, rv b31, rv b57, iv (((u4.toUInt32 >>> ((8 : Int32) &&& 31).toUInt32).toInt32) &&& (3 : Int32)), .unset, .unset] [])) _
                      refine XS.iload X71.here hx rfl (hb hby at_249) rfl ?_
                      show Steps p.tables e below (T71.setTop (mkF m 251 #[iv u0, iv u1, iv u2, iv u3, iv u4, iv xn1, iv xc0, iv xc1, iv xd0, iv xd1, iv xn2, iv xl1, iv xl2, rv sb19, rv sb23, rv b31, rv b57, iv (((u4.toUInt32 >>> ((8 : Int32) &&& 31).toUInt32).toInt32) &&& (3 : Int32)), .unset, .unset] [(.int xn1)])) _
                      refine XS.iconst X71.here hx rfl (hb hby at_251) ?_
                      show Steps p.tables e below (T71.setTop (mkF m 252 #[iv u0, iv u1, iv u2, iv u3, iv u4, iv xn1, iv xc0, iv xc1, iv xd0, iv xd1, iv xn2, iv xl1, iv xl2, rv sb19, rv sb23, rv b31, rv b57, iv (((u4.toUInt32 >>> ((8 : Int32) &&& 31).toUInt32).toInt32) &&& (3 : Int32)), .unset, .unset] [(.int (1 : Int32)), (.int xn1)])) _
                      refine XS.icmpNo X71.here hx rfl (hb hby at_252) rfl (flt hd101).1 ?_
                      show Steps p.tables e below (T71.setTop (mkF m 255 #[iv u0, iv u1, iv u2, iv u3, iv u4, iv xn1, iv xc0, iv xc1, iv xd0, iv xd1, iv xn2, iv xl1, iv xl2, rv sb19, rv sb23, rv b31, rv b57, iv (((u4.toUInt32 >>> ((8 : Int32) &&& 31).toUInt32).toInt32) &&& (3 : Int32)), .unset, .unset] [])) _
                      refine XS.iload X71.here hx rfl (hb hby at_255) rfl ?_
                      show Steps p.tables e below (T71.setTop (mkF m 257 #[iv u0, iv u1, iv u2, iv u3, iv u4, iv xn1, iv xc0, iv xc1, iv xd0, iv xd1, iv xn2, iv xl1, iv xl2, rv sb19, rv sb23, rv b31, rv b57, iv (((u4.toUInt32 >>> ((8 : Int32) &&& 31).toUInt32).toInt32) &&& (3 : Int32)), .unset, .unset] [(.int xc0)])) _
                      refine XS.iload X71.here hx rfl (hb hby at_257) rfl ?_
                      show Steps p.tables e below (T71.setTop (mkF m 259 #[iv u0, iv u1, iv u2, iv u3, iv u4, iv xn1, iv xc0, iv xc1, iv xd0, iv xd1, iv xn2, iv xl1, iv xl2, rv sb19, rv sb23, rv b31, rv b57, iv (((u4.toUInt32 >>> ((8 : Int32) &&& 31).toUInt32).toInt32) &&& (3 : Int32)), .unset, .unset] [(.int xd0), (.int xc0)])) _
                      refine XS.icmpNo X71.here hx rfl (hb hby at_259) rfl (teq hd104).2 ?_
                      show Steps p.tables e below (T71.setTop (mkF m 262 #[iv u0, iv u1, iv u2, iv u3, iv u4, iv xn1, iv xc0, iv xc1, iv xd0, iv xd1, iv xn2, iv xl1, iv xl2, rv sb19, rv sb23, rv b31, rv b57, iv (((u4.toUInt32 >>> ((8 : Int32) &&& 31).toUInt32).toInt32) &&& (3 : Int32)), .unset, .unset] [])) _
                      refine XS.iload X71.here hx rfl (hb hby at_262) rfl ?_
                      show Steps p.tables e below (T71.setTop (mkF m 264 #[iv u0, iv u1, iv u2, iv u3, iv u4, iv xn1, iv xc0, iv xc1, iv xd0, iv xd1, iv xn2, iv xl1, iv xl2, rv sb19, rv sb23, rv b31, rv b57, iv (((u4.toUInt32 >>> ((8 : Int32) &&& 31).toUInt32).toInt32) &&& (3 : Int32)), .unset, .unset] [(.int xn1)])) _
                      refine XS.iconst X71.here hx rfl (hb hby at_264) ?_
                      show Steps p.tables e below (T71.setTop (mkF m 265 #[iv u0, iv u1, iv u2, iv u3, iv u4, iv xn1, iv xc0, iv xc1, iv xd0, iv xd1, iv xn2, iv xl1, iv xl2, rv sb19, rv sb23, rv b31, rv b57, iv (((u4.toUInt32 >>> ((8 : Int32) &&& 31).toUInt32).toInt32) &&& (3 : Int32)), .unset, .unset] [(.int (2 : Int32)), (.int xn1)])) _
                      refine XS.icmpNo X71.here hx rfl (hb hby at_265) rfl (flt hd105).1 ?_
                      show Steps p.tables e below (T71.setTop (mkF m 268 #[iv u0, iv u1, iv u2, iv u3, iv u4, iv xn1, iv xc0, iv xc1, iv xd0, iv xd1, iv xn2, iv xl1, iv xl2, rv sb19, rv sb23, rv b31, rv b57, iv (((u4.toUInt32 >>> ((8 : Int32) &&& 31).toUInt32).toInt32) &&& (3 : Int32)), .unset, .unset] [])) _
                      refine XS.iload X71.here hx rfl (hb hby at_268) rfl ?_
                      show Steps p.tables e below (T71.setTop (mkF m 270 #[iv u0, iv u1, iv u2, iv u3, iv u4, iv xn1, iv xc0, iv xc1, iv xd0, iv xd1, iv xn2, iv xl1, iv xl2, rv sb19, rv sb23, rv b31, rv b57, iv (((u4.toUInt32 >>> ((8 : Int32) &&& 31).toUInt32).toInt32) &&& (3 : Int32)), .unset, .unset] [(.int xc1)])) _
                      refine XS.iload X71.here hx rfl (hb hby at_270) rfl ?_
                      show Steps p.tables e below (T71.setTop (mkF m 272 #[iv u0, iv u1, iv u2, iv u3, iv u4, iv xn1, iv xc0, iv xc1, iv xd0, iv xd1, iv xn2, iv xl1, iv xl2, rv sb19, rv sb23, rv b31, rv b57, iv (((u4.toUInt32 >>> ((8 : Int32) &&& 31).toUInt32).toInt32) &&& (3 : Int32)), .unset, .unset] [(.int xd1), (.int xc1)])) _
                      refine XS.icmpYes X71.here hx rfl (pc0 := 272) (pc' := 279) rfl (hb hby at_272) rfl (feq hd106).2 (by decide) (by decide) ?_
                      show Steps p.tables e below (T71.setTop (mkF m 279 #[iv u0, iv u1, iv u2, iv u3, iv u4, iv xn1, iv xc0, iv xc1, iv xd0, iv xd1, iv xn2, iv xl1, iv xl2, rv sb19, rv sb23, rv b31, rv b57, iv (((u4.toUInt32 >>> ((8 : Int32) &&& 31).toUInt32).toInt32) &&& (3 : Int32)), .unset, .unset] [])) _
                      refine XS.iconst X71.here hx rfl (hb hby at_279) ?_
                      exact k
                · skip
                  rw [show xsf = (0 : Int32) from by rw [e_xsf, if_pos hd100, if_neg hd101, if_neg hd104]] at k
                  show Steps p.tables e below (T71.setTop (mkF m 246 #[iv u0, iv u1, iv u2, iv u3, iv u4, iv xn1, iv xc0, iv xc1, iv xd0, iv xd1, iv xn2, iv xl1, iv xl2, rv sb19, rv sb23, rv b31, rv b57, iv (((u4.toUInt32 >>> ((8 : Int32) &&& 31).toUInt32).toInt32) &&& (3 : Int32)), .unset, .unset] [(.int xn2), (.int xn1)])) _
                  refine XS.icmpNo X71.here hx rfl (hb hby at_246) rfl (teq hd100).2 ?_
                  show Steps p.tables e below (T71.setTop (mkF m 249 #[iv u0, iv u1, iv u2, iv u3, iv u4, iv xn1, iv xc0, iv xc1, iv xd0, iv xd1, iv xn2, iv xl1, iv xl2, rv sb19, rv sb23, rv b31, rv b57, iv (((u4.toUInt32 >>> ((8 : Int32) &&& 31).toUInt32).toInt32) &&& (3 : Int32)), .unset, .unset] [])) _
                  refine XS.iload X71.here hx rfl (hb hby at_249) rfl ?_
                  show Steps p.tables e below (T71.setTop (mkF m 251 #[iv u0, iv u1, iv u2, iv u3, iv u4, iv xn1, iv xc0, iv xc1, iv xd0, iv xd1, iv xn2, iv xl1, iv xl2, rv sb19, rv sb23, rv b31, rv b57, iv (((u4.toUInt32 >>> ((8 : Int32) &&& 31).toUInt32).toInt32) &&& (3 : Int32)), .unset, .unset] [(.int xn1)])) _
                  refine XS.iconst X71.here hx rfl (hb hby at_251) ?_
                  show Steps p.tables e below (T71.setTop (mkF m 252 #[iv u0, iv u1, iv u2, iv u3, iv u4, iv xn1, iv xc0, iv xc1, iv xd0, iv xd1, iv xn2, iv xl1, iv xl2, rv sb19, rv sb23, rv b31, rv b57, iv (((u4.toUInt32 >>> ((8 : Int32) &&& 31).toUInt32).toInt32) &&& (3 : Int32)), .unset, .unset] [(.int (1 : Int32)), (.int xn1)])) _
                  refine XS.icmpNo X71.here hx rfl (hb hby at_252) rfl (flt hd101).1 ?_
                  show Steps p.tables e below (T71.setTop (mkF m 255 #[iv u0, iv u1, iv u2, iv u3, iv u4, iv xn1, iv xc0, iv xc1, iv xd0, iv xd1, iv xn2, iv xl1, iv xl2, rv sb19, rv sb23, rv b31, rv b57, iv (((u4.toUInt32 >>> ((8 : Int32) &&& 31).toUInt32).toInt32) &&& (3 : Int32)), .unset, .unset] [])) _
                  refine XS.iload X71.here hx rfl (hb hby at_255) rfl ?_
                  show Steps p.tables e below (T71.setTop (mkF m 257 #[iv u0, iv u1, iv u2, iv u3, iv u4, iv xn1, iv xc0, iv xc1, iv xd0, iv xd1, iv xn2, iv xl1, iv xl2, rv sb19, rv sb23, rv b31, rv b57, iv (((u4.toUInt32 >>> ((8 : Int32) &&& 31).toUInt32).toInt32) &&& (3 : Int32)), .unset, .unset] [(.int xc0)])) _
                  refine XS.iload X71.here hx rfl (hb hby at_257) rfl ?_
                  show Steps p.tables e below (T71.setTop (mkF m 259 #[iv u0, iv u1, iv u2, iv u3, iv u4, iv xn1, iv xc0, iv xc1, iv xd0, iv xd1, iv xn2, iv xl1, iv xl2, rv sb19, rv sb23, rv b31, rv b57, iv (((u4.toUInt32 >>> ((8 : Int32) &&& 31).toUInt32).toInt32) &&& (3 : Int32)), .unset, .unset] [(.int xd0), (.int xc0)])) _
                  refine XS.icmpYes X71.here hx rfl (pc0 := 259) (pc' := 279) rfl (hb hby at_259) rfl (feq hd104).2 (by decide) (by decide) ?_
                  show Steps p.tables e below (T71.setTop (mkF m 279 #[iv u0, iv u1, iv u2, iv u3, iv u4, iv xn1, iv xc0, iv xc1, iv xd0, iv xd1, iv xn2, iv xl1, iv xl2, rv sb19, rv sb23, rv b31, rv b57, iv (((u4.toUInt32 >>> ((8 : Int32) &&& 31).toUInt32).toInt32) &&& (3 : Int32)), .unset, .unset] [])) _
                  refine XS.iconst X71.here hx rfl (hb hby at_279) ?_
                  exact k
            · skip
              rw [show xsf = (0 : Int32) from by rw [e_xsf, if_neg hd100]] at k
              show Steps p.tables e below (T71.setTop (mkF m 246 #[iv u0, iv u1, iv u2, iv u3, iv u4, iv xn1, iv xc0, iv xc1, iv xd0, iv xd1, iv xn2, iv xl1, iv xl2, rv sb19, rv sb23, rv b31, rv b57, iv (((u4.toUInt32 >>> ((8 : Int32) &&& 31).toUInt32).toInt32) &&& (3 : Int32)), .unset, .unset] [(.int xn2), (.int xn1)])) _
              refine XS.icmpYes X71.here hx rfl (pc0 := 246) (pc' := 279) rfl (hb hby at_246) rfl (feq hd100).2 (by decide) (by decide) ?_
              show Steps p.tables e below (T71.setTop (mkF m 279 #[iv u0, iv u1, iv u2, iv u3, iv u4, iv xn1, iv xc0, iv xc1, iv xd0, iv xd1, iv xn2, iv xl1, iv xl2, rv sb19, rv sb23, rv b31, rv b57, iv (((u4.toUInt32 >>> ((8 : Int32) &&& 31).toUInt32).toInt32) &&& (3 : Int32)), .unset, .unset] [])) _
              refine XS.iconst X71.here hx rfl (hb hby at_279) ?_
              exact k
          have S108 : ∀ t, Steps p.tables e below (T71.setTop (mkF m 284 #[iv u0, iv u1, iv u2, iv u3, iv u4, iv xn1, iv xc0, iv xc1, iv xd0, iv xd1, iv xn2, iv xl1, iv xl2, rv sb19, rv sb23, rv b31, rv b57, iv (((u4.toUInt32 >>> ((8 : Int32) &&& 31).toUInt32).toInt32) &&& (3 : Int32)), iv xsf, .unset] [(.int xsf)])) t → Steps p.tables e below (s₁.setTop (entryFrame m #[(.int u0), (.int u1), (.int u2), (.int u3), (.int u4)] maxLocals)) t := by
            intro t k
            refine S107 t ?_
            show Steps p.tables e below (T71.setTop (mkF m 280 #[iv u0, iv u1, iv u2, iv u3, iv u4, iv xn1, iv xc0, iv xc1, iv xd0, iv xd1, iv xn2, iv xl1, iv xl2, rv sb19, rv sb23, rv b31, rv b57, iv (((u4.toUInt32 >>> ((8 : Int32) &&& 31).toUInt32).toInt32) &&& (3 : Int32)), .unset, .unset] [(.int xsf)])) _
            refine XS.istore X71.here hx rfl (hb hby at_280) rfl (l' := #[iv u0, iv u1, iv u2, iv u3, iv u4, iv xn1, iv xc0, iv xc1, iv xd0, iv xd1, iv xn2, iv xl1, iv xl2, rv sb19, rv sb23, rv b31, rv b57, iv (((u4.toUInt32 >>> ((8 : Int32) &&& 31).toUInt32).toInt32) &&& (3 : Int32)), iv xsf, .unset]) rfl ?_
            show Steps p.tables e below (T71.setTop (mkF m 282 #[iv u0, iv u1, iv u2, iv u3, iv u4, iv xn1, iv xc0, iv xc1, iv xd0, iv xd1, iv xn2, iv xl1, iv xl2, rv sb19, rv sb23, rv b31, rv b57, iv (((u4.toUInt32 >>> ((8 : Int32) &&& 31).toUInt32).toInt32) &&& (3 : Int32)), iv xsf, .unset] [])) _
            refine XS.iload X71.here hx rfl (hb hby at_282) rfl ?_
            exact k
          obtain ⟨xex, e_xex⟩ : ∃ z : Int32, z = (if xsf = (0 : Int32) then (0 : Int32) else (if xl1 = xl2 then (1 : Int32) else (0 : Int32))) := ⟨_, rfl⟩
          have S111 : ∀ t, Steps p.tables e below (T71.setTop (mkF m 299 #[iv u0, iv u1, iv u2, iv u3, iv u4, iv xn1, iv xc0, iv xc1, iv xd0, iv xd1, iv xn2, iv xl1, iv xl2, rv sb19, rv sb23, rv b31, rv b57, iv (((u4.toUInt32 >>> ((8 : Int32) &&& 31).toUInt32).toInt32) &&& (3 : Int32)), iv xsf, .unset] [(.int xex)])) t → Steps p.tables e below (s₁.setTop (entryFrame m #[(.int u0), (.int u1), (.int u2), (.int u3), (.int u4)] maxLocals)) t := by
            intro t k
            refine S108 t ?_
            by_cases hd109 : xsf = (0 : Int32)
            · skip
              rw [show xex = (0 : Int32) from by rw [e_xex, if_pos hd109]] at k
              show Steps p.tables e below (T71.setTop (mkF m 284 #[iv u0, iv u1, iv u2, iv u3, iv u4, iv xn1, iv xc0, iv xc1, iv xd0, iv xd1, iv xn2, iv xl1, iv xl2, rv sb19, rv sb23, rv b31, rv b57, iv (((u4.toUInt32 >>> ((8 : Int32) &&& 31).toUInt32).toInt32) &&& (3 : Int32)), iv xsf, .unset] [(.int xsf)])) _
              refine XS.ifYes X71.here hx rfl (pc0 := 284) (pc' := 298) rfl (hb hby at_284) rfl ((if0 _ _).trans (teq hd109).1) (by decide) (by decide) ?_
              show Steps p.tables e below (T71.setTop (mkF m 298 #[iv u0, iv u1, iv u2, iv u3, iv u4, iv xn1, iv xc0, iv xc1, iv xd0, iv xd1, iv xn2, iv xl1, iv xl2, rv sb19, rv sb23, rv b31, rv b57, iv (((u4.toUInt32 >>> ((8 : Int32) &&& 31).toUInt32).toInt32) &&& (3 : Int32)), iv xsf, .unset] [])) _
              refine XS.iconst X71.here hx rfl (hb hby at_298) ?_
              exact k
            · skip
              by_cases hd110 : xl1 = xl2
              · skip
                rw [show xex = (1 : Int32) from by rw [e_xex, if_neg hd109, if_pos hd110]] at k
                show Steps p.tables e below (T71.setTop (mkF m 284 #[iv u0, iv u1, iv u2, iv u3, iv u4, iv xn1, iv xc0, iv xc1, iv xd0, iv xd1, iv xn2, iv xl1, iv xl2, rv sb19, rv sb23, rv b31, rv b57, iv (((u4.toUInt32 >>> ((8 : Int32) &&& 31).toUInt32).toInt32) &&& (3 : Int32)), iv xsf, .unset] [(.int xsf)])) _
                refine XS.ifNo X71.here hx rfl (hb hby at_284) rfl ((if0 _ _).trans (feq hd109).1) ?_
                show Steps p.tables e below (T71.setTop (mkF m 287 #[iv u0, iv u1, iv u2, iv u3, iv u4, iv xn1, iv xc0, iv xc1, iv xd0, iv xd1, iv xn2, iv xl1, iv xl2, rv sb19, rv sb23, rv b31, rv b57, iv (((u4.toUInt32 >>> ((8 : Int32) &&& 31).toUInt32).toInt32) &&& (3 : Int32)), iv xsf, .unset] [])) _
                refine XS.iload X71.here hx rfl (hb hby at_287) rfl ?_
                show Steps p.tables e below (T71.setTop (mkF m 289 #[iv u0, iv u1, iv u2, iv u3, iv u4, iv xn1, iv xc0, iv xc1, iv xd0, iv xd1, iv xn2, iv xl1, iv xl2, rv sb19, rv sb23, rv b31, rv b57, iv (((u4.toUInt32 >>> ((8 : Int32) &&& 31).toUInt32).toInt32) &&& (3 : Int32)), iv xsf, .unset] [(.int xl1)])) _
                refine XS.iload X71.here hx rfl (hb hby at_289) rfl ?_
                show Steps p.tables e below (T71.setTop (mkF m 291 #[iv u0, iv u1, iv u2, iv u3, iv u4, iv xn1, iv xc0, iv xc1, iv xd0, iv xd1, iv xn2, iv xl1, iv xl2, rv sb19, rv sb23, rv b31, rv b57, iv (((u4.toUInt32 >>> ((8 : Int32) &&& 31).toUInt32).toInt32) &&& (3 : Int32)), iv xsf, .unset] [(.int xl2), (.int xl1)])) _
                refine XS.icmpNo X71.here hx rfl (hb hby at_291) rfl (teq hd110).2 ?_
                show Steps p.tables e below (T71.setTop (mkF m 294 #[iv u0, iv u1, iv u2, iv u3, iv u4, iv xn1, iv xc0, iv xc1, iv xd0, iv xd1, iv xn2, iv xl1, iv xl2, rv sb19, rv sb23, rv b31, rv b57, iv (((u4.toUInt32 >>> ((8 : Int32) &&& 31).toUInt32).toInt32) &&& (3 : Int32)), iv xsf, .unset] [])) _
                refine XS.iconst X71.here hx rfl (hb hby at_294) ?_
                show Steps p.tables e below (T71.setTop (mkF m 295 #[iv u0, iv u1, iv u2, iv u3, iv u4, iv xn1, iv xc0, iv xc1, iv xd0, iv xd1, iv xn2, iv xl1, iv xl2, rv sb19, rv sb23, rv b31, rv b57, iv (((u4.toUInt32 >>> ((8 : Int32) &&& 31).toUInt32).toInt32) &&& (3 : Int32)), iv xsf, .unset] [(.int (1 : Int32))])) _
                refine XS.goto X71.here hx rfl (pc0 := 295) (pc' := 299) rfl (hb hby at_295) (by decide) (by decide) ?_
                exact k
              · skip
                rw [show xex = (0 : Int32) from by rw [e_xex, if_neg hd109, if_neg hd110]] at k
                show Steps p.tables e below (T71.setTop (mkF m 284 #[iv u0, iv u1, iv u2, iv u3, iv u4, iv xn1, iv xc0, iv xc1, iv xd0, iv xd1, iv xn2, iv xl1, iv xl2, rv sb19, rv sb23, rv b31, rv b57, iv (((u4.toUInt32 >>> ((8 : Int32) &&& 31).toUInt32).toInt32) &&& (3 : Int32)), iv xsf, .unset] [(.int xsf)])) _
                refine XS.ifNo X71.here hx rfl (hb hby at_284) rfl ((if0 _ _).trans (feq hd109).1) ?_
                show Steps p.tables e below (T71.setTop (mkF m 287 #[iv u0, iv u1, iv u2, iv u3, iv u4, iv xn1, iv xc0, iv xc1, iv xd0, iv xd1, iv xn2, iv xl1, iv xl2, rv sb19, rv sb23, rv b31, rv b57, iv (((u4.toUInt32 >>> ((8 : Int32) &&& 31).toUInt32).toInt32) &&& (3 : Int32)), iv xsf, .unset] [])) _
                refine XS.iload X71.here hx rfl (hb hby at_287) rfl ?_
                show Steps p.tables e below (T71.setTop (mkF m 289 #[iv u0, iv u1, iv u2, iv u3, iv u4, iv xn1, iv xc0, iv xc1, iv xd0, iv xd1, iv xn2, iv xl1, iv xl2, rv sb19, rv sb23, rv b31, rv b57, iv (((u4.toUInt32 >>> ((8 : Int32) &&& 31).toUInt32).toInt32) &&& (3 : Int32)), iv xsf, .unset] [(.int xl1)])) _
                refine XS.iload X71.here hx rfl (hb hby at_289) rfl ?_
                show Steps p.tables e below (T71.setTop (mkF m 291 #[iv u0, iv u1, iv u2, iv u3, iv u4, iv xn1, iv xc0, iv xc1, iv xd0, iv xd1, iv xn2, iv xl1, iv xl2, rv sb19, rv sb23, rv b31, rv b57, iv (((u4.toUInt32 >>> ((8 : Int32) &&& 31).toUInt32).toInt32) &&& (3 : Int32)), iv xsf, .unset] [(.int xl2), (.int xl1)])) _
                refine XS.icmpYes X71.here hx rfl (pc0 := 291) (pc' := 298) rfl (hb hby at_291) rfl (feq hd110).2 (by decide) (by decide) ?_
                show Steps p.tables e below (T71.setTop (mkF m 298 #[iv u0, iv u1, iv u2, iv u3, iv u4, iv xn1, iv xc0, iv xc1, iv xd0, iv xd1, iv xn2, iv xl1, iv xl2, rv sb19, rv sb23, rv b31, rv b57, iv (((u4.toUInt32 >>> ((8 : Int32) &&& 31).toUInt32).toInt32) &&& (3 : Int32)), iv xsf, .unset] [])) _
                refine XS.iconst X71.here hx rfl (hb hby at_298) ?_
                exact k
          obtain ⟨cq112, kq112, q112a, q112b, q112c⟩ := isOf hZ rfl f82
          obtain ⟨_, _, ⟨T112, L112, k112, n112⟩, -, X112, ⟨Lc112, hQ112, l112, y112, z112⟩, st112⟩ := X71.virtualBack hx (y := (⟨"com/example/kilit/kilit/source/Location", "equals", "(Ljava/lang/Object;)Z"⟩ : MethodName)) (z := (⟨"com/example/kilit/kilit/source/Location", "equals", "(Ljava/lang/Object;)Z"⟩ : MethodName)) hown (mvT hZ (hw _ (List.mem_of_getElem? (i := 48) rfl))) (mvT hZ (hw _ (List.mem_of_getElem? (i := 49) rfl))) (notFace_of_selects (args := #[]) (mvT hZ (hw _ (List.mem_of_getElem? (i := 51) rfl)))) (mvT hZ (hw _ (List.mem_of_getElem? (i := 51) rfl))) (mvT hZ (hw _ (List.mem_of_getElem? (i := 50) rfl))) (by decide) (backOf (W := 0) (rmEq l Z a0 hw [] b31 b57 sb19 sb23 (own_mk xn1 xc0 xc1) (own_mk xn2 xd0 xd1) xl1 xl2 G1 T71.heap n0 Z71 Od73 O2 P3 Eq71 f83 f84 Ff71 Fl71 ⟨_, _, _, _, f74, f75, f76, f77, cod19⟩ ⟨_, _, _, _, f78, f79, f80, f81, cod23⟩ (own_mk_ch h_xc0 h_xc1) (own_mk_ch h_xd0 h_xd1) own_mk_len own_mk_len) hZ (hw _ (List.mem_of_getElem? (i := 52) rfl)) (hw _ (List.mem_of_getElem? (i := 33) rfl)) (by decide) (by decide)) q112a q112c (g := (mkF m 305 #[iv u0, iv u1, iv u2, iv u3, iv u4, iv xn1, iv xc0, iv xc1, iv xd0, iv xd1, iv xn2, iv xl1, iv xl2, rv sb19, rv sb23, rv b31, rv b57, iv (((u4.toUInt32 >>> ((8 : Int32) &&& 31).toUInt32).toInt32) &&& (3 : Int32)), iv xsf, iv xex] [(.ref b57), (.ref b31)])) rfl (by rw [hml]; rfl) (Steps.refl _) (argsL := [(.ref b57)]) (rest := []) (lenOf pd_3 rfl) rfl (by show 2 * 0 + _ ≤ _; exact Nat.le_of_eq rfl) (hb hby at_305) (fun _ _ => ⟨rfl, rfl, (by decide : 18 + 0 ≤ _), (by decide : 84 + 0 ≤ _)⟩)
          dsimp only [Pt.U, Pt.locs, Pt.cells, Pt.slots] at X112 l112 y112 z112 st112 hQ112
          subst y112 z112
          obtain ⟨rfl, Nq112, eq112⟩ := hQ112
          have N112 : Fr n0 L112 := by rw [l112]; exact Fr.app N71 Nq112
          obtain ⟨cq113, kq113, q113a, q113b, q113c⟩ := isOf hZ eq112 Eq71
          obtain ⟨_, _, ⟨T113, L113, k113, n113⟩, -, X113, ⟨Lc113, hQ113, l113, y113, z113⟩, st113⟩ := X112.virtualBack hx (y := (⟨"com/example/kilit/kilit/source/Location", "equals", "(Ljava/lang/Object;)Z"⟩ : MethodName)) (z := (⟨"com/example/kilit/kilit/source/Location", "equals", "(Ljava/lang/Object;)Z"⟩ : MethodName)) hown (mvT hZ (hw _ (List.mem_of_getElem? (i := 48) rfl))) (mvT hZ (hw _ (List.mem_of_getElem? (i := 49) rfl))) (notFace_of_selects (args := #[]) (mvT hZ (hw _ (List.mem_of_getElem? (i := 51) rfl)))) (mvT hZ (hw _ (List.mem_of_getElem? (i := 51) rfl))) (mvT hZ (hw _ (List.mem_of_getElem? (i := 50) rfl))) (by decide) (backOf (W := 0) (rmEq l Z a0 hw [] b57 b31 sb23 sb19 (own_mk xn2 xd0 xd1) (own_mk xn1 xc0 xc1) xl2 xl1 G1 T71.heap n0 Z71 Od73 O2 P3 f82 Ff71 Fl71 f83 f84 ⟨_, _, _, _, f78, f79, f80, f81, cod23⟩ ⟨_, _, _, _, f74, f75, f76, f77, cod19⟩ (own_mk_ch h_xd0 h_xd1) (own_mk_ch h_xc0 h_xc1) own_mk_len own_mk_len) hZ (hw _ (List.mem_of_getElem? (i := 52) rfl)) (hw _ (List.mem_of_getElem? (i := 33) rfl)) (by decide) (by decide)) q113a q113c (g := (mkF m 317 #[iv u0, iv u1, iv u2, iv u3, iv u4, iv xn1, iv xc0, iv xc1, iv xd0, iv xd1, iv xn2, iv xl1, iv xl2, rv sb19, rv sb23, rv b31, rv b57, iv (((u4.toUInt32 >>> ((8 : Int32) &&& 31).toUInt32).toInt32) &&& (3 : Int32)), iv xsf, iv xex] [(.ref b31), (.ref b57)])) rfl (by rw [hml]; rfl) (Steps.refl _) (argsL := [(.ref b31)]) (rest := []) (lenOf pd_3 rfl) rfl (by show 2 * 0 + _ ≤ _; exact Nat.le_of_eq rfl) (hb hby at_317) (fun _ _ => ⟨rfl, eq112, (by decide : 18 + 0 ≤ _), (by decide : 84 + 0 ≤ _)⟩)
          dsimp only [Pt.U, Pt.locs, Pt.cells, Pt.slots] at X113 l113 y113 z113 st113 hQ113
          subst y113 z113
          obtain ⟨rfl, Nq113, eq113⟩ := hQ113
          have N113 : Fr n0 L113 := by rw [l113]; exact Fr.app N112 Nq113
          obtain ⟨fs, hr, hrun, hended, hR1, hR2, hR3, hR4⟩ := Stand.leaveW (s := s) (vm₁ := T71.vm) X113 hS (by rw [eq113]; exact hkq71) (v := some (.int (1 : Int32))) (fun h => by rw [Bd.returns] at h; cases h)
          refine ⟨_, _, S111 _ ?_, hrun, hended, _, _, rfl, ?_, hR1, hR2, hR3, hR4.mono (by decide) (by decide)⟩
          · skip
            show Steps p.tables e below (T71.setTop (mkF m 299 #[iv u0, iv u1, iv u2, iv u3, iv u4, iv xn1, iv xc0, iv xc1, iv xd0, iv xd1, iv xn2, iv xl1, iv xl2, rv sb19, rv sb23, rv b31, rv b57, iv (((u4.toUInt32 >>> ((8 : Int32) &&& 31).toUInt32).toInt32) &&& (3 : Int32)), iv xsf, .unset] [(.int xex)])) _
            refine XS.istore X71.here hx rfl (hb hby at_299) rfl (l' := #[iv u0, iv u1, iv u2, iv u3, iv u4, iv xn1, iv xc0, iv xc1, iv xd0, iv xd1, iv xn2, iv xl1, iv xl2, rv sb19, rv sb23, rv b31, rv b57, iv (((u4.toUInt32 >>> ((8 : Int32) &&& 31).toUInt32).toInt32) &&& (3 : Int32)), iv xsf, iv xex]) rfl ?_
            show Steps p.tables e below (T71.setTop (mkF m 301 #[iv u0, iv u1, iv u2, iv u3, iv u4, iv xn1, iv xc0, iv xc1, iv xd0, iv xd1, iv xn2, iv xl1, iv xl2, rv sb19, rv sb23, rv b31, rv b57, iv (((u4.toUInt32 >>> ((8 : Int32) &&& 31).toUInt32).toInt32) &&& (3 : Int32)), iv xsf, iv xex] [])) _
            refine XS.aload X71.here hx rfl (hb hby at_301) rfl rfl ?_
            show Steps p.tables e below (T71.setTop (mkF m 303 #[iv u0, iv u1, iv u2, iv u3, iv u4, iv xn1, iv xc0, iv xc1, iv xd0, iv xd1, iv xn2, iv xl1, iv xl2, rv sb19, rv sb23, rv b31, rv b57, iv (((u4.toUInt32 >>> ((8 : Int32) &&& 31).toUInt32).toInt32) &&& (3 : Int32)), iv xsf, iv xex] [(.ref b31)])) _
            refine XS.aload X71.here hx rfl (hb hby at_303) rfl rfl ?_
            show Steps p.tables e below (T71.setTop (mkF m 305 #[iv u0, iv u1, iv u2, iv u3, iv u4, iv xn1, iv xc0, iv xc1, iv xd0, iv xd1, iv xn2, iv xl1, iv xl2, rv sb19, rv sb23, rv b31, rv b57, iv (((u4.toUInt32 >>> ((8 : Int32) &&& 31).toUInt32).toInt32) &&& (3 : Int32)), iv xsf, iv xex] [(.ref b57), (.ref b31)])) _
            refine st112.trans ?_
            show Steps p.tables e below (T112.setTop (mkF m 308 #[iv u0, iv u1, iv u2, iv u3, iv u4, iv xn1, iv xc0, iv xc1, iv xd0, iv xd1, iv xn2, iv xl1, iv xl2, rv sb19, rv sb23, rv b31, rv b57, iv (((u4.toUInt32 >>> ((8 : Int32) &&& 31).toUInt32).toInt32) &&& (3 : Int32)), iv xsf, iv xex] [(.int (own_leq (own_mk xn1 xc0 xc1) (own_mk xn2 xd0 xd1) xl1 xl2))])) _
            refine XS.iload X112.here hx rfl (hb hby at_308) rfl ?_
            show Steps p.tables e below (T112.setTop (mkF m 310 #[iv u0, iv u1, iv u2, iv u3, iv u4, iv xn1, iv xc0, iv xc1, iv xd0, iv xd1, iv xn2, iv xl1, iv xl2, rv sb19, rv sb23, rv b31, rv b57, iv (((u4.toUInt32 >>> ((8 : Int32) &&& 31).toUInt32).toInt32) &&& (3 : Int32)), iv xsf, iv xex] [(.int xex), (.int (own_leq (own_mk xn1 xc0 xc1) (own_mk xn2 xd0 xd1) xl1 xl2))])) _
            refine XS.icmpNo X112.here hx rfl (hb hby at_310) rfl (teq (own_fin (a := xl1) (b := xl2) h_xn1 h_xn2 e_xsf e_xex).1).2 ?_
            show Steps p.tables e below (T112.setTop (mkF m 313 #[iv u0, iv u1, iv u2, iv u3, iv u4, iv xn1, iv xc0, iv xc1, iv xd0, iv xd1, iv xn2, iv xl1, iv xl2, rv sb19, rv sb23, rv b31, rv b57, iv (((u4.toUInt32 >>> ((8 : Int32) &&& 31).toUInt32).toInt32) &&& (3 : Int32)), iv xsf, iv xex] [])) _
            refine XS.aload X112.here hx rfl (hb hby at_313) rfl rfl ?_
            show Steps p.tables e below (T112.setTop (mkF m 315 #[iv u0, iv u1, iv u2, iv u3, iv u4, iv xn1, iv xc0, iv xc1, iv xd0, iv xd1, iv xn2, iv xl1, iv xl2, rv sb19, rv sb23, rv b31, rv b57, iv (((u4.toUInt32 >>> ((8 : Int32) &&& 31).toUInt32).toInt32) &&& (3 : Int32)), iv xsf, iv xex] [(.ref b57)])) _
            refine XS.aload X112.here hx rfl (hb hby at_315) rfl rfl ?_
            show Steps p.tables e below (T112.setTop (mkF m 317 #[iv u0, iv u1, iv u2, iv u3, iv u4, iv xn1, iv xc0, iv xc1, iv xd0, iv xd1, iv xn2, iv xl1, iv xl2, rv sb19, rv sb23, rv b31, rv b57, iv (((u4.toUInt32 >>> ((8 : Int32) &&& 31).toUInt32).toInt32) &&& (3 : Int32)), iv xsf, iv xex] [(.ref b31), (.ref b57)])) _
            refine st113.trans ?_
            show Steps p.tables e below (T113.setTop (mkF m 320 #[iv u0, iv u1, iv u2, iv u3, iv u4, iv xn1, iv xc0, iv xc1, iv xd0, iv xd1, iv xn2, iv xl1, iv xl2, rv sb19, rv sb23, rv b31, rv b57, iv (((u4.toUInt32 >>> ((8 : Int32) &&& 31).toUInt32).toInt32) &&& (3 : Int32)), iv xsf, iv xex] [(.int (own_leq (own_mk xn2 xd0 xd1) (own_mk xn1 xc0 xc1) xl2 xl1))])) _
            refine XS.iload X113.here hx rfl (hb hby at_320) rfl ?_
            show Steps p.tables e below (T113.setTop (mkF m 322 #[iv u0, iv u1, iv u2, iv u3, iv u4, iv xn1, iv xc0, iv xc1, iv xd0, iv xd1, iv xn2, iv xl1, iv xl2, rv sb19, rv sb23, rv b31, rv b57, iv (((u4.toUInt32 >>> ((8 : Int32) &&& 31).toUInt32).toInt32) &&& (3 : Int32)), iv xsf, iv xex] [(.int xex), (.int (own_leq (own_mk xn2 xd0 xd1) (own_mk xn1 xc0 xc1) xl2 xl1))])) _
            refine XS.icmpNo X113.here hx rfl (hb hby at_322) rfl (teq (own_fin (a := xl1) (b := xl2) h_xn1 h_xn2 e_xsf e_xex).2).2 ?_
            show Steps p.tables e below (T113.setTop (mkF m 325 #[iv u0, iv u1, iv u2, iv u3, iv u4, iv xn1, iv xc0, iv xc1, iv xd0, iv xd1, iv xn2, iv xl1, iv xl2, rv sb19, rv sb23, rv b31, rv b57, iv (((u4.toUInt32 >>> ((8 : Int32) &&& 31).toUInt32).toInt32) &&& (3 : Int32)), iv xsf, iv xex] [])) _
            refine XS.iconst X113.here hx rfl (hb hby at_325) ?_
            show Steps p.tables e below (T113.setTop (mkF m 326 #[iv u0, iv u1, iv u2, iv u3, iv u4, iv xn1, iv xc0, iv xc1, iv xd0, iv xd1, iv xn2, iv xl1, iv xl2, rv sb19, rv sb23, rv b31, rv b57, iv (((u4.toUInt32 >>> ((8 : Int32) &&& 31).toUInt32).toInt32) &&& (3 : Int32)), iv xsf, iv xex] [(.int (1 : Int32))])) _
            refine XS.goto X113.here hx rfl (pc0 := 326) (pc' := 330) rfl (hb hby at_326) (by decide) (by decide) ?_
            show Steps p.tables e below (T113.setTop (mkF m 330 #[iv u0, iv u1, iv u2, iv u3, iv u4, iv xn1, iv xc0, iv xc1, iv xd0, iv xd1, iv xn2, iv xl1, iv xl2, rv sb19, rv sb23, rv b31, rv b57, iv (((u4.toUInt32 >>> ((8 : Int32) &&& 31).toUInt32).toInt32) &&& (3 : Int32)), iv xsf, iv xex] [(.int (1 : Int32))])) _
            exact retN X113 hx (t := .boolean) Bd.returns (by simp) (hb hby at_330) hr
          · show Q0 Z u0 u1 u2 u3 u4 G1 h0 n0 _ T113.heap _
            rw [eq113]
            exact ⟨rfl, N113⟩
  · skip
    have S115 : ∀ t, Steps p.tables e below (T13.setTop (mkF m 134 #[iv u0, iv u1, iv u2, iv u3, iv u4, iv xn1, iv xc0, iv xc1, iv xd0, iv xd1, iv xn2, iv xl1, iv xl1, .unset, .unset, .unset, .unset, .unset, .unset, .unset] [(.int xc1), (.int xc0), (.int xn1)])) t → Steps p.tables e below (s₁.setTop (entryFrame m #[(.int u0), (.int u1), (.int u2), (.int u3), (.int u4)] maxLocals)) t := by
      intro t k
      refine S15 t ?_
      show Steps p.tables e below (T13.setTop (mkF m 110 #[iv u0, iv u1, iv u2, iv u3, iv u4, iv xn1, iv xc0, iv xc1, iv xd0, iv xd1, iv xn2, iv xl1, .unset, .unset, .unset, .unset, .unset, .unset, .unset, .unset] [(.int (u4 &&& (128 : Int32)))])) _
      refine XS.ifNo X13.here hx rfl (hb hby at_110) rfl ((if0 _ _).trans (feq hc16).1) ?_
      show Steps p.tables e below (T13.setTop (mkF m 113 #[iv u0, iv u1, iv u2, iv u3, iv u4, iv xn1, iv xc0, iv xc1, iv xd0, iv xd1, iv xn2, iv xl1, .unset, .unset, .unset, .unset, .unset, .unset, .unset, .unset] [])) _
      refine XS.iload X13.here hx rfl (hb hby at_113) rfl ?_
      show Steps p.tables e below (T13.setTop (mkF m 115 #[iv u0, iv u1, iv u2, iv u3, iv u4, iv xn1, iv xc0, iv xc1, iv xd0, iv xd1, iv xn2, iv xl1, .unset, .unset, .unset, .unset, .unset, .unset, .unset, .unset] [(.int xl1)])) _
      refine XS.goto X13.here hx rfl (pc0 := 115) (pc' := 126) rfl (hb hby at_115) (by decide) (by decide) ?_
      show Steps p.tables e below (T13.setTop (mkF m 126 #[iv u0, iv u1, iv u2, iv u3, iv u4, iv xn1, iv xc0, iv xc1, iv xd0, iv xd1, iv xn2, iv xl1, .unset, .unset, .unset, .unset, .unset, .unset, .unset, .unset] [(.int xl1)])) _
      refine XS.istore X13.here hx rfl (hb hby at_126) rfl (l' := #[iv u0, iv u1, iv u2, iv u3, iv u4, iv xn1, iv xc0, iv xc1, iv xd0, iv xd1, iv xn2, iv xl1, iv xl1, .unset, .unset, .unset, .unset, .unset, .unset, .unset]) rfl ?_
      show Steps p.tables e below (T13.setTop (mkF m 128 #[iv u0, iv u1, iv u2, iv u3, iv u4, iv xn1, iv xc0, iv xc1, iv xd0, iv xd1, iv xn2, iv xl1, iv xl1, .unset, .unset, .unset, .unset, .unset, .unset, .unset] [])) _
      refine XS.iload X13.here hx rfl (hb hby at_128) rfl ?_
      show Steps p.tables e below (T13.setTop (mkF m 130 #[iv u0, iv u1, iv u2, iv u3, iv u4, iv xn1, iv xc0, iv xc1, iv xd0, iv xd1, iv xn2, iv xl1, iv xl1, .unset, .unset, .unset, .unset, .unset, .unset, .unset] [(.int xn1)])) _
      refine XS.iload X13.here hx rfl (hb hby at_130) rfl ?_
      show Steps p.tables e below (T13.setTop (mkF m 132 #[iv u0, iv u1, iv u2, iv u3, iv u4, iv xn1, iv xc0, iv xc1, iv xd0, iv xd1, iv xn2, iv xl1, iv xl1, .unset, .unset, .unset, .unset, .unset, .unset, .unset] [(.int xc0), (.int xn1)])) _
      refine XS.iload X13.here hx rfl (hb hby at_132) rfl ?_
      exact k
    obtain ⟨_, _, ⟨T114, L114, k114, n114⟩, -, X114, hSn114, hgr114, ⟨Lc114, hQ114, l114, y114, z114, CC114⟩, st114⟩ := callSS X13 hx (y := (⟨"com/example/kilit/kilit/source/LocationEqualsPinLaw", "mk", "(ICC)Ljava/lang/String;"⟩ : MethodName)) hown (mvT hZ (hw _ (List.mem_of_getElem? (i := 5) rfl))) (mvT hZ (hw _ (List.mem_of_getElem? (i := 6) rfl))) (mvT hZ (hw _ (List.mem_of_getElem? (i := 7) rfl))) (mvT hZ (hw _ (List.mem_of_getElem? (i := 8) rfl))) (by decide) (backOfSH (s := s) (vm0 := s.vm) (EL := own_EL) (W := 0) (rmMk l Z a0 hw [] xn1 xc0 xc1 G1 h0 n0 Z0 hO O2 P3 h_xc0 h_xc1) hZ (hw _ (List.mem_of_getElem? (i := 8) rfl)) (hw _ (List.mem_of_getElem? (i := 7) rfl)) (by decide) (by decide) hEL C0.1) (g := (mkF m 134 #[iv u0, iv u1, iv u2, iv u3, iv u4, iv xn1, iv xc0, iv xc1, iv xd0, iv xd1, iv xn2, iv xl1, iv xl1, .unset, .unset, .unset, .unset, .unset, .unset, .unset] [(.int xc1), (.int xc0), (.int xn1)])) rfl (by rw [hml]; rfl) (argsL := [(.int xn1), (.int xc0), (.int xc1)]) (rest := []) (lenOf pd_5 rfl) rfl (by show 2 * 0 + _ ≤ _; exact Nat.le_of_eq rfl) (hb hby at_134) (fun _ _ => ⟨rfl, eq13, (by decide : 0 + 6 ≤ _), (by decide : 0 + 20 ≤ _)⟩)
    dsimp only [Pt.U, Pt.locs, Pt.cells, Pt.slots] at X114 l114 y114 z114 st114 hQ114 hSn114 hgr114 CC114
    subst y114 z114
    obtain ⟨sb114, tq114, kb114, Nn114, vq114, rfl, Nq114, Kq114, geq114, szq114, Eq114, Fv114, Fc114, Vq114, cod114⟩ := hQ114
    have N114 : Fr n0 L114 := by rw [l114]; exact Fr.app N13 Nq114
    have hS := hS.trans hSn114 (Nat.le_trans hk0 (by rw [← eq13]; exact hgr114))
    have hZ : Z.Warmed39 (s.setVm T114.vm).vm := State.Warmed39.trans (t := s.setVm s.vm) hZ hSn114.1
    have hown : (s.setVm T114.vm).vm.findClass "com/example/kilit/kilit/source/LocationEqualsPinLaw" = some m.cls := by rw [show (s.setVm T114.vm).vm = T114.vm from rfl, hSn114.1.alike.findClass]; exact hown
    have hkq114 : T114.heap.size ≤ T114.heap.size := Nat.le_refl _
    have C114 := C0.trans CC114
    have Z114 : n0 ≤ T114.heap.size := Nat.le_trans Z0 Kq114.1
    have Od116 := hO.keep Kq114 all0
    have S117 : ∀ t, Steps p.tables e below (T114.setTop (mkF m 137 #[iv u0, iv u1, iv u2, iv u3, iv u4, iv xn1, iv xc0, iv xc1, iv xd0, iv xd1, iv xn2, iv xl1, iv xl1, .unset, .unset, .unset, .unset, .unset, .unset, .unset] [(.ref sb114)])) t → Steps p.tables e below (s₁.setTop (entryFrame m #[(.int u0), (.int u1), (.int u2), (.int u3), (.int u4)] maxLocals)) t := by
      intro t k
      refine S115 t ?_
      show Steps p.tables e below (T13.setTop (mkF m 134 #[iv u0, iv u1, iv u2, iv u3, iv u4, iv xn1, iv xc0, iv xc1, iv xd0, iv xd1, iv xn2, iv xl1, iv xl1, .unset, .unset, .unset, .unset, .unset, .unset, .unset] [(.int xc1), (.int xc0), (.int xn1)])) _
      refine st114.trans ?_
      exact k
    have S119 : ∀ t, Steps p.tables e below (T114.setTop (mkF m 145 #[iv u0, iv u1, iv u2, iv u3, iv u4, iv xn1, iv xc0, iv xc1, iv xd0, iv xd1, iv xn2, iv xl1, iv xl1, rv sb114, .unset, .unset, .unset, .unset, .unset, .unset] [(.int xd1), (.int xd0), (.int xn2)])) t → Steps p.tables e below (s₁.setTop (entryFrame m #[(.int u0), (.int u1), (.int u2), (.int u3), (.int u4)] maxLocals)) t := by
      intro t k
      refine S117 t ?_
      show Steps p.tables e below (T114.setTop (mkF m 137 #[iv u0, iv u1, iv u2, iv u3, iv u4, iv xn1, iv xc0, iv xc1, iv xd0, iv xd1, iv xn2, iv xl1, iv xl1, .unset, .unset, .unset, .unset, .unset, .unset, .unset] [(.ref sb114)])) _
      refine XS.astore X114.here hx rfl (hb hby at_137) rfl rfl (l' := #[iv u0, iv u1, iv u2, iv u3, iv u4, iv xn1, iv xc0, iv xc1, iv xd0, iv xd1, iv xn2, iv xl1, iv xl1, rv sb114, .unset, .unset, .unset, .unset, .unset, .unset]) rfl ?_
      show Steps p.tables e below (T114.setTop (mkF m 139 #[iv u0, iv u1, iv u2, iv u3, iv u4, iv xn1, iv xc0, iv xc1, iv xd0, iv xd1, iv xn2, iv xl1, iv xl1, rv sb114, .unset, .unset, .unset, .unset, .unset, .unset] [])) _
      refine XS.iload X114.here hx rfl (hb hby at_139) rfl ?_
      show Steps p.tables e below (T114.setTop (mkF m 141 #[iv u0, iv u1, iv u2, iv u3, iv u4, iv xn1, iv xc0, iv xc1, iv xd0, iv xd1, iv xn2, iv xl1, iv xl1, rv sb114, .unset, .unset, .unset, .unset, .unset, .unset] [(.int xn2)])) _
      refine XS.iload X114.here hx rfl (hb hby at_141) rfl ?_
      show Steps p.tables e below (T114.setTop (mkF m 143 #[iv u0, iv u1, iv u2, iv u3, iv u4, iv xn1, iv xc0, iv xc1, iv xd0, iv xd1, iv xn2, iv xl1, iv xl1, rv sb114, .unset, .unset, .unset, .unset, .unset, .unset] [(.int xd0), (.int xn2)])) _
      refine XS.iload X114.here hx rfl (hb hby at_143) rfl ?_
      exact k
    obtain ⟨_, _, ⟨T118, L118, k118, n118⟩, -, X118, hSn118, hgr118, ⟨Lc118, hQ118, l118, y118, z118, CC118⟩, st118⟩ := callSS X114 hx (y := (⟨"com/example/kilit/kilit/source/LocationEqualsPinLaw", "mk", "(ICC)Ljava/lang/String;"⟩ : MethodName)) hown (mvT hZ (hw _ (List.mem_of_getElem? (i := 5) rfl))) (mvT hZ (hw _ (List.mem_of_getElem? (i := 6) rfl))) (mvT hZ (hw _ (List.mem_of_getElem? (i := 7) rfl))) (mvT hZ (hw _ (List.mem_of_getElem? (i := 8) rfl))) (by decide) (backOfSH (s := s) (vm0 := T114.vm) (EL := own_EL) (W := 0) (rmMk l Z a0 hw [] xn2 xd0 xd1 G1 T114.heap n0 Z114 Od116 O2 P3 h_xd0 h_xd1) hZ (hw _ (List.mem_of_getElem? (i := 8) rfl)) (hw _ (List.mem_of_getElem? (i := 7) rfl)) (by decide) (by decide) hEL C114.1) (g := (mkF m 145 #[iv u0, iv u1, iv u2, iv u3, iv u4, iv xn1, iv xc0, iv xc1, iv xd0, iv xd1, iv xn2, iv xl1, iv xl1, rv sb114, .unset, .unset, .unset, .unset, .unset, .unset] [(.int xd1), (.int xd0), (.int xn2)])) rfl (by rw [hml]; rfl) (argsL := [(.int xn2), (.int xd0), (.int xd1)]) (rest := []) (lenOf pd_5 rfl) rfl (by show 2 * 0 + _ ≤ _; exact Nat.le_of_eq rfl) (hb hby at_145) (fun _ _ => ⟨rfl, rfl, (by decide : 6 + 6 ≤ _), (by decide : 20 + 20 ≤ _)⟩)
    dsimp only [Pt.U, Pt.locs, Pt.cells, Pt.slots] at X118 l118 y118 z118 st118 hQ118 hSn118 hgr118 CC118
    subst y118 z118
    obtain ⟨sb118, tq118, kb118, Nn118, vq118, rfl, Nq118, Kq118, geq118, szq118, Eq118, Fv118, Fc118, Vq118, cod118⟩ := hQ118
    have N118 : Fr n0 L118 := by rw [l118]; exact Fr.app N114 Nq118
    have hS := hS.trans hSn118 (Nat.le_trans hkq114 hgr118)
    have hZ : Z.Warmed39 (s.setVm T118.vm).vm := State.Warmed39.trans (t := s.setVm T114.vm) hZ hSn118.1
    have hown : (s.setVm T118.vm).vm.findClass "com/example/kilit/kilit/source/LocationEqualsPinLaw" = some m.cls := by rw [show (s.setVm T118.vm).vm = T118.vm from rfl, hSn118.1.alike.findClass]; exact hown
    have hkq118 : T118.heap.size ≤ T118.heap.size := Nat.le_refl _
    have C118 := C114.trans CC118
    have Z118 : n0 ≤ T118.heap.size := Nat.le_trans Z114 Kq118.1
    have Od120 := Od116.keep Kq118 all0
    have f121 := Eq114.keep Kq118
    have f122 := Fv114.keep Kq118 nin0
    have f123 := Fc114.keep Kq118 nin0
    have f124 := Vq114.keep Kq118 nin0
    have S125 : ∀ t, Steps p.tables e below (T118.setTop (mkF m 148 #[iv u0, iv u1, iv u2, iv u3, iv u4, iv xn1, iv xc0, iv xc1, iv xd0, iv xd1, iv xn2, iv xl1, iv xl1, rv sb114, .unset, .unset, .unset, .unset, .unset, .unset] [(.ref sb118)])) t → Steps p.tables e below (s₁.setTop (entryFrame m #[(.int u0), (.int u1), (.int u2), (.int u3), (.int u4)] maxLocals)) t := by
      intro t k
      refine S119 t ?_
      show Steps p.tables e below (T114.setTop (mkF m 145 #[iv u0, iv u1, iv u2, iv u3, iv u4, iv xn1, iv xc0, iv xc1, iv xd0, iv xd1, iv xn2, iv xl1, iv xl1, rv sb114, .unset, .unset, .unset, .unset, .unset, .unset] [(.int xd1), (.int xd0), (.int xn2)])) _
      refine st118.trans ?_
      exact k
    obtain ⟨T126, h126, X126, e126, E126, A126, D126, -, st126⟩ := newO X118 hx hZ hown (hw _ (List.mem_of_getElem? (i := 31) rfl)) (hw _ (List.mem_of_getElem? (i := 32) rfl)) (hw _ (List.mem_of_getElem? (i := 33) rfl)) rfl (g := (mkF m 150 #[iv u0, iv u1, iv u2, iv u3, iv u4, iv xn1, iv xc0, iv xc1, iv xd0, iv xd1, iv xn2, iv xl1, iv xl1, rv sb114, rv sb118, .unset, .unset, .unset, .unset, .unset] [])) rfl (hb hby at_150) (by decide) (by decide)
    obtain ⟨b126, g126⟩ : ∃ z, z = T118.heap.size := ⟨_, rfl⟩
    rw [← g126] at A126 D126 st126
    have ge_b126 : n0 ≤ b126 := Nat.le_trans Z118 (Nat.le_of_eq g126.symm)
    have ne_sb114_b126 : sb114 ≠ b126 := Nat.ne_of_lt (Nat.lt_of_lt_of_le (f121).lt (Nat.le_of_eq g126.symm))
    have ne_sb118_b126 : sb118 ≠ b126 := Nat.ne_of_lt (Nat.lt_of_lt_of_le (Eq118).lt (Nat.le_of_eq g126.symm))
    have ne_tq114_b126 : tq114 ≠ b126 := Nat.ne_of_lt (Nat.lt_of_lt_of_le (f124).lt (Nat.le_of_eq g126.symm))
    have ne_tq118_b126 : tq118 ≠ b126 := Nat.ne_of_lt (Nat.lt_of_lt_of_le (Vq118).lt (Nat.le_of_eq g126.symm))
    have hk127 := Nat.le_trans hkq118 E126.1
    have Od128 := Od120.ext E126
    have f129 := f121.ext E126
    have f130 := f122.ext E126
    have f131 := f123.ext E126
    have f132 := f124.ext E126
    have f133 := Eq118.ext E126
    have f134 := Fv118.ext E126
    have f135 := Fc118.ext E126
    have f136 := Vq118.ext E126
    have F126_file : Fld Z h126 b126 "com/example/kilit/kilit/source/Location" "file" "Ljava/lang/String;" .null := D126 (Or.inr (hw _ (List.mem_of_getElem? (i := 45) rfl))) (ty := (.object "java/lang/String")) (by decide)
    have F126_line : Fld Z h126 b126 "com/example/kilit/kilit/source/Location" "line" "I" (.int (0 : Int32)) := D126 (Or.inr (hw _ (List.mem_of_getElem? (i := 47) rfl))) (ty := .int) (by decide)
    have Z126 : n0 ≤ h126.size := Nat.le_trans Z118 E126.1
    have S138 : ∀ t, Steps p.tables e below (T126.setTop (mkF m 158 #[iv u0, iv u1, iv u2, iv u3, iv u4, iv xn1, iv xc0, iv xc1, iv xd0, iv xd1, iv xn2, iv xl1, iv xl1, rv sb114, rv sb118, .unset, .unset, .unset, .unset, .unset] [(.int xl1), (.ref sb114), (.ref b126), (.ref b126)])) t → Steps p.tables e below (s₁.setTop (entryFrame m #[(.int u0), (.int u1), (.int u2), (.int u3), (.int u4)] maxLocals)) t := by
      intro t k
      refine S125 t ?_
      show Steps p.tables e below (T118.setTop (mkF m 148 #[iv u0, iv u1, iv u2, iv u3, iv u4, iv xn1, iv xc0, iv xc1, iv xd0, iv xd1, iv xn2, iv xl1, iv xl1, rv sb114, .unset, .unset, .unset, .unset, .unset, .unset] [(.ref sb118)])) _
      refine XS.astore X118.here hx rfl (hb hby at_148) rfl rfl (l' := #[iv u0, iv u1, iv u2, iv u3, iv u4, iv xn1, iv xc0, iv xc1, iv xd0, iv xd1, iv xn2, iv xl1, iv xl1, rv sb114, rv sb118, .unset, .unset, .unset, .unset, .unset]) rfl ?_
      show Steps p.tables e below (T118.setTop (mkF m 150 #[iv u0, iv u1, iv u2, iv u3, iv u4, iv xn1, iv xc0, iv xc1, iv xd0, iv xd1, iv xn2, iv xl1, iv xl1, rv sb114, rv sb118, .unset, .unset, .unset, .unset, .unset] [])) _
      refine st126 _ ?_
      show Steps p.tables e below (T126.setTop (mkF m 153 #[iv u0, iv u1, iv u2, iv u3, iv u4, iv xn1, iv xc0, iv xc1, iv xd0, iv xd1, iv xn2, iv xl1, iv xl1, rv sb114, rv sb118, .unset, .unset, .unset, .unset, .unset] [(.ref b126)])) _
      refine XS.dup X126.here hx rfl (hb hby at_153) rfl rfl ?_
      show Steps p.tables e below (T126.setTop (mkF m 154 #[iv u0, iv u1, iv u2, iv u3, iv u4, iv xn1, iv xc0, iv xc1, iv xd0, iv xd1, iv xn2, iv xl1, iv xl1, rv sb114, rv sb118, .unset, .unset, .unset, .unset, .unset] [(.ref b126), (.ref b126)])) _
      refine XS.aload X126.here hx rfl (hb hby at_154) rfl rfl ?_
      show Steps p.tables e below (T126.setTop (mkF m 156 #[iv u0, iv u1, iv u2, iv u3, iv u4, iv xn1, iv xc0, iv xc1, iv xd0, iv xd1, iv xn2, iv xl1, iv xl1, rv sb114, rv sb118, .unset, .unset, .unset, .unset, .unset] [(.ref sb114), (.ref b126), (.ref b126)])) _
      refine XS.iload X126.here hx rfl (hb hby at_156) rfl ?_
      exact k
    obtain ⟨_, _, ⟨T137, L137, k137, n137⟩, -, X137, hSn137, hgr137, ⟨Lc137, hQ137, l137, y137, z137⟩, st137⟩ := X126.specialBackS hx (y := (⟨"com/example/kilit/kilit/source/Location", "<init>", "(Ljava/lang/String;I)V"⟩ : MethodName)) rfl hown (mvT hZ (hw _ (List.mem_of_getElem? (i := 34) rfl))) (mvT hZ (hw _ (List.mem_of_getElem? (i := 35) rfl))) (mvT hZ (hw _ (List.mem_of_getElem? (i := 36) rfl))) (by decide) (backOfS (W := 1) (rmLoc l Z a0 hw [] b126 sb114 xl1 h126 n0 Z126 A126 F126_file F126_line ge_b126 f129 h_xl1) hZ (hw _ (List.mem_of_getElem? (i := 36) rfl)) (hw _ (List.mem_of_getElem? (i := 33) rfl)) (by decide) (by decide)) (g := (mkF m 158 #[iv u0, iv u1, iv u2, iv u3, iv u4, iv xn1, iv xc0, iv xc1, iv xd0, iv xd1, iv xn2, iv xl1, iv xl1, rv sb114, rv sb118, .unset, .unset, .unset, .unset, .unset] [(.int xl1), (.ref sb114), (.ref b126), (.ref b126)])) rfl (by rw [hml]; rfl) (Steps.refl _) (a := b126) (argsL := [(.ref sb114), (.int xl1)]) (rest := [(.ref b126)]) (lenOf pd_6 rfl) rfl (by show 2 * 0 + _ ≤ _; exact Nat.le_of_eq rfl) (hb hby at_158) (fun _ _ => ⟨rfl, e126, (by decide : 13 + 2 ≤ _), (by decide : 42 + 20 ≤ _)⟩)
    dsimp only [Pt.U, Pt.locs, Pt.cells, Pt.slots] at X137 l137 y137 z137 st137 hQ137 hSn137 hgr137
    subst y137 z137
    obtain ⟨rfl, Nq137, Kq137, Eq137, Ff137, Fl137⟩ := hQ137
    have N137 : Fr n0 L137 := by rw [l137]; exact Fr.app N118 Nq137
    have hS := hS.trans hSn137 (Nat.le_trans hk127 (by rw [← e126]; exact hgr137))
    have hZ : Z.Warmed39 (s.setVm T137.vm).vm := State.Warmed39.trans (t := s.setVm T118.vm) hZ hSn137.1
    have hown : (s.setVm T137.vm).vm.findClass "com/example/kilit/kilit/source/LocationEqualsPinLaw" = some m.cls := by rw [show (s.setVm T137.vm).vm = T137.vm from rfl, hSn137.1.alike.findClass]; exact hown
    have hkq137 : T137.heap.size ≤ T137.heap.size := Nat.le_refl _
    have Z137 : n0 ≤ T137.heap.size := Nat.le_trans Z126 Kq137.1
    have Od139 := Od128.keep Kq137 (allS ge_b126 all0)
    have f140 := f129.keep Kq137
    have f141 := f130.keep Kq137 (ninS ne_sb114_b126 nin0)
    have f142 := f131.keep Kq137 (ninS ne_sb114_b126 nin0)
    have f143 := f132.keep Kq137 (ninS ne_tq114_b126 nin0)
    have f144 := f133.keep Kq137
    have f145 := f134.keep Kq137 (ninS ne_sb118_b126 nin0)
    have f146 := f135.keep Kq137 (ninS ne_sb118_b126 nin0)
    have f147 := f136.keep Kq137 (ninS ne_tq118_b126 nin0)
    have f148 := A126.keep Kq137
    have S151 : ∀ t, Steps p.tables e below (T137.setTop (mkF m 161 #[iv u0, iv u1, iv u2, iv u3, iv u4, iv xn1, iv xc0, iv xc1, iv xd0, iv xd1, iv xn2, iv xl1, iv xl1, rv sb114, rv sb118, .unset, .unset, .unset, .unset, .unset] [(.ref b126)])) t → Steps p.tables e below (s₁.setTop (entryFrame m #[(.int u0), (.int u1), (.int u2), (.int u3), (.int u4)] maxLocals)) t := by
      intro t k
      refine S138 t ?_
      show Steps p.tables e below (T126.setTop (mkF m 158 #[iv u0, iv u1, iv u2, iv u3, iv u4, iv xn1, iv xc0, iv xc1, iv xd0, iv xd1, iv xn2, iv xl1, iv xl1, rv sb114, rv sb118, .unset, .unset, .unset, .unset, .unset] [(.int xl1), (.ref sb114), (.ref b126), (.ref b126)])) _
      refine st137.trans ?_
      exact k
    obtain ⟨T152, h152, X152, e152, E152, A152, D152, -, st152⟩ := newO X137 hx hZ hown (hw _ (List.mem_of_getElem? (i := 31) rfl)) (hw _ (List.mem_of_getElem? (i := 32) rfl)) (hw _ (List.mem_of_getElem? (i := 33) rfl)) rfl (g := (mkF m 163 #[iv u0, iv u1, iv u2, iv u3, iv u4, iv xn1, iv xc0, iv xc1, iv xd0, iv xd1, iv xn2, iv xl1, iv xl1, rv sb114, rv sb118, rv b126, .unset, .unset, .unset, .unset] [])) rfl (hb hby at_163) (by decide) (by decide)
    obtain ⟨b152, g152⟩ : ∃ z, z = T137.heap.size := ⟨_, rfl⟩
    rw [← g152] at A152 D152 st152
    have ge_b152 : n0 ≤ b152 := Nat.le_trans Z137 (Nat.le_of_eq g152.symm)
    have ne_b126_b152 : b126 ≠ b152 := Nat.ne_of_lt (Nat.lt_of_lt_of_le (Eq137).lt (Nat.le_of_eq g152.symm))
    have ne_sb114_b152 : sb114 ≠ b152 := Nat.ne_of_lt (Nat.lt_of_lt_of_le (f140).lt (Nat.le_of_eq g152.symm))
    have ne_sb118_b152 : sb118 ≠ b152 := Nat.ne_of_lt (Nat.lt_of_lt_of_le (f144).lt (Nat.le_of_eq g152.symm))
    have ne_tq114_b152 : tq114 ≠ b152 := Nat.ne_of_lt (Nat.lt_of_lt_of_le (f143).lt (Nat.le_of_eq g152.symm))
    have ne_tq118_b152 : tq118 ≠ b152 := Nat.ne_of_lt (Nat.lt_of_lt_of_le (f147).lt (Nat.le_of_eq g152.symm))
    have hk153 := Nat.le_trans hkq137 E152.1
    have Od154 := Od139.ext E152
    have f155 := f140.ext E152
    have f156 := f141.ext E152
    have f157 := f142.ext E152
    have f158 := f143.ext E152
    have f159 := f144.ext E152
    have f160 := f145.ext E152
    have f161 := f146.ext E152
    have f162 := f147.ext E152
    have f163 := Eq137.ext E152
    have f164 := Ff137.ext E152
    have f165 := Fl137.ext E152
    have F152_file : Fld Z h152 b152 "com/example/kilit/kilit/source/Location" "file" "Ljava/lang/String;" .null := D152 (Or.inr (hw _ (List.mem_of_getElem? (i := 45) rfl))) (ty := (.object "java/lang/String")) (by decide)
    have F152_line : Fld Z h152 b152 "com/example/kilit/kilit/source/Location" "line" "I" (.int (0 : Int32)) := D152 (Or.inr (hw _ (List.mem_of_getElem? (i := 47) rfl))) (ty := .int) (by decide)
    have Z152 : n0 ≤ h152.size := Nat.le_trans Z137 E152.1
    have S167 : ∀ t, Steps p.tables e below (T152.setTop (mkF m 171 #[iv u0, iv u1, iv u2, iv u3, iv u4, iv xn1, iv xc0, iv xc1, iv xd0, iv xd1, iv xn2, iv xl1, iv xl1, rv sb114, rv sb118, rv b126, .unset, .unset, .unset, .unset] [(.int xl1), (.ref sb118), (.ref b152), (.ref b152)])) t → Steps p.tables e below (s₁.setTop (entryFrame m #[(.int u0), (.int u1), (.int u2), (.int u3), (.int u4)] maxLocals)) t := by
      intro t k
      refine S151 t ?_
      show Steps p.tables e below (T137.setTop (mkF m 161 #[iv u0, iv u1, iv u2, iv u3, iv u4, iv xn1, iv xc0, iv xc1, iv xd0, iv xd1, iv xn2, iv xl1, iv xl1, rv sb114, rv sb118, .unset, .unset, .unset, .unset, .unset] [(.ref b126)])) _
      refine XS.astore X137.here hx rfl (hb hby at_161) rfl rfl (l' := #[iv u0, iv u1, iv u2, iv u3, iv u4, iv xn1, iv xc0, iv xc1, iv xd0, iv xd1, iv xn2, iv xl1, iv xl1, rv sb114, rv sb118, rv b126, .unset, .unset, .unset, .unset]) rfl ?_
      show Steps p.tables e below (T137.setTop (mkF m 163 #[iv u0, iv u1, iv u2, iv u3, iv u4, iv xn1, iv xc0, iv xc1, iv xd0, iv xd1, iv xn2, iv xl1, iv xl1, rv sb114, rv sb118, rv b126, .unset, .unset, .unset, .unset] [])) _
      refine st152 _ ?_
      show Steps p.tables e below (T152.setTop (mkF m 166 #[iv u0, iv u1, iv u2, iv u3, iv u4, iv xn1, iv xc0, iv xc1, iv xd0, iv xd1, iv xn2, iv xl1, iv xl1, rv sb114, rv sb118, rv b126, .unset, .unset, .unset, .unset] [(.ref b152)])) _
      refine XS.dup X152.here hx rfl (hb hby at_166) rfl rfl ?_
      show Steps p.tables e below (T152.setTop (mkF m 167 #[iv u0, iv u1, iv u2, iv u3, iv u4, iv xn1, iv xc0, iv xc1, iv xd0, iv xd1, iv xn2, iv xl1, iv xl1, rv sb114, rv sb118, rv b126, .unset, .unset, .unset, .unset] [(.ref b152), (.ref b152)])) _
      refine XS.aload X152.here hx rfl (hb hby at_167) rfl rfl ?_
      show Steps p.tables e below (T152.setTop (mkF m 169 #[iv u0, iv u1, iv u2, iv u3, iv u4, iv xn1, iv xc0, iv xc1, iv xd0, iv xd1, iv xn2, iv xl1, iv xl1, rv sb114, rv sb118, rv b126, .unset, .unset, .unset, .unset] [(.ref sb118), (.ref b152), (.ref b152)])) _
      refine XS.iload X152.here hx rfl (hb hby at_169) rfl ?_
      exact k
    obtain ⟨_, _, ⟨T166, L166, k166, n166⟩, -, X166, hSn166, hgr166, ⟨Lc166, hQ166, l166, y166, z166⟩, st166⟩ := X152.specialBackS hx (y := (⟨"com/example/kilit/kilit/source/Location", "<init>", "(Ljava/lang/String;I)V"⟩ : MethodName)) rfl hown (mvT hZ (hw _ (List.mem_of_getElem? (i := 34) rfl))) (mvT hZ (hw _ (List.mem_of_getElem? (i := 35) rfl))) (mvT hZ (hw _ (List.mem_of_getElem? (i := 36) rfl))) (by decide) (backOfS (W := 1) (rmLoc l Z a0 hw [] b152 sb118 xl1 h152 n0 Z152 A152 F152_file F152_line ge_b152 f159 h_xl1) hZ (hw _ (List.mem_of_getElem? (i := 36) rfl)) (hw _ (List.mem_of_getElem? (i := 33) rfl)) (by decide) (by decide)) (g := (mkF m 171 #[iv u0, iv u1, iv u2, iv u3, iv u4, iv xn1, iv xc0, iv xc1, iv xd0, iv xd1, iv xn2, iv xl1, iv xl1, rv sb114, rv sb118, rv b126, .unset, .unset, .unset, .unset] [(.int xl1), (.ref sb118), (.ref b152), (.ref b152)])) rfl (by rw [hml]; rfl) (Steps.refl _) (a := b152) (argsL := [(.ref sb118), (.int xl1)]) (rest := [(.ref b152)]) (lenOf pd_6 rfl) rfl (by show 2 * 0 + _ ≤ _; exact Nat.le_of_eq rfl) (hb hby at_171) (fun _ _ => ⟨rfl, e152, (by decide : 16 + 2 ≤ _), (by decide : 64 + 20 ≤ _)⟩)
    dsimp only [Pt.U, Pt.locs, Pt.cells, Pt.slots] at X166 l166 y166 z166 st166 hQ166 hSn166 hgr166
    subst y166 z166
    obtain ⟨rfl, Nq166, Kq166, Eq166, Ff166, Fl166⟩ := hQ166
    have N166 : Fr n0 L166 := by rw [l166]; exact Fr.app N137 Nq166
    have hS := hS.trans hSn166 (Nat.le_trans hk153 (by rw [← e152]; exact hgr166))
    have hZ : Z.Warmed39 (s.setVm T166.vm).vm := State.Warmed39.trans (t := s.setVm T137.vm) hZ hSn166.1
    have hown : (s.setVm T166.vm).vm.findClass "com/example/kilit/kilit/source/LocationEqualsPinLaw" = some m.cls := by rw [show (s.setVm T166.vm).vm = T166.vm from rfl, hSn166.1.alike.findClass]; exact hown
    have hkq166 : T166.heap.size ≤ T166.heap.size := Nat.le_refl _
    have Z166 : n0 ≤ T166.heap.size := Nat.le_trans Z152 Kq166.1
    have Od168 := Od154.keep Kq166 (allS ge_b152 all0)
    have f169 := f155.keep Kq166
    have f170 := f156.keep Kq166 (ninS ne_sb114_b152 nin0)
    have f171 := f157.keep Kq166 (ninS ne_sb114_b152 nin0)
    have f172 := f158.keep Kq166 (ninS ne_tq114_b152 nin0)
    have f173 := f159.keep Kq166
    have f174 := f160.keep Kq166 (ninS ne_sb118_b152 nin0)
    have f175 := f161.keep Kq166 (ninS ne_sb118_b152 nin0)
    have f176 := f162.keep Kq166 (ninS ne_tq118_b152 nin0)
    have f177 := f163.keep Kq166
    have f178 := f164.keep Kq166 (ninS ne_b126_b152 nin0)
    have f179 := f165.keep Kq166 (ninS ne_b126_b152 nin0)
    have f180 := A152.keep Kq166
    have S183 : ∀ t, Steps p.tables e below (T166.setTop (mkF m 174 #[iv u0, iv u1, iv u2, iv u3, iv u4, iv xn1, iv xc0, iv xc1, iv xd0, iv xd1, iv xn2, iv xl1, iv xl1, rv sb114, rv sb118, rv b126, .unset, .unset, .unset, .unset] [(.ref b152)])) t → Steps p.tables e below (s₁.setTop (entryFrame m #[(.int u0), (.int u1), (.int u2), (.int u3), (.int u4)] maxLocals)) t := by
      intro t k
      refine S167 t ?_
      show Steps p.tables e below (T152.setTop (mkF m 171 #[iv u0, iv u1, iv u2, iv u3, iv u4, iv xn1, iv xc0, iv xc1, iv xd0, iv xd1, iv xn2, iv xl1, iv xl1, rv sb114, rv sb118, rv b126, .unset, .unset, .unset, .unset] [(.int xl1), (.ref sb118), (.ref b152), (.ref b152)])) _
      refine st166.trans ?_
      exact k
    have S184 : ∀ t, Steps p.tables e below (T166.setTop (mkF m 188 #[iv u0, iv u1, iv u2, iv u3, iv u4, iv xn1, iv xc0, iv xc1, iv xd0, iv xd1, iv xn2, iv xl1, iv xl1, rv sb114, rv sb118, rv b126, rv b152, iv (((u4.toUInt32 >>> ((8 : Int32) &&& 31).toUInt32).toInt32) &&& (3 : Int32)), .unset, .unset] [(.int (1 : Int32)), (.int (((u4.toUInt32 >>> ((8 : Int32) &&& 31).toUInt32).toInt32) &&& (3 : Int32)))])) t → Steps p.tables e below (s₁.setTop (entryFrame m #[(.int u0), (.int u1), (.int u2), (.int u3), (.int u4)] maxLocals)) t := by
      intro t k
      refine S183 t ?_
      show Steps p.tables e below (T166.setTop (mkF m 174 #[iv u0, iv u1, iv u2, iv u3, iv u4, iv xn1, iv xc0, iv xc1, iv xd0, iv xd1, iv xn2, iv xl1, iv xl1, rv sb114, rv sb118, rv b126, .unset, .unset, .unset, .unset] [(.ref b152)])) _
      refine XS.astore X166.here hx rfl (hb hby at_174) rfl rfl (l' := #[iv u0, iv u1, iv u2, iv u3, iv u4, iv xn1, iv xc0, iv xc1, iv xd0, iv xd1, iv xn2, iv xl1, iv xl1, rv sb114, rv sb118, rv b126, rv b152, .unset, .unset, .unset]) rfl ?_
      show Steps p.tables e below (T166.setTop (mkF m 176 #[iv u0, iv u1, iv u2, iv u3, iv u4, iv xn1, iv xc0, iv xc1, iv xd0, iv xd1, iv xn2, iv xl1, iv xl1, rv sb114, rv sb118, rv b126, rv b152, .unset, .unset, .unset] [])) _
      refine XS.iload X166.here hx rfl (hb hby at_176) rfl ?_
      show Steps p.tables e below (T166.setTop (mkF m 178 #[iv u0, iv u1, iv u2, iv u3, iv u4, iv xn1, iv xc0, iv xc1, iv xd0, iv xd1, iv xn2, iv xl1, iv xl1, rv sb114, rv sb118, rv b126, rv b152, .unset, .unset, .unset] [(.int u4)])) _
      refine XS.bipush X166.here hx rfl (hb hby at_178) ?_
      show Steps p.tables e below (T166.setTop (mkF m 180 #[iv u0, iv u1, iv u2, iv u3, iv u4, iv xn1, iv xc0, iv xc1, iv xd0, iv xd1, iv xn2, iv xl1, iv xl1, rv sb114, rv sb118, rv b126, rv b152, .unset, .unset, .unset] [(.int (8 : Int32)), (.int u4)])) _
      refine XS.iushr X166.here hx rfl (hb hby at_180) rfl ?_
      show Steps p.tables e below (T166.setTop (mkF m 181 #[iv u0, iv u1, iv u2, iv u3, iv u4, iv xn1, iv xc0, iv xc1, iv xd0, iv xd1, iv xn2, iv xl1, iv xl1, rv sb114, rv sb118, rv b126, rv b152, .unset, .unset, .unset] [(.int ((u4.toUInt32 >>> ((8 : Int32) &&& 31).toUInt32).toInt32))])) _
      refine XS.iconst X166.here hx rfl (hb hby at_181) ?_
      show Steps p.tables e below (T166.setTop (mkF m 182 #[iv u0, iv u1, iv u2, iv u3, iv u4, iv xn1, iv xc0, iv xc1, iv xd0, iv xd1, iv xn2, iv xl1, iv xl1, rv sb114, rv sb118, rv b126, rv b152, .unset, .unset, .unset] [(.int (3 : Int32)), (.int ((u4.toUInt32 >>> ((8 : Int32) &&& 31).toUInt32).toInt32))])) _
      refine XS.iand X166.here hx rfl (hb hby at_182) rfl ?_
      show Steps p.tables e below (T166.setTop (mkF m 183 #[iv u0, iv u1, iv u2, iv u3, iv u4, iv xn1, iv xc0, iv xc1, iv xd0, iv xd1, iv xn2, iv xl1, iv xl1, rv sb114, rv sb118, rv b126, rv b152, .unset, .unset, .unset] [(.int (((u4.toUInt32 >>> ((8 : Int32) &&& 31).toUInt32).toInt32) &&& (3 : Int32)))])) _
      refine XS.istore X166.here hx rfl (hb hby at_183) rfl (l' := #[iv u0, iv u1, iv u2, iv u3, iv u4, iv xn1, iv xc0, iv xc1, iv xd0, iv xd1, iv xn2, iv xl1, iv xl1, rv sb114, rv sb118, rv b126, rv b152, iv (((u4.toUInt32 >>> ((8 : Int32) &&& 31).toUInt32).toInt32) &&& (3 : Int32)), .unset, .unset]) rfl ?_
      show Steps p.tables e below (T166.setTop (mkF m 185 #[iv u0, iv u1, iv u2, iv u3, iv u4, iv xn1, iv xc0, iv xc1, iv xd0, iv xd1, iv xn2, iv xl1, iv xl1, rv sb114, rv sb118, rv b126, rv b152, iv (((u4.toUInt32 >>> ((8 : Int32) &&& 31).toUInt32).toInt32) &&& (3 : Int32)), .unset, .unset] [])) _
      refine XS.iload X166.here hx rfl (hb hby at_185) rfl ?_
      show Steps p.tables e below (T166.setTop (mkF m 187 #[iv u0, iv u1, iv u2, iv u3, iv u4, iv xn1, iv xc0, iv xc1, iv xd0, iv xd1, iv xn2, iv xl1, iv xl1, rv sb114, rv sb118, rv b126, rv b152, iv (((u4.toUInt32 >>> ((8 : Int32) &&& 31).toUInt32).toInt32) &&& (3 : Int32)), .unset, .unset] [(.int (((u4.toUInt32 >>> ((8 : Int32) &&& 31).toUInt32).toInt32) &&& (3 : Int32)))])) _
      refine XS.iconst X166.here hx rfl (hb hby at_187) ?_
      exact k
    by_cases hc185 : (((u4.toUInt32 >>> ((8 : Int32) &&& 31).toUInt32).toInt32) &&& (3 : Int32)) = (1 : Int32)
    · skip
      obtain ⟨cq186, kq186, q186a, q186b, q186c⟩ := isOf hZ rfl f177
      obtain ⟨_, _, ⟨T186, L186, k186, n186⟩, -, X186, ⟨Lc186, hQ186, l186, y186, z186⟩, st186⟩ := X166.virtualBack hx (y := (⟨"com/example/kilit/kilit/source/Location", "equals", "(Ljava/lang/Object;)Z"⟩ : MethodName)) (z := (⟨"com/example/kilit/kilit/source/Location", "equals", "(Ljava/lang/Object;)Z"⟩ : MethodName)) hown (mvT hZ (hw _ (List.mem_of_getElem? (i := 48) rfl))) (mvT hZ (hw _ (List.mem_of_getElem? (i := 49) rfl))) (notFace_of_selects (args := #[]) (mvT hZ (hw _ (List.mem_of_getElem? (i := 51) rfl)))) (mvT hZ (hw _ (List.mem_of_getElem? (i := 51) rfl))) (mvT hZ (hw _ (List.mem_of_getElem? (i := 50) rfl))) (by decide) (backOf (W := 0) (rmEqN l Z a0 hw [] b126 T166.heap n0 Z166) hZ (hw _ (List.mem_of_getElem? (i := 52) rfl)) (hw _ (List.mem_of_getElem? (i := 33) rfl)) (by decide) (by decide)) q186a q186c (g := (mkF m 194 #[iv u0, iv u1, iv u2, iv u3, iv u4, iv xn1, iv xc0, iv xc1, iv xd0, iv xd1, iv xn2, iv xl1, iv xl1, rv sb114, rv sb118, rv b126, rv b152, iv (((u4.toUInt32 >>> ((8 : Int32) &&& 31).toUInt32).toInt32) &&& (3 : Int32)), .unset, .unset] [.null, (.ref b126)])) rfl (by rw [hml]; rfl) (Steps.refl _) (argsL := [.null]) (rest := []) (lenOf pd_3 rfl) rfl (by show 2 * 0 + _ ≤ _; exact Nat.le_of_eq rfl) (hb hby at_194) (fun _ _ => ⟨rfl, rfl, (by decide : 18 + 0 ≤ _), (by decide : 84 + 0 ≤ _)⟩)
      dsimp only [Pt.U, Pt.locs, Pt.cells, Pt.slots] at X186 l186 y186 z186 st186 hQ186
      subst y186 z186
      obtain ⟨rfl, Nq186, eq186⟩ := hQ186
      have N186 : Fr n0 L186 := by rw [l186]; exact Fr.app N166 Nq186
      obtain ⟨fs, hr, hrun, hended, hR1, hR2, hR3, hR4⟩ := Stand.leaveW (s := s) (vm₁ := T166.vm) X186 hS (by rw [eq186]; exact hkq166) (v := some (.int (1 : Int32))) (fun h => by rw [Bd.returns] at h; cases h)
      refine ⟨_, _, S184 _ ?_, hrun, hended, _, _, rfl, ?_, hR1, hR2, hR3, hR4.mono (by decide) (by decide)⟩
      · skip
        show Steps p.tables e below (T166.setTop (mkF m 188 #[iv u0, iv u1, iv u2, iv u3, iv u4, iv xn1, iv xc0, iv xc1, iv xd0, iv xd1, iv xn2, iv xl1, iv xl1, rv sb114, rv sb118, rv b126, rv b152, iv (((u4.toUInt32 >>> ((8 : Int32) &&& 31).toUInt32).toInt32) &&& (3 : Int32)), .unset, .unset] [(.int (1 : Int32)), (.int (((u4.toUInt32 >>> ((8 : Int32) &&& 31).toUInt32).toInt32) &&& (3 : Int32)))])) _
        refine XS.icmpNo X166.here hx rfl (hb hby at_188) rfl (teq hc185).2 ?_
        show Steps p.tables e below (T166.setTop (mkF m 191 #[iv u0, iv u1, iv u2, iv u3, iv u4, iv xn1, iv xc0, iv xc1, iv xd0, iv xd1, iv xn2, iv xl1, iv xl1, rv sb114, rv sb118, rv b126, rv b152, iv (((u4.toUInt32 >>> ((8 : Int32) &&& 31).toUInt32).toInt32) &&& (3 : Int32)), .unset, .unset] [])) _
        refine XS.aload X166.here hx rfl (hb hby at_191) rfl rfl ?_
        show Steps p.tables e below (T166.setTop (mkF m 193 #[iv u0, iv u1, iv u2, iv u3, iv u4, iv xn1, iv xc0, iv xc1, iv xd0, iv xd1, iv xn2, iv xl1, iv xl1, rv sb114, rv sb118, rv b126, rv b152, iv (((u4.toUInt32 >>> ((8 : Int32) &&& 31).toUInt32).toInt32) &&& (3 : Int32)), .unset, .unset] [(.ref b126)])) _
        refine XS.aconstNull X166.here hx rfl (hb hby at_193) ?_
        show Steps p.tables e below (T166.setTop (mkF m 194 #[iv u0, iv u1, iv u2, iv u3, iv u4, iv xn1, iv xc0, iv xc1, iv xd0, iv xd1, iv xn2, iv xl1, iv xl1, rv sb114, rv sb118, rv b126, rv b152, iv (((u4.toUInt32 >>> ((8 : Int32) &&& 31).toUInt32).toInt32) &&& (3 : Int32)), .unset, .unset] [.null, (.ref b126)])) _
        refine st186.trans ?_
        show Steps p.tables e below (T186.setTop (mkF m 197 #[iv u0, iv u1, iv u2, iv u3, iv u4, iv xn1, iv xc0, iv xc1, iv xd0, iv xd1, iv xn2, iv xl1, iv xl1, rv sb114, rv sb118, rv b126, rv b152, iv (((u4.toUInt32 >>> ((8 : Int32) &&& 31).toUInt32).toInt32) &&& (3 : Int32)), .unset, .unset] [(.int (0 : Int32))])) _
        refine XS.ifNo X186.here hx rfl (hb hby at_197) rfl ((if0 _ _).trans (teq (by decide : (0 : Int32) = (0 : Int32))).2) ?_
        show Steps p.tables e below (T186.setTop (mkF m 200 #[iv u0, iv u1, iv u2, iv u3, iv u4, iv xn1, iv xc0, iv xc1, iv xd0, iv xd1, iv xn2, iv xl1, iv xl1, rv sb114, rv sb118, rv b126, rv b152, iv (((u4.toUInt32 >>> ((8 : Int32) &&& 31).toUInt32).toInt32) &&& (3 : Int32)), .unset, .unset] [])) _
        refine XS.iconst X186.here hx rfl (hb hby at_200) ?_
        show Steps p.tables e below (T186.setTop (mkF m 201 #[iv u0, iv u1, iv u2, iv u3, iv u4, iv xn1, iv xc0, iv xc1, iv xd0, iv xd1, iv xn2, iv xl1, iv xl1, rv sb114, rv sb118, rv b126, rv b152, iv (((u4.toUInt32 >>> ((8 : Int32) &&& 31).toUInt32).toInt32) &&& (3 : Int32)), .unset, .unset] [(.int (1 : Int32))])) _
        refine XS.goto X186.here hx rfl (pc0 := 201) (pc' := 205) rfl (hb hby at_201) (by decide) (by decide) ?_
        show Steps p.tables e below (T186.setTop (mkF m 205 #[iv u0, iv u1, iv u2, iv u3, iv u4, iv xn1, iv xc0, iv xc1, iv xd0, iv xd1, iv xn2, iv xl1, iv xl1, rv sb114, rv sb118, rv b126, rv b152, iv (((u4.toUInt32 >>> ((8 : Int32) &&& 31).toUInt32).toInt32) &&& (3 : Int32)), .unset, .unset] [(.int (1 : Int32))])) _
        exact retN X186 hx (t := .boolean) Bd.returns (by simp) (hb hby at_205) hr
      · show Q0 Z u0 u1 u2 u3 u4 G1 h0 n0 _ T186.heap _
        rw [eq186]
        exact ⟨rfl, N186⟩
    · skip
      have S187 : ∀ t, Steps p.tables e below (T166.setTop (mkF m 209 #[iv u0, iv u1, iv u2, iv u3, iv u4, iv xn1, iv xc0, iv xc1, iv xd0, iv xd1, iv xn2, iv xl1, iv xl1, rv sb114, rv sb118, rv b126, rv b152, iv (((u4.toUInt32 >>> ((8 : Int32) &&& 31).toUInt32).toInt32) &&& (3 : Int32)), .unset, .unset] [(.int (2 : Int32)), (.int (((u4.toUInt32 >>> ((8 : Int32) &&& 31).toUInt32).toInt32) &&& (3 : Int32)))])) t → Steps p.tables e below (s₁.setTop (entryFrame m #[(.int u0), (.int u1), (.int u2), (.int u3), (.int u4)] maxLocals)) t := by
        intro t k
        refine S184 t ?_
        show Steps p.tables e below (T166.setTop (mkF m 188 #[iv u0, iv u1, iv u2, iv u3, iv u4, iv xn1, iv xc0, iv xc1, iv xd0, iv xd1, iv xn2, iv xl1, iv xl1, rv sb114, rv sb118, rv b126, rv b152, iv (((u4.toUInt32 >>> ((8 : Int32) &&& 31).toUInt32).toInt32) &&& (3 : Int32)), .unset, .unset] [(.int (1 : Int32)), (.int (((u4.toUInt32 >>> ((8 : Int32) &&& 31).toUInt32).toInt32) &&& (3 : Int32)))])) _
        refine XS.icmpYes X166.here hx rfl (pc0 := 188) (pc' := 206) rfl (hb hby at_188) rfl (feq hc185).2 (by decide) (by decide) ?_
        show Steps p.tables e below (T166.setTop (mkF m 206 #[iv u0, iv u1, iv u2, iv u3, iv u4, iv xn1, iv xc0, iv xc1, iv xd0, iv xd1, iv xn2, iv xl1, iv xl1, rv sb114, rv sb118, rv b126, rv b152, iv (((u4.toUInt32 >>> ((8 : Int32) &&& 31).toUInt32).toInt32) &&& (3 : Int32)), .unset, .unset] [])) _
        refine XS.iload X166.here hx rfl (hb hby at_206) rfl ?_
        show Steps p.tables e below (T166.setTop (mkF m 208 #[iv u0, iv u1, iv u2, iv u3, iv u4, iv xn1, iv xc0, iv xc1, iv xd0, iv xd1, iv xn2, iv xl1, iv xl1, rv sb114, rv sb118, rv b126, rv b152, iv (((u4.toUInt32 >>> ((8 : Int32) &&& 31).toUInt32).toInt32) &&& (3 : Int32)), .unset, .unset] [(.int (((u4.toUInt32 >>> ((8 : Int32) &&& 31).toUInt32).toInt32) &&& (3 : Int32)))])) _
        refine XS.iconst X166.here hx rfl (hb hby at_208) ?_
        exact k
      by_cases hc188 : (((u4.toUInt32 >>> ((8 : Int32) &&& 31).toUInt32).toInt32) &&& (3 : Int32)) = (2 : Int32)
      · skip
        obtain ⟨cq189, kq189, q189a, q189b, q189c⟩ := isOf hZ rfl f177
        obtain ⟨_, _, ⟨T189, L189, k189, n189⟩, -, X189, ⟨Lc189, hQ189, l189, y189, z189⟩, st189⟩ := X166.virtualBack hx (y := (⟨"com/example/kilit/kilit/source/Location", "equals", "(Ljava/lang/Object;)Z"⟩ : MethodName)) (z := (⟨"com/example/kilit/kilit/source/Location", "equals", "(Ljava/lang/Object;)Z"⟩ : MethodName)) hown (mvT hZ (hw _ (List.mem_of_getElem? (i := 48) rfl))) (mvT hZ (hw _ (List.mem_of_getElem? (i := 49) rfl))) (notFace_of_selects (args := #[]) (mvT hZ (hw _ (List.mem_of_getElem? (i := 51) rfl)))) (mvT hZ (hw _ (List.mem_of_getElem? (i := 51) rfl))) (mvT hZ (hw _ (List.mem_of_getElem? (i := 50) rfl))) (by decide) (backOf (W := 0) (rmEqS l Z a0 hw [] b126 sb114 T166.heap n0 Z166 f169) hZ (hw _ (List.mem_of_getElem? (i := 52) rfl)) (hw _ (List.mem_of_getElem? (i := 33) rfl)) (by decide) (by decide)) q189a q189c (g := (mkF m 216 #[iv u0, iv u1, iv u2, iv u3, iv u4, iv xn1, iv xc0, iv xc1, iv xd0, iv xd1, iv xn2, iv xl1, iv xl1, rv sb114, rv sb118, rv b126, rv b152, iv (((u4.toUInt32 >>> ((8 : Int32) &&& 31).toUInt32).toInt32) &&& (3 : Int32)), .unset, .unset] [(.ref sb114), (.ref b126)])) rfl (by rw [hml]; rfl) (Steps.refl _) (argsL := [(.ref sb114)]) (rest := []) (lenOf pd_3 rfl) rfl (by show 2 * 0 + _ ≤ _; exact Nat.le_of_eq rfl) (hb hby at_216) (fun _ _ => ⟨rfl, rfl, (by decide : 18 + 0 ≤ _), (by decide : 84 + 0 ≤ _)⟩)
        dsimp only [Pt.U, Pt.locs, Pt.cells, Pt.slots] at X189 l189 y189 z189 st189 hQ189
        subst y189 z189
        obtain ⟨rfl, Nq189, eq189⟩ := hQ189
        have N189 : Fr n0 L189 := by rw [l189]; exact Fr.app N166 Nq189
        obtain ⟨fs, hr, hrun, hended, hR1, hR2, hR3, hR4⟩ := Stand.leaveW (s := s) (vm₁ := T166.vm) X189 hS (by rw [eq189]; exact hkq166) (v := some (.int (1 : Int32))) (fun h => by rw [Bd.returns] at h; cases h)
        refine ⟨_, _, S187 _ ?_, hrun, hended, _, _, rfl, ?_, hR1, hR2, hR3, hR4.mono (by decide) (by decide)⟩
        · skip
          show Steps p.tables e below (T166.setTop (mkF m 209 #[iv u0, iv u1, iv u2, iv u3, iv u4, iv xn1, iv xc0, iv xc1, iv xd0, iv xd1, iv xn2, iv xl1, iv xl1, rv sb114, rv sb118, rv b126, rv b152, iv (((u4.toUInt32 >>> ((8 : Int32) &&& 31).toUInt32).toInt32) &&& (3 : Int32)), .unset, .unset] [(.int (2 : Int32)), (.int (((u4.toUInt32 >>> ((8 : Int32) &&& 31).toUInt32).toInt32) &&& (3 : Int32)))])) _
          refine XS.icmpNo X166.here hx rfl (hb hby at_209) rfl (teq hc188).2 ?_
          show Steps p.tables e below (T166.setTop (mkF m 212 #[iv u0, iv u1, iv u2, iv u3, iv u4, iv xn1, iv xc0, iv xc1, iv xd0, iv xd1, iv xn2, iv xl1, iv xl1, rv sb114, rv sb118, rv b126, rv b152, iv (((u4.toUInt32 >>> ((8 : Int32) &&& 31).toUInt32).toInt32) &&& (3 : Int32)), .unset, .unset] [])) _
          refine XS.aload X166.here hx rfl (hb hby at_212) rfl rfl ?_
          show Steps p.tables e below (T166.setTop (mkF m 214 #[iv u0, iv u1, iv u2, iv u3, iv u4, iv xn1, iv xc0, iv xc1, iv xd0, iv xd1, iv xn2, iv xl1, iv xl1, rv sb114, rv sb118, rv b126, rv b152, iv (((u4.toUInt32 >>> ((8 : Int32) &&& 31).toUInt32).toInt32) &&& (3 : Int32)), .unset, .unset] [(.ref b126)])) _
          refine XS.aload X166.here hx rfl (hb hby at_214) rfl rfl ?_
          show Steps p.tables e below (T166.setTop (mkF m 216 #[iv u0, iv u1, iv u2, iv u3, iv u4, iv xn1, iv xc0, iv xc1, iv xd0, iv xd1, iv xn2, iv xl1, iv xl1, rv sb114, rv sb118, rv b126, rv b152, iv (((u4.toUInt32 >>> ((8 : Int32) &&& 31).toUInt32).toInt32) &&& (3 : Int32)), .unset, .unset] [(.ref sb114), (.ref b126)])) _
          refine st189.trans ?_
          show Steps p.tables e below (T189.setTop (mkF m 219 #[iv u0, iv u1, iv u2, iv u3, iv u4, iv xn1, iv xc0, iv xc1, iv xd0, iv xd1, iv xn2, iv xl1, iv xl1, rv sb114, rv sb118, rv b126, rv b152, iv (((u4.toUInt32 >>> ((8 : Int32) &&& 31).toUInt32).toInt32) &&& (3 : Int32)), .unset, .unset] [(.int (0 : Int32))])) _
          refine XS.ifNo X189.here hx rfl (hb hby at_219) rfl ((if0 _ _).trans (teq (by decide : (0 : Int32) = (0 : Int32))).2) ?_
          show Steps p.tables e below (T189.setTop (mkF m 222 #[iv u0, iv u1, iv u2, iv u3, iv u4, iv xn1, iv xc0, iv xc1, iv xd0, iv xd1, iv xn2, iv xl1, iv xl1, rv sb114, rv sb118, rv b126, rv b152, iv (((u4.toUInt32 >>> ((8 : Int32) &&& 31).toUInt32).toInt32) &&& (3 : Int32)), .unset, .unset] [])) _
          refine XS.iconst X189.here hx rfl (hb hby at_222) ?_
          show Steps p.tables e below (T189.setTop (mkF m 223 #[iv u0, iv u1, iv u2, iv u3, iv u4, iv xn1, iv xc0, iv xc1, iv xd0, iv xd1, iv xn2, iv xl1, iv xl1, rv sb114, rv sb118, rv b126, rv b152, iv (((u4.toUInt32 >>> ((8 : Int32) &&& 31).toUInt32).toInt32) &&& (3 : Int32)), .unset, .unset] [(.int (1 : Int32))])) _
          refine XS.goto X189.here hx rfl (pc0 := 223) (pc' := 227) rfl (hb hby at_223) (by decide) (by decide) ?_
          show Steps p.tables e below (T189.setTop (mkF m 227 #[iv u0, iv u1, iv u2, iv u3, iv u4, iv xn1, iv xc0, iv xc1, iv xd0, iv xd1, iv xn2, iv xl1, iv xl1, rv sb114, rv sb118, rv b126, rv b152, iv (((u4.toUInt32 >>> ((8 : Int32) &&& 31).toUInt32).toInt32) &&& (3 : Int32)), .unset, .unset] [(.int (1 : Int32))])) _
          exact retN X189 hx (t := .boolean) Bd.returns (by simp) (hb hby at_227) hr
        · show Q0 Z u0 u1 u2 u3 u4 G1 h0 n0 _ T189.heap _
          rw [eq189]
          exact ⟨rfl, N189⟩
      · skip
        have S190 : ∀ t, Steps p.tables e below (T166.setTop (mkF m 231 #[iv u0, iv u1, iv u2, iv u3, iv u4, iv xn1, iv xc0, iv xc1, iv xd0, iv xd1, iv xn2, iv xl1, iv xl1, rv sb114, rv sb118, rv b126, rv b152, iv (((u4.toUInt32 >>> ((8 : Int32) &&& 31).toUInt32).toInt32) &&& (3 : Int32)), .unset, .unset] [(.int (3 : Int32)), (.int (((u4.toUInt32 >>> ((8 : Int32) &&& 31).toUInt32).toInt32) &&& (3 : Int32)))])) t → Steps p.tables e below (s₁.setTop (entryFrame m #[(.int u0), (.int u1), (.int u2), (.int u3), (.int u4)] maxLocals)) t := by
          intro t k
          refine S187 t ?_
          show Steps p.tables e below (T166.setTop (mkF m 209 #[iv u0, iv u1, iv u2, iv u3, iv u4, iv xn1, iv xc0, iv xc1, iv xd0, iv xd1, iv xn2, iv xl1, iv xl1, rv sb114, rv sb118, rv b126, rv b152, iv (((u4.toUInt32 >>> ((8 : Int32) &&& 31).toUInt32).toInt32) &&& (3 : Int32)), .unset, .unset] [(.int (2 : Int32)), (.int (((u4.toUInt32 >>> ((8 : Int32) &&& 31).toUInt32).toInt32) &&& (3 : Int32)))])) _
          refine XS.icmpYes X166.here hx rfl (pc0 := 209) (pc' := 228) rfl (hb hby at_209) rfl (feq hc188).2 (by decide) (by decide) ?_
          show Steps p.tables e below (T166.setTop (mkF m 228 #[iv u0, iv u1, iv u2, iv u3, iv u4, iv xn1, iv xc0, iv xc1, iv xd0, iv xd1, iv xn2, iv xl1, iv xl1, rv sb114, rv sb118, rv b126, rv b152, iv (((u4.toUInt32 >>> ((8 : Int32) &&& 31).toUInt32).toInt32) &&& (3 : Int32)), .unset, .unset] [])) _
          refine XS.iload X166.here hx rfl (hb hby at_228) rfl ?_
          show Steps p.tables e below (T166.setTop (mkF m 230 #[iv u0, iv u1, iv u2, iv u3, iv u4, iv xn1, iv xc0, iv xc1, iv xd0, iv xd1, iv xn2, iv xl1, iv xl1, rv sb114, rv sb118, rv b126, rv b152, iv (((u4.toUInt32 >>> ((8 : Int32) &&& 31).toUInt32).toInt32) &&& (3 : Int32)), .unset, .unset] [(.int (((u4.toUInt32 >>> ((8 : Int32) &&& 31).toUInt32).toInt32) &&& (3 : Int32)))])) _
          refine XS.iconst X166.here hx rfl (hb hby at_230) ?_
          exact k
        by_cases hc191 : (((u4.toUInt32 >>> ((8 : Int32) &&& 31).toUInt32).toInt32) &&& (3 : Int32)) = (3 : Int32)
        · skip
          obtain ⟨cq192, kq192, q192a, q192b, q192c⟩ := isOf hZ rfl f177
          obtain ⟨_, _, ⟨T192, L192, k192, n192⟩, -, X192, ⟨Lc192, hQ192, l192, y192, z192⟩, st192⟩ := X166.virtualBack hx (y := (⟨"com/example/kilit/kilit/source/Location", "equals", "(Ljava/lang/Object;)Z"⟩ : MethodName)) (z := (⟨"com/example/kilit/kilit/source/Location", "equals", "(Ljava/lang/Object;)Z"⟩ : MethodName)) hown (mvT hZ (hw _ (List.mem_of_getElem? (i := 48) rfl))) (mvT hZ (hw _ (List.mem_of_getElem? (i := 49) rfl))) (notFace_of_selects (args := #[]) (mvT hZ (hw _ (List.mem_of_getElem? (i := 51) rfl)))) (mvT hZ (hw _ (List.mem_of_getElem? (i := 51) rfl))) (mvT hZ (hw _ (List.mem_of_getElem? (i := 50) rfl))) (by decide) (backOf (W := 0) (rmEq l Z a0 hw [] b126 b126 sb114 sb114 (own_mk xn1 xc0 xc1) (own_mk xn1 xc0 xc1) xl1 xl1 G1 T166.heap n0 Z166 Od168 O2 P3 f177 f178 f179 f178 f179 ⟨_, _, _, _, f169, f170, f171, f172, cod114⟩ ⟨_, _, _, _, f169, f170, f171, f172, cod114⟩ (own_mk_ch h_xc0 h_xc1) (own_mk_ch h_xc0 h_xc1) own_mk_len own_mk_len) hZ (hw _ (List.mem_of_getElem? (i := 52) rfl)) (hw _ (List.mem_of_getElem? (i := 33) rfl)) (by decide) (by decide)) q192a q192c (g := (mkF m 238 #[iv u0, iv u1, iv u2, iv u3, iv u4, iv xn1, iv xc0, iv xc1, iv xd0, iv xd1, iv xn2, iv xl1, iv xl1, rv sb114, rv sb118, rv b126, rv b152, iv (((u4.toUInt32 >>> ((8 : Int32) &&& 31).toUInt32).toInt32) &&& (3 : Int32)), .unset, .unset] [(.ref b126), (.ref b126)])) rfl (by rw [hml]; rfl) (Steps.refl _) (argsL := [(.ref b126)]) (rest := []) (lenOf pd_3 rfl) rfl (by show 2 * 0 + _ ≤ _; exact Nat.le_of_eq rfl) (hb hby at_238) (fun _ _ => ⟨rfl, rfl, (by decide : 18 + 0 ≤ _), (by decide : 84 + 0 ≤ _)⟩)
          dsimp only [Pt.U, Pt.locs, Pt.cells, Pt.slots] at X192 l192 y192 z192 st192 hQ192
          subst y192 z192
          obtain ⟨rfl, Nq192, eq192⟩ := hQ192
          have N192 : Fr n0 L192 := by rw [l192]; exact Fr.app N166 Nq192
          have S193 : ∀ t, Steps p.tables e below (T192.setTop (mkF m 241 #[iv u0, iv u1, iv u2, iv u3, iv u4, iv xn1, iv xc0, iv xc1, iv xd0, iv xd1, iv xn2, iv xl1, iv xl1, rv sb114, rv sb118, rv b126, rv b152, iv (((u4.toUInt32 >>> ((8 : Int32) &&& 31).toUInt32).toInt32) &&& (3 : Int32)), .unset, .unset] [(.int (own_leq (own_mk xn1 xc0 xc1) (own_mk xn1 xc0 xc1) xl1 xl1))])) t → Steps p.tables e below (s₁.setTop (entryFrame m #[(.int u0), (.int u1), (.int u2), (.int u3), (.int u4)] maxLocals)) t := by
            intro t k
            refine S190 t ?_
            show Steps p.tables e below (T166.setTop (mkF m 231 #[iv u0, iv u1, iv u2, iv u3, iv u4, iv xn1, iv xc0, iv xc1, iv xd0, iv xd1, iv xn2, iv xl1, iv xl1, rv sb114, rv sb118, rv b126, rv b152, iv (((u4.toUInt32 >>> ((8 : Int32) &&& 31).toUInt32).toInt32) &&& (3 : Int32)), .unset, .unset] [(.int (3 : Int32)), (.int (((u4.toUInt32 >>> ((8 : Int32) &&& 31).toUInt32).toInt32) &&& (3 : Int32)))])) _
            refine XS.icmpNo X166.here hx rfl (hb hby at_231) rfl (teq hc191).2 ?_
            show Steps p.tables e below (T166.setTop (mkF m 234 #[iv u0, iv u1, iv u2, iv u3, iv u4, iv xn1, iv xc0, iv xc1, iv xd0, iv xd1, iv xn2, iv xl1, iv xl1, rv sb114, rv sb118, rv b126, rv b152, iv (((u4.toUInt32 >>> ((8 : Int32) &&& 31).toUInt32).toInt32) &&& (3 : Int32)), .unset, .unset] [])) _
            refine XS.aload X166.here hx rfl (hb hby at_234) rfl rfl ?_
            show Steps p.tables e below (T166.setTop (mkF m 236 #[iv u0, iv u1, iv u2, iv u3, iv u4, iv xn1, iv xc0, iv xc1, iv xd0, iv xd1, iv xn2, iv xl1, iv xl1, rv sb114, rv sb118, rv b126, rv b152, iv (((u4.toUInt32 >>> ((8 : Int32) &&& 31).toUInt32).toInt32) &&& (3 : Int32)), .unset, .unset] [(.ref b126)])) _
            refine XS.aload X166.here hx rfl (hb hby at_236) rfl rfl ?_
            show Steps p.tables e below (T166.setTop (mkF m 238 #[iv u0, iv u1, iv u2, iv u3, iv u4, iv xn1, iv xc0, iv xc1, iv xd0, iv xd1, iv xn2, iv xl1, iv xl1, rv sb114, rv sb118, rv b126, rv b152, iv (((u4.toUInt32 >>> ((8 : Int32) &&& 31).toUInt32).toInt32) &&& (3 : Int32)), .unset, .unset] [(.ref b126), (.ref b126)])) _
            refine st192.trans ?_
            exact k
          rw [own_leq_refl] at S193
          obtain ⟨fs, hr, hrun, hended, hR1, hR2, hR3, hR4⟩ := Stand.leaveW (s := s) (vm₁ := T166.vm) X192 hS (by rw [eq192]; exact hkq166) (v := some (.int (1 : Int32))) (fun h => by rw [Bd.returns] at h; cases h)
          refine ⟨_, _, S193 _ ?_, hrun, hended, _, _, rfl, ?_, hR1, hR2, hR3, hR4.mono (by decide) (by decide)⟩
          · skip
            show Steps p.tables e below (T192.setTop (mkF m 241 #[iv u0, iv u1, iv u2, iv u3, iv u4, iv xn1, iv xc0, iv xc1, iv xd0, iv xd1, iv xn2, iv xl1, iv xl1, rv sb114, rv sb118, rv b126, rv b152, iv (((u4.toUInt32 >>> ((8 : Int32) &&& 31).toUInt32).toInt32) &&& (3 : Int32)), .unset, .unset] [(.int (1 : Int32))])) _
            exact retN X192 hx (t := .boolean) Bd.returns (by simp) (hb hby at_241) hr
          · show Q0 Z u0 u1 u2 u3 u4 G1 h0 n0 _ T192.heap _
            rw [eq192]
            exact ⟨rfl, N192⟩
        · skip
          have S194 : ∀ t, Steps p.tables e below (T166.setTop (mkF m 246 #[iv u0, iv u1, iv u2, iv u3, iv u4, iv xn1, iv xc0, iv xc1, iv xd0, iv xd1, iv xn2, iv xl1, iv xl1, rv sb114, rv sb118, rv b126, rv b152, iv (((u4.toUInt32 >>> ((8 : Int32) &&& 31).toUInt32).toInt32) &&& (3 : Int32)), .unset, .unset] [(.int xn2), (.int xn1)])) t → Steps p.tables e below (s₁.setTop (entryFrame m #[(.int u0), (.int u1), (.int u2), (.int u3), (.int u4)] maxLocals)) t := by
            intro t k
            refine S190 t ?_
            show Steps p.tables e below (T166.setTop (mkF m 231 #[iv u0, iv u1, iv u2, iv u3, iv u4, iv xn1, iv xc0, iv xc1, iv xd0, iv xd1, iv xn2, iv xl1, iv xl1, rv sb114, rv sb118, rv b126, rv b152, iv (((u4.toUInt32 >>> ((8 : Int32) &&& 31).toUInt32).toInt32) &&& (3 : Int32)), .unset, .unset] [(.int (3 : Int32)), (.int (((u4.toUInt32 >>> ((8 : Int32) &&& 31).toUInt32).toInt32) &&& (3 : Int32)))])) _
            refine XS.icmpYes X166.here hx rfl (pc0 := 231) (pc' := 242) rfl (hb hby at_231) rfl (feq hc191).2 (by decide) (by decide) ?_
            show Steps p.tables e below (T166.setTop (mkF m 242 #[iv u0, iv u1, iv u2, iv u3, iv u4, iv xn1, iv xc0, iv xc1, iv xd0, iv xd1, iv xn2, iv xl1, iv xl1, rv sb114, rv sb118, rv b126, rv b152, iv (((u4.toUInt32 >>> ((8 : Int32) &&& 31).toUInt32).toInt32) &&& (3 : Int32)), .unset, .unset] [])) _
            refine XS.iload X166.here hx rfl (hb hby at_242) rfl ?_
            show Steps p.tables e below (T166.setTop (mkF m 244 #[iv u0, iv u1, iv u2, iv u3, iv u4, iv xn1, iv xc0, iv xc1, iv xd0, iv xd1, iv xn2, iv xl1, iv xl1, rv sb114, rv sb118, rv b126, rv b152, iv (((u4.toUInt32 >>> ((8 : Int32) &&& 31).toUInt32).toInt32) &&& (3 : Int32)), .unset, .unset] [(.int xn1)])) _
            refine XS.iload X166.here hx rfl (hb hby at_244) rfl ?_
            exact k
          obtain ⟨xsf, e_xsf⟩ : ∃ z : Int32, z = (if xn1 = xn2 then (if xn1 < (1 : Int32) then (if xn1 < (2 : Int32) then (1 : Int32) else (if xc1 = xd1 then (1 : Int32) else (0 : Int32))) else (if xc0 = xd0 then (if xn1 < (2 : Int32) then (1 : Int32) else (if xc1 = xd1 then (1 : Int32) else (0 : Int32))) else (0 : Int32))) else (0 : Int32)) := ⟨_, rfl⟩
          have S202 : ∀ t, Steps p.tables e below (T166.setTop (mkF m 280 #[iv u0, iv u1, iv u2, iv u3, iv u4, iv xn1, iv xc0, iv xc1, iv xd0, iv xd1, iv xn2, iv xl1, iv xl1, rv sb114, rv sb118, rv b126, rv b152, iv (((u4.toUInt32 >>> ((8 : Int32) &&& 31).toUInt32).toInt32) &&& (3 : Int32)), .unset, .unset] [(.int xsf)])) t → Steps p.tables e below (s₁.setTop (entryFrame m #[(.int u0), (.int u1), (.int u2), (.int u3), (.int u4)] maxLocals)) t := by
            intro t k
            refine S194 t ?_
            by_cases hd195 : xn1 = xn2
            · skip
              by_cases hd196 : xn1 < (1 : Int32)
              · skip
                by_cases hd197 : xn1 < (2 : Int32)
                · skip
                  rw [show xsf = (1 : Int32) from by rw [e_xsf, if_pos hd195, if_pos hd196, if_pos hd197]] at k
                  show Steps p.tables e below (T166.setTop (mkF m 246 #[iv u0, iv u1, iv u2, iv u3, iv u4, iv xn1, iv xc0, iv xc1, iv xd0, iv xd1, iv xn2, iv xl1, iv xl1, rv sb114, rv sb118, rv b126, rv b152, iv (((u4.toUInt32 >>> ((8 : Int32) &&& 31).toUInt32).toInt32) &&& (3 : Int32)), .unset, .unset] [(.int xn2), (.int xn1)])) _
                  refine XS.icmpNo X166.here hx rfl (hb hby at_246) rfl (teq hd195).2 ?_
                  show Steps p.tables e below (T166.setTop (mkF m 249 #[iv u0, iv u1, iv u2, iv u3, iv u4, iv xn1, iv xc0, iv xc1, iv xd0, iv xd1, iv xn2, iv xl1, iv xl1, rv sb114, rv sb118, rv b126, rv b152, iv (((u4.toUInt32 >>> ((8 : Int32) &&& 31).toUInt32).toInt32) &&& (3 : Int32)), .unset, .unset] [])) _
                  refine XS.iload X166.here hx rfl (hb hby at_249) rfl ?_
                  show Steps p.tables e below (T166.setTop (mkF m 251 #[iv u0, iv u1, iv u2, iv u3, iv u4, iv xn1, iv xc0, iv xc1, iv xd0, iv xd1, iv xn2, iv xl1, iv xl1, rv sb114, rv sb118, rv b126, rv b152, iv (((u4.toUInt32 >>> ((8 : Int32) &&& 31).toUInt32).toInt32) &&& (3 : Int32)), .unset, .unset] [(.int xn1)])) _
                  refine XS.iconst X166.here hx rfl (hb hby at_251) ?_
                  show Steps p.tables e below (T166.setTop (mkF m 252 #[iv u0, iv u1, iv u2, iv u3, iv u4, iv xn1, iv xc0, iv xc1, iv xd0, iv xd1, iv xn2, iv xl1, iv xl1, rv sb114, rv sb118, rv b126, rv b152, iv (((u4.toUInt32 >>> ((8 : Int32) &&& 31).toUInt32).toInt32) &&& (3 : Int32)), .unset, .unset] [(.int (1 : Int32)), (.int xn1)])) _
                  refine XS.icmpYes X166.here hx rfl (pc0 := 252) (pc' := 262) rfl (hb hby at_252) rfl (tlt hd196).1 (by decide) (by decide) ?_
                  show Steps p.tables e below (T166.setTop (mkF m 262 #[iv u0, iv u1, iv u2, iv u3, iv u4, iv xn1, iv xc0, iv xc1, iv xd0, iv xd1, iv xn2, iv xl1, iv xl1, rv sb114, rv sb118, rv b126, rv b152, iv (((u4.toUInt32 >>> ((8 : Int32) &&& 31).toUInt32).toInt32) &&& (3 : Int32)), .unset, .unset] [])) _
                  refine XS.iload X166.here hx rfl (hb hby at_262) rfl ?_
                  show Steps p.tables e below (T166.setTop (mkF m 264 #[iv u0, iv u1, iv u2, iv u3, iv u4, iv xn1, iv xc0, iv xc1, iv xd0, iv xd1, iv xn2, iv xl1, iv xl1, rv sb114, rv sb118, rv b126, rv b152, iv (((u4.toUInt32 >>> ((8 : Int32) &&& 31).toUInt32).toInt32) &&& (3 : Int32)), .unset, .unset] [(.int xn1)])) _
                  refine XS.iconst X166.here hx rfl (hb hby at_264) ?_
                  show Steps p.tables e below (T166.setTop (mkF m 265 #[iv u0, iv u1, iv u2, iv u3, iv u4, iv xn1, iv xc0, iv xc1, iv xd0, iv xd1, iv xn2, iv xl1, iv xl1, rv sb114, rv sb118, rv b126, rv b152, iv (((u4.toUInt32 >>> ((8 : Int32) &&& 31).toUInt32).toInt32) &&& (3 : Int32)), .unset, .unset] [(.int (2 : Int32)), (.int xn1)])) _
                  refine XS.icmpYes X166.here hx rfl (pc0 := 265) (pc' := 275) rfl (hb hby at_265) rfl (tlt hd197).1 (by decide) (by decide) ?_
                  show Steps p.tables e below (T166.setTop (mkF m 275 #[iv u0, iv u1, iv u2, iv u3, iv u4, iv xn1, iv xc0, iv xc1, iv xd0, iv xd1, iv xn2, iv xl1, iv xl1, rv sb114, rv sb118, rv b126, rv b152, iv (((u4.toUInt32 >>> ((8 : Int32) &&& 31).toUInt32).toInt32) &&& (3 : Int32)), .unset, .unset] [])) _
                  refine XS.iconst X166.here hx rfl (hb hby at_275) ?_
                  show Steps p.tables e below (T166.setTop (mkF m 276 #[iv u0, iv u1, iv u2, iv u3, iv u4, iv xn1, iv xc0, iv xc1, iv xd0, iv xd1, iv xn2, iv xl1, iv xl1, rv sb114, rv sb118, rv b126, rv b152, iv (((u4.toUInt32 >>> ((8 : Int32) &&& 31).toUInt32).toInt32) &&& (3 : Int32)), .unset, .unset] [(.int (1 : Int32))])) _
                  refine XS.goto X166.here hx rfl (pc0 := 276) (pc' := 280) rfl (hb hby at_276) (by decide) (by decide) ?_
                  exact k
                · skip
                  by_cases hd198 : xc1 = xd1
                  · skip
                    rw [show xsf = (1 : Int32) from by rw [e_xsf, if_pos hd195, if_pos hd196, if_neg hd197, if_pos hd198]] at k
                    show Steps p.tables e below (T166.setTop (mkF m 246 #[iv u0, iv u1, iv u2, iv u3, iv u4, iv xn1, iv xc0, iv xc1, iv xd0, iv xd1, iv xn2, iv xl1, iv xl1, rv sb114, rv sb118, rv b126, rv b152, iv (((u4.toUInt32 >>> ((8 : Int32) &&& 31).toUInt32).toInt32) &&& (3 : Int32)), .unset, .unset] [(.int xn2), (.int xn1)])) _
                    refine XS.icmpNo X166.here hx rfl (hb hby at_246) rfl (teq hd195).2 ?_
                    show Steps p.tables e below (T166.setTop (mkF m 249 #[iv u0, iv u1, iv u2, iv u3, iv u4, iv xn1, iv xc0, iv xc1, iv xd0, iv xd1, iv xn2, iv xl1, iv xl1, rv sb114, rv sb118, rv b126, rv b152, iv (((u4.toUInt32 >>> ((8 : Int32) &&& 31).toUInt32).toInt32) &&& (3 : Int32)), .unset, .unset] [])) _
                    refine XS.iload X166.here hx rfl (hb hby at_249) rfl ?_
                    show Steps p.tables e below (T166.setTop (mkF m 251 #[iv u0, iv u1, iv u2, iv u3, iv u4, iv xn1, iv xc0, iv xc1, iv xd0, iv xd1, iv xn2, iv xl1, iv xl1, rv sb114, rv sb118, rv b126, rv b152, iv (((u4.toUInt32 >>> ((8 : Int32) &&& 31).toUInt32).toInt32) &&& (3 : Int32)), .unset, .unset] [(.int xn1)])) _
                    refine XS.iconst X166.here hx rfl (hb hby at_251) ?_
                    show Steps p.tables e below (T166.setTop (mkF m 252 #[iv u0, iv u1, iv u2, iv u3, iv u4, iv xn1, iv xc0, iv xc1, iv xd0, iv xd1, iv xn2, iv xl1, iv xl1, rv sb114, rv sb118, rv b126, rv b152, iv (((u4.toUInt32 >>> ((8 : Int32) &&& 31).toUInt32).toInt32) &&& (3 : Int32)), .unset, .unset] [(.int (1 : Int32)), (.int xn1)])) _
                    refine XS.icmpYes X166.here hx rfl (pc0 := 252) (pc' := 262) rfl (hb hby at_252) rfl (tlt hd196).1 (by decide) (by decide) ?_
                    show Steps p.tables e below (T166.setTop (mkF m 262 #[iv u0, iv u1, iv u2, iv u3, iv u4, iv xn1, iv xc0, iv xc1, iv xd0, iv xd1, iv xn2, iv xl1, iv xl1, rv sb114, rv sb118, rv b126, rv b152, iv (((u4.toUInt32 >>> ((8 : Int32) &&& 31).toUInt32).toInt32) &&& (3 : Int32)), .unset, .unset] [])) _
                    refine XS.iload X166.here hx rfl (hb hby at_262) rfl ?_
                    show Steps p.tables e below (T166.setTop (mkF m 264 #[iv u0, iv u1, iv u2, iv u3, iv u4, iv xn1, iv xc0, iv xc1, iv xd0, iv xd1, iv xn2, iv xl1, iv xl1, rv sb114, rv sb118, rv b126, rv b152, iv (((u4.toUInt32 >>> ((8 : Int32) &&& 31).toUInt32).toInt32) &&& (3 : Int32)), .unset, .unset] [(.int xn1)])) _
                    refine XS.iconst X166.here hx rfl (hb hby at_264) ?_
                    show Steps p.tables e below (T166.setTop (mkF m 265 #[iv u0, iv u1, iv u2, iv u3, iv u4, iv xn1, iv xc0, iv xc1, iv xd0, iv xd1, iv xn2, iv xl1, iv xl1, rv sb114, rv sb118, rv b126, rv b152, iv (((u4.toUInt32 >>> ((8 : Int32) &&& 31).toUInt32).toInt32) &&& (3 : Int32)), .unset, .unset] [(.int (2 : Int32)), (.int xn1)])) _
                    refine XS.icmpNo X166.here hx rfl (hb hby at_265) rfl (flt hd197).1 ?_
                    show Steps p.tables e below (T166.setTop (mkF m 268 #[iv u0, iv u1, iv u2, iv u3, iv u4, iv xn1, iv xc0, iv xc1, iv xd0, iv xd1, iv xn2, iv xl1, iv xl1, rv sb114, rv sb118, rv b126, rv b152, iv (((u4.toUInt32 >>> ((8 : Int32) &&& 31).toUInt32).toInt32) &&& (3 : Int32)), .unset, .unset] [])) _
                    refine XS.iload X166.here hx rfl (hb hby at_268) rfl ?_
                    show Steps p.tables e below (T166.setTop (mkF m 270 #[iv u0, iv u1, iv u2, iv u3, iv u4, iv xn1, iv xc0, iv xc1, iv xd0, iv xd1, iv xn2, iv xl1, iv xl1, rv sb114, rv sb118, rv b126, rv b152, iv (((u4.toUInt32 >>> ((8 : Int32) &&& 31).toUInt32).toInt32) &&& (3 : Int32)), .unset, .unset] [(.int xc1)])) _
                    refine XS.iload X166.here hx rfl (hb hby at_270) rfl ?_
                    show Steps p.tables e below (T166.setTop (mkF m 272 #[iv u0, iv u1, iv u2, iv u3, iv u4, iv xn1, iv xc0, iv xc1, iv xd0, iv xd1, iv xn2, iv xl1, iv xl1, rv sb114, rv sb118, rv b126, rv b152, iv (((u4.toUInt32 >>> ((8 : Int32) &&& 31).toUInt32).toInt32) &&& (3 : Int32)), .unset, .unset] [(.int xd1), (.int xc1)])) _
                    refine XS.icmpNo X166.here hx rfl (hb hby at_272) rfl (teq hd198).2 ?_
                    show Steps p.tables e below (T166.setTop (mkF m 275 #[iv u0, iv u1, iv u2, iv u3, iv u4, iv xn1, iv xc0, iv xc1, iv xd0, iv xd1, iv xn2, iv xl1, iv xl1, rv sb114, rv sb118, rv b126, rv b152, iv (((u4.toUInt32 >>> ((8 : Int32) &&& 31).toUInt32).toInt32) &&& (3 : Int32)), .unset, .unset] [])) _
                    refine XS.iconst X166.here hx rfl (hb hby at_275) ?_
                    show Steps p.tables e below (T166.setTop (mkF m 276 #[iv u0, iv u1, iv u2, iv u3, iv u4, iv xn1, iv xc0, iv xc1, iv xd0, iv xd1, iv xn2, iv xl1, iv xl1, rv sb114, rv sb118, rv b126, rv b152, iv (((u4.toUInt32 >>> ((8 : Int32) &&& 31).toUInt32).toInt32) &&& (3 : Int32)), .unset, .unset] [(.int (1 : Int32))])) _
                    refine XS.goto X166.here hx rfl (pc0 := 276) (pc' := 280) rfl (hb hby at_276) (by decide) (by decide) ?_
                    exact k
                  · skip
                    rw [show xsf = (0 : Int32) from by rw [e_xsf, if_pos hd195, if_pos hd196, if_neg hd197, if_neg hd198]] at k
                    show Steps p.tables e below (T166.setTop (mkF m 246 #[iv u0, iv u1, iv u2, iv u3, iv u4, iv xn1, iv xc0, iv xc1, iv xd0, iv xd1, iv xn2, iv xl1, iv xl1, rv sb114, rv sb118, rv b126, rv b152, iv (((u4.toUInt32 >>> ((8 : Int32) &&& 31).toUInt32).toInt32) &&& (3 : Int32)), .unset, .unset] [(.int xn2), (.int xn1)])) _
                    refine XS.icmpNo X166.here hx rfl (hb hby at_246) rfl (teq hd195).2 ?_
                    show Steps p.tables e below (T166.setTop (mkF m 249 #[iv u0, iv u1, iv u2, iv u3, iv u4, iv xn1, iv xc0, iv xc1, iv xd0, iv xd1, iv xn2, iv xl1, iv xl1, rv sb114, rv sb118, rv b126, rv b152, iv (((u4.toUInt32 >>> ((8 : Int32) &&& 31).toUInt32).toInt32) &&& (3 : Int32)), .unset, .unset] [])) _
                    refine XS.iload X166.here hx rfl (hb hby at_249) rfl ?_
                    show Steps p.tables e below (T166.setTop (mkF m 251 #[iv u0, iv u1, iv u2, iv u3, iv u4, iv xn1, iv xc0, iv xc1, iv xd0, iv xd1, iv xn2, iv xl1, iv xl1, rv sb114, rv sb118, rv b126, rv b152, iv (((u4.toUInt32 >>> ((8 : Int32) &&& 31).toUInt32).toInt32) &&& (3 : Int32)), .unset, .unset] [(.int xn1)])) _
                    refine XS.iconst X166.here hx rfl (hb hby at_251) ?_
                    show Steps p.tables e below (T166.setTop (mkF m 252 #[iv u0, iv u1, iv u2, iv u3, iv u4, iv xn1, iv xc0, iv xc1, iv xd0, iv xd1, iv xn2, iv xl1, iv xl1, rv sb114, rv sb118, rv b126, rv b152, iv (((u4.toUInt32 >>> ((8 : Int32) &&& 31).toUInt32).toInt32) &&& (3 : Int32)), .unset, .unset] [(.int (1 : Int32)), (.int xn1)])) _
                    refine XS.icmpYes X166.here hx rfl (pc0 := 252) (pc' := 262) rfl (hb hby at_252) rfl (tlt hd196).1 (by decide) (by decide) ?_
                    show Steps p.tables e below (T166.setTop (mkF m 262 #[iv u0, iv u1, iv u2, iv u3, iv u4, iv xn1, iv xc0, iv xc1, iv xd0, iv xd1, iv xn2, iv xl1, iv xl1, rv sb114, rv sb118, rv b126, rv b152, iv (((u4.toUInt32 >>> ((8 : Int32) &&& 31).toUInt32).toInt32) &&& (3 : Int32)), .unset, .unset] [])) _
                    refine XS.iload X166.here hx rfl (hb hby at_262) rfl ?_
                    show Steps p.tables e below (T166.setTop (mkF m 264 #[iv u0, iv u1, iv u2, iv u3, iv u4, iv xn1, iv xc0, iv xc1, iv xd0, iv xd1, iv xn2, iv xl1, iv xl1, rv sb114, rv sb118, rv b126, rv b152, iv (((u4.toUInt32 >>> ((8 : Int32) &&& 31).toUInt32).toInt32) &&& (3 : Int32)), .unset, .unset] [(.int xn1)])) _
                    refine XS.iconst X166.here hx rfl (hb hby at_264) ?_
                    show Steps p.tables e below (T166.setTop (mkF m 265 #[iv u0, iv u1, iv u2, iv u3, iv u4, iv xn1, iv xc0, iv xc1, iv xd0, iv xd1, iv xn2, iv xl1, iv xl1, rv sb114, rv sb118, rv b126, rv b152, iv (((u4.toUInt32 >>> ((8 : Int32) &&& 31).toUInt32).toInt32) &&& (3 : Int32)), .unset, .unset] [(.int (2 : Int32)), (.int xn1)])) _
                    refine XS.icmpNo X166.here hx rfl (hb hby at_265) rfl (flt hd197).1 ?_
                    show Steps p.tables e below (T166.setTop (mkF m 268 #[iv u0, iv u1, iv u2, iv u3, iv u4, iv xn1, iv xc0, iv xc1, iv xd0, iv xd1, iv xn2, iv xl1, iv xl1, rv sb114, rv sb118, rv b126, rv b152, iv (((u4.toUInt32 >>> ((8 : Int32) &&& 31).toUInt32).toInt32) &&& (3 : Int32)), .unset, .unset] [])) _
                    refine XS.iload X166.here hx rfl (hb hby at_268) rfl ?_
                    show Steps p.tables e below (T166.setTop (mkF m 270 #[iv u0, iv u1, iv u2, iv u3, iv u4, iv xn1, iv xc0, iv xc1, iv xd0, iv xd1, iv xn2, iv xl1, iv xl1, rv sb114, rv sb118, rv b126, rv b152, iv (((u4.toUInt32 >>> ((8 : Int32) &&& 31).toUInt32).toInt32) &&& (3 : Int32)), .unset, .unset] [(.int xc1)])) _
                    refine XS.iload X166.here hx rfl (hb hby at_270) rfl ?_
                    show Steps p.tables e below (T166.setTop (mkF m 272 #[iv u0, iv u1, iv u2, iv u3, iv u4, iv xn1, iv xc0, iv xc1, iv xd0, iv xd1, iv xn2, iv xl1, iv xl1, rv sb114, rv sb118, rv b126, rv b152, iv (((u4.toUInt32 >>> ((8 : Int32) &&& 31).toUInt32).toInt32) &&& (3 : Int32)), .unset, .unset] [(.int xd1), (.int xc1)])) _
                    refine XS.icmpYes X166.here hx rfl (pc0 := 272) (pc' := 279) rfl (hb hby at_272) rfl (feq hd198).2 (by decide) (by decide) ?_
                    show Steps p.tables e below (T166.setTop (mkF m 279 #[iv u0, iv u1, iv u2, iv u3, iv u4, iv xn1, iv xc0, iv xc1, iv xd0, iv xd1, iv xn2, iv xl1, iv xl1, rv sb114, rv sb118, rv b126, rv b152, iv (((u4.toUInt32 >>> ((8 : Int32) &&& 31).toUInt32).toInt32) &&& (3 : Int32)), .unset, .unset] [])) _
                    refine XS.iconst X166.here hx rfl (hb hby at_279) ?_
                    exact k
              · skip
                by_cases hd199 : xc0 = xd0
                · skip
                  by_cases hd200 : xn1 < (2 : Int32)
                  · skip
                    rw [show xsf = (1 : Int32) from by rw [e_xsf, if_pos hd195, if_neg hd196, if_pos hd199, if_pos hd200]] at k
                    show Steps p.tables e below (T166.setTop (mkF m 246 #[iv u0, iv u1, iv u2, iv u3, iv u4, iv xn1, iv xc0, iv xc1, iv xd0, iv xd1, iv xn2, iv xl1, iv xl1, rv sb114, rv sb118, rv b126, rv b152, iv (((u4.toUInt32 >>> ((8 : Int32) &&& 31).toUInt32).toInt32) &&& (3 : Int32)), .unset, .unset] [(.int xn2), (.int xn1)])) _
                    refine XS.icmpNo X166.here hx rfl (hb hby at_246) rfl (teq hd195).2 ?_
                    show Steps p.tables e below (T166.setTop (mkF m 249 #[iv u0, iv u1, iv u2, iv u3, iv u4, iv xn1, iv xc0, iv xc1, iv xd0, iv xd1, iv xn2, iv xl1, iv xl1, rv sb114, rv sb118, rv b126, rv b152, iv (((u4.toUInt32 >>> ((8 : Int32) &&& 31).toUInt32).toInt32) &&& (3 : Int32)), .unset, .unset] [])) _
                    refine XS.iload X166.here hx rfl (hb hby at_249) rfl ?_
                    show Steps p.tables e below (T166.setTop (mkF m 251 #[iv u0, iv u1, iv u2, iv u3, iv u4, iv xn1, iv xc0, iv xc1, iv xd0, iv xd1, iv xn2, iv xl1, iv xl1, rv sb114, rv sb118, rv b126, rv b152, iv (((u4.toUInt32 >>> ((8 : Int32) &&& 31).toUInt32).toInt32) &&& (3 : Int32)), .unset, .unset] [(.int xn1)])) _
                    refine XS.iconst X166.here hx rfl (hb hby at_251) ?_
                    show Steps p.tables e below (T166.setTop (mkF m 252 #[iv u0, iv u1, iv u2, iv u3, iv u4, iv xn1, iv xc0, iv xc1, iv xd0, iv xd1, iv xn2, iv xl1, iv xl1, rv sb114, rv sb118, rv b126, rv b152, iv (((u4.toUInt32 >>> ((8 : Int32) &&& 31).toUInt32).toInt32) &&& (3 : Int32)), .unset, .unset] [(.int (1 : Int32)), (.int xn1)])) _
                    refine XS.icmpNo X166.here hx rfl (hb hby at_252) rfl (flt hd196).1 ?_
                    show Steps p.tables e below (T166.setTop (mkF m 255 #[iv u0, iv u1, iv u2, iv u3, iv u4, iv xn1, iv xc0, iv xc1, iv xd0, iv xd1, iv xn2, iv xl1, iv xl1, rv sb114, rv sb118, rv b126, rv b152, iv (((u4.toUInt32 >>> ((8 : Int32) &&& 31).toUInt32).toInt32) &&& (3 : Int32)), .unset, .unset] [])) _
                    refine XS.iload X166.here hx rfl (hb hby at_255) rfl ?_
                    show Steps p.tables e below (T166.setTop (mkF m 257 #[iv u0, iv u1, iv u2, iv u3, iv u4, iv xn1, iv xc0, iv xc1, iv xd0, iv xd1, iv xn2, iv xl1, iv xl1, rv sb114, rv sb118, rv b126, rv b152, iv (((u4.toUInt32 >>> ((8 : Int32) &&& 31).toUInt32).toInt32) &&& (3 : Int32)), .unset, .unset] [(.int xc0)])) _
                    refine XS.iload X166.here hx rfl (hb hby at_257) rfl ?_
                    show Steps p.tables e below (T166.setTop (mkF m 259 #[iv u0, iv u1, iv u2, iv u3, iv u4, iv xn1, iv xc0, iv xc1, iv xd0, iv xd1, iv xn2, iv xl1, iv xl1, rv sb114, rv sb118, rv b126, rv b152, iv (((u4.toUInt32 >>> ((8 : Int32) &&& 31).toUInt32).toInt32) &&& (3 : Int32)), .unset, .unset] [(.int xd0), (.int xc0)])) _
                    refine XS.icmpNo X166.here hx rfl (hb hby at_259) rfl (teq hd199).2 ?_
                    show Steps p.tables e below (T166.setTop (mkF m 262 #[iv u0, iv u1, iv u2, iv u3, iv u4, iv xn1, iv xc0, iv xc1, iv xd0, iv xd1, iv xn2, iv xl1, iv xl1, rv sb114, rv sb118, rv b126, rv b152, iv (((u4.toUInt32 >>> ((8 : Int32) &&& 31).toUInt32).toInt32) &&& (3 : Int32)), .unset, .unset] [])) _
                    refine XS.iload X166.here hx rfl (hb hby at_262) rfl ?_
                    show Steps p.tables e below (T166.setTop (mkF m 264 #[iv u0, iv u1, iv u2, iv u3, iv u4, iv xn1, iv xc0, iv xc1, iv xd0, iv xd1, iv xn2, iv xl1, iv xl1, rv sb114, rv sb118, rv b126, rv b152, iv (((u4.toUInt32 >>> ((8 : Int32) &&& 31).toUInt32).toInt32) &&& (3 : Int32)), .unset, .unset] [(.int xn1)])) _
                    refine XS.iconst X166.here hx rfl (hb hby at_264) ?_
                    show Steps p.tables e below (T166.setTop (mkF m 265 #[iv u0, iv u1, iv u2, iv u3, iv u4, iv xn1, iv xc0, iv xc1, iv xd0, iv xd1, iv xn2, iv xl1, iv xl1, rv sb114, rv sb118, rv b126, rv b152, iv (((u4.toUInt32 >>> ((8 : Int32) &&& 31).toUInt32).toInt32) &&& (3 : Int32)), .unset, .unset] [(.int (2 : Int32)), (.int xn1)])) _
                    refine XS.icmpYes X166.here hx rfl (pc0 := 265) (pc' := 275) rfl (hb hby at_265) rfl (tlt hd200).1 (by decide) (by decide) ?_
                    show Steps p.tables e below (T166.setTop (mkF m 275 #[iv u0, iv u1, iv u2, iv u3, iv u4, iv xn1, iv xc0, iv xc1, iv xd0, iv xd1, iv xn2, iv xl1, iv xl1, rv sb114, rv sb118, rv b126, rv b152, iv (((u4.toUInt32 >>> ((8 : Int32) &&& 31).toUInt32).toInt32) &&& (3 : Int32)), .unset, .unset] [])) _
                    refine XS.iconst X166.here hx rfl (hb hby at_275) ?_
                    show Steps p.tables e below (T166.setTop (mkF m 276 #[iv u0, iv u1, iv u2, iv u3, iv u4, iv xn1, iv xc0, iv xc1, iv xd0, iv xd1, iv xn2, iv xl1, iv xl1, rv sb114, rv sb118, rv b126, rv b152, iv (((u4.toUInt32 >>> ((8 : Int32) &&& 31).toUInt32).toInt32) &&& (3 : Int32)), .unset, .unset] [(.int (1 : Int32))])) _
                    refine XS.goto X166.here hx rfl (pc0 := 276) (pc' := 280) rfl (hb hby at_276) (by decide) (by decide) ?_
                    exact k
                  · skip
                    by_cases hd201 : xc1 = xd1
                    · skip
                      rw [show xsf = (1 : Int32) from by rw [e_xsf, if_pos hd195, if_neg hd196, if_pos hd199, if_neg hd200, if_pos hd201]] at k
                      show Steps p.tables e below (T166.setTop (mkF m 246 #[iv u0, iv u1, iv u2, iv u3, iv u4, iv xn1, iv xc0, iv xc1, iv xd0, iv xd1, iv xn2, iv xl1, iv xl1, rv sb114, rv sb118, rv b126, rv b152, iv (((u4.toUInt32 >>> ((8 : Int32) &&& 31).toUInt32).toInt32) &&& (3 : Int32)), .unset, .unset] [(.int xn2), (.int xn1)])) _
                      refine XS.icmpNo X166.here hx rfl (hb hby at_246) rfl (teq hd195).2 ?_
                      show Steps p.tables e below (T166.setTop (mkF m 249 #[iv u0, iv u1, iv u2, iv u3, iv u4, iv xn1, iv xc0, iv xc1, iv xd0, iv xd1, iv xn2, iv xl1, iv xl1, rv sb114, rv sb118, rv b126, rv b152, iv (((u4.toUInt32 >>> ((8 : Int32) &&& 31).toUInt32).toInt32) &&& (3 : Int32)), .unset, .unset] [])) _
                      refine XS.iload X166.here hx rfl (hb hby at_249) rfl ?_
                      show Steps p.tables e below (T166.setTop (mkF m 251 #[iv u0, iv u1, iv u2, iv u3, iv u4, iv xn1, iv xc0, iv xc1, iv xd0, iv xd1, iv xn2, iv xl1, iv xl1, rv sb114, rv sb118, rv b126, rv b152, iv (((u4.toUInt32 >>> ((8 : Int32) &&& 31).toUInt32).toInt32) &&& (3 : Int32)), .unset, .unset] [(.int xn1)])) _
                      refine XS.iconst X166.here hx rfl (hb hby at_251) ?_
                      show Steps p.tables e below (T166.setTop (mkF m 252 #[iv u0, iv u1, iv u2, iv u3, iv u4, iv xn1, iv xc0, iv xc1, iv xd0, iv xd1, iv xn2, iv xl1, iv xl1, rv sb114, rv sb118, rv b126, rv b152, iv (((u4.toUInt32 >>> ((8 : Int32) &&& 31).toUInt32).toInt32) &&& (3 : Int32)), .unset, .unset] [(.int (1 : Int32)), (.int xn1)])) _
                      refine XS.icmpNo X166.here hx rfl (hb hby at_252) rfl (flt hd196).1 ?_
                      show Steps p.tables e below (T166.setTop (mkF m 255 #[iv u0, iv u1, iv u2, iv u3, iv u4, iv xn1, iv xc0, iv xc1, iv xd0, iv xd1, iv xn2, iv xl1, iv xl1, rv sb114, rv sb118, rv b126, rv b152, iv (((u4.toUInt32 >>> ((8 : Int32) &&& 31).toUInt32).toInt32) &&& (3 : Int32)), .unset, .unset] [])) _
                      refine XS.iload X166.here hx rfl (hb hby at_255) rfl ?_
                      show Steps p.tables e below (T166.setTop (mkF m 257 #[iv u0, iv u1, iv u2, iv u3, iv u4, iv xn1, iv xc0, iv xc1, iv xd0, iv xd1, iv xn2, iv xl1, iv xl1, rv sb114, rv sb118, rv b126, rv b152, iv (((u4.toUInt32 >>> ((8 : Int32) &&& 31).toUInt32).toInt32) &&& (3 : Int32)), .unset, .unset] [(.int xc0)])) _
                      refine XS.iload X166.here hx rfl (hb hby at_257) rfl ?_
                      show Steps p.tables e below (T166.setTop (mkF m 259 #[iv u0, iv u1, iv u2, iv u3, iv u4, iv xn1, iv xc0, iv xc1, iv xd0, iv xd1, iv xn2, iv xl1, iv xl1, rv sb114, rv sb118, rv b126, rv b152, iv (((u4.toUInt32 >>> ((8 : Int32) &&& 31).toUInt32).toInt32) &&& (3 : Int32)), .unset, .unset] [(.int xd0), (.int xc0)])) _
                      refine XS.icmpNo X166.here hx rfl (hb hby at_259) rfl (teq hd199).2 ?_
                      show Steps p.tables e below (T166.setTop (mkF m 262 #[iv u0, iv u1, iv u2, iv u3, iv u4, iv xn1, iv xc0, iv xc1, iv xd0, iv xd1, iv xn2, iv xl1, iv xl1, rv sb114, rv sb118, rv b126, rv b152, iv (((u4.toUInt32 >>> ((8 : Int32) &&& 31).toUInt32).toInt32) &&& (3 : Int32)), .unset, .unset] [])) _
                      refine XS.iload X166.here hx rfl (hb hby at_262) rfl ?_
                      show Steps p.tables e below (T166.setTop (mkF m 264 #[iv u0, iv u1, iv u2, iv u3, iv u4, iv xn1, iv xc0, iv xc1, iv xd0, iv xd1, iv xn2, iv xl1, iv xl1, rv sb114, rv sb118, rv b126, rv b152, iv (((u4.toUInt32 >>> ((8 : Int32) &&& 31).toUInt32).toInt32) &&& (3 : Int32)), .unset, .unset] [(.int xn1)])) _
                      refine XS.iconst X166.here hx rfl (hb hby at_264) ?_
                      show Steps p.tables e below (T166.setTop (mkF m 265 #[iv u0, iv u1, iv u2, iv u3, iv u4, iv xn1, iv xc0, iv xc1, iv xd0, iv xd1, iv xn2, iv xl1, iv xl1, rv sb114, rv sb118, rv b126, rv b152, iv (((u4.toUInt32 >>> ((8 : Int32) &&& 31).toUInt32).toInt32) &&& (3 : Int32)), .unset, .unset] [(.int (2 : Int32)), (.int xn1)])) _
                      refine XS.icmpNo X166.here hx rfl (hb hby at_265) rfl (flt hd200).1 ?_
                      show Steps p.tables e below (T166.setTop (mkF m 268 #[iv u0, iv u1, iv u2, iv u3, iv u4, iv xn1, iv xc0, iv xc1, iv xd0, iv xd1, iv xn2, iv xl1, iv xl1, rv sb114, rv sb118, rv b126, rv b152, iv (((u4.toUInt32 >>> ((8 : Int32) &&& 31).toUInt32).toInt32) &&& (3 : Int32)), .unset, .unset] [])) _
                      refine XS.iload X166.here hx rfl (hb hby at_268) rfl ?_
                      show Steps p.tables e below (T166.setTop (mkF m 270 #[iv u0, iv u1, iv u2, iv u3, iv u4, iv xn1, iv xc0, iv xc1, iv xd0, iv xd1, iv xn2, iv xl1, iv xl1, rv sb114, rv sb118, rv b126, rv b152, iv (((u4.toUInt32 >>> ((8 : Int32) &&& 31).toUInt32).toInt32) &&& (3 : Int32)), .unset, .unset] [(.int xc1)])) _
                      refine XS.iload X166.here hx rfl (hb hby at_270) rfl ?_
                      show Steps p.tables e below (T166.setTop (mkF m 272 #[iv u0, iv u1, iv u2, iv u3, iv u4, iv xn1, iv xc0, iv xc1, iv xd0, iv xd1, iv xn2, iv xl1, iv xl1, rv sb114, rv sb118, rv b126, rv b152, iv (((u4.toUInt32 >>> ((8 : Int32) &&& 31).toUInt32).toInt32) &&& (3 : Int32)), .unset, .unset] [(.int xd1), (.int xc1)])) _
                      refine XS.icmpNo X166.here hx rfl (hb hby at_272) rfl (teq hd201).2 ?_
                      show Steps p.tables e below (T166.setTop (mkF m 275 #[iv u0, iv u1, iv u2, iv u3, iv u4, iv xn1, iv xc0, iv xc1, iv xd0, iv xd1, iv xn2, iv xl1, iv xl1, rv sb114, rv sb118, rv b126, rv b152, iv (((u4.toUInt32 >>> ((8 : Int32) &&& 31).toUInt32).toInt32) &&& (3 : Int32)), .unset, .unset] [])) _
                      refine XS.iconst X166.here hx rfl (hb hby at_275) ?_
                      show Steps p.tables e below (T166.setTop (mkF m 276 #[iv u0, iv u1, iv u2, iv u3, iv u4, iv xn1, iv xc0, iv xc1, iv xd0, iv xd1, iv xn2, iv xl1, iv xl1, rv sb114, rv sb118, rv b126, rv b152, iv (((u4.toUInt32 >>> ((8 : Int32) &&& 31).toUInt32).toInt32) &&& (3 : Int32)), .unset, .unset] [(.int (1 : Int32))])) _
                      refine XS.goto X166.here hx rfl (pc0 := 276) (pc' := 280) rfl (hb hby at_276) (by decide) (by decide) ?_
                      exact k
                    · skip
                      rw [show xsf = (0 : Int32) from by rw [e_xsf, if_pos hd195, if_neg hd196, if_pos hd199, if_neg hd200, if_neg hd201]] at k
                      show Steps p.tables e below (T166.setTop (mkF m 246 #[iv u0, iv u1, iv u2, iv u3, iv u4, iv xn1, iv xc0, iv xc1, iv xd0, iv xd1, iv xn2, iv xl1, iv xl1, rv sb114, rv sb118, rv b126, rv b152, iv (((u4.toUInt32 >>> ((8 : Int32) &&& 31).toUInt32).toInt32) &&& (3 : Int32)), .unset, .unset] [(.int xn2), (.int xn1)])) _
                      refine XS.icmpNo X166.here hx rfl (hb hby at_246) rfl (teq hd195).2 ?_
                      show Steps p.tables e below (T166.setTop (mkF m 249 #[iv u0, iv u1, iv u2, iv u3, iv u4, iv xn1, iv xc0, iv xc1, iv xd0, iv xd1, iv xn2, iv xl1, iv xl1, rv sb114, rv sb118, rv b126, rv b152, iv (((u4.toUInt32 >>> ((8 : Int32) &&& 31).toUInt32).toInt32) &&& (3 : Int32)), .unset, .unset] [])) _
                      refine XS.iload X166.here hx rfl (hb hby at_249) rfl ?_
                      show Steps p.tables e below (T166.setTop (mkF m 251 #[iv u0, iv u1, iv u2, iv u3, iv u4, iv xn1, iv xc0, iv xc1, iv xd0, iv xd1, iv xn2, iv xl1, iv xl1, rv sb114, rv sb118, rv b126, rv b152, iv (((u4.toUInt32 >>> ((8 : Int32) &&& 31).toUInt32).toInt32) &&& (3 : Int32)), .unset, .unset] [(.int xn1)])) _
                      refine XS.iconst X166.here hx rfl (hb hby at_251) ?_
                      show Steps p.tables e below (T166.setTop (mkF m 252 #[iv u0, iv u1, iv u2, iv u3, iv u4, iv xn1, iv xc0, iv xc1, iv xd0, iv xd1, iv xn2, iv xl1, iv xl1, rv sb114, rv sb118, rv b126, rv b152, iv (((u4.toUInt32 >>> ((8 : Int32) &&& 31).toUInt32).toInt32) &&& (3 : Int32)), .unset, .unset] [(.int (1 : Int32)), (.int xn1)])) _
                      refine XS.icmpNo X166.here hx rfl (hb hby at_252) rfl (flt hd196).1 ?_
                      show Steps p.tables e below (T166.setTop (mkF m 255 #[iv u0, iv u1, iv u2, iv u3, iv u4, iv xn1, iv xc0, iv xc1, iv xd0, iv xd1, iv xn2, iv xl1, iv xl1, rv sb114, rv sb118, rv b126, rv b152, iv (((u4.toUInt32 >>> ((8 : Int32) &&& 31).toUInt32).toInt32) &&& (3 : Int32)), .unset, .unset] [])) _
                      refine XS.iload X166.here hx rfl (hb hby at_255) rfl ?_
                      show Steps p.tables e below (T166.setTop (mkF m 257 #[iv u0, iv u1, iv u2, iv u3, iv u4, iv xn1, iv xc0, iv xc1, iv xd0, iv xd1, iv xn2, iv xl1, iv xl1, rv sb114, rv sb118, rv b126, rv b152, iv (((u4.toUInt32 >>> ((8 : Int32) &&& 31).toUInt32).toInt32) &&& (3 : Int32)), .unset, .unset] [(.int xc0)])) _
                      refine XS.iload X166.here hx rfl (hb hby at_257) rfl ?_
                      show Steps p.tables e below (T166.setTop (mkF m 259 #[iv u0, iv u1, iv u2, iv u3, iv u4, iv xn1, iv xc0, iv xc1, iv xd0, iv xd1, iv xn2, iv xl1, iv xl1, rv sb114, rv sb118, rv b126, rv b152, iv (((u4.toUInt32 >>> ((8 : Int32) &&& 31).toUInt32).toInt32) &&& (3 : Int32)), .unset, .unset] [(.int xd0), (.int xc0)])) _
                      refine XS.icmpNo X166.here hx rfl (hb hby at_259) rfl (teq hd199).2 ?_
                      show Steps p.tables e below (T166.setTop (mkF m 262 #[iv u0, iv u1, iv u2, iv u3, iv u4, iv xn1, iv xc0, iv xc1, iv xd0, iv xd1, iv xn2, iv xl1, iv xl1, rv sb114, rv sb118, rv b126, rv b152, iv (((u4.toUInt32 >>> ((8 : Int32) &&& 31).toUInt32).toInt32) &&& (3 : Int32)), .unset, .unset] [])) _
                      refine XS.iload X166.here hx rfl (hb hby at_262) rfl ?_
                      show Steps p.tables e below (T166.setTop (mkF m 264 #[iv u0, iv u1, iv u2, iv u3, iv u4, iv xn1, iv xc0, iv xc1, iv xd0, iv xd1, iv xn2, iv xl1, iv xl1, rv sb114, rv sb118, rv b126, rv b152, iv (((u4.toUInt32 >>> ((8 : Int32) &&& 31).toUInt32).toInt32) &&& (3 : Int32)), .unset, .unset] [(.int xn1)])) _
                      refine XS.iconst X166.here hx rfl (hb hby at_264) ?_
                      show Steps p.tables e below (T166.setTop (mkF m 265 #[iv u0, iv u1, iv u2, iv u3, iv u4, iv xn1, iv xc0, iv xc1, iv xd0, iv xd1, iv xn2, iv xl1, iv xl1, rv sb114, rv sb118, rv b126, rv b152, iv (((u4.toUInt32 >>> ((8 : Int32) &&& 31).toUInt32).toInt32) &&& (3 : Int32)), .unset, .unset] [(.int (2 : Int32)), (.int xn1)])) _
                      refine XS.icmpNo X166.here hx rfl (hb hby at_265) rfl (flt hd200).1 ?_
                      show Steps p.tables e below (T166.setTop (mkF m 268 #[iv u0, iv u1, iv u2, iv u3, iv u4, iv xn1, iv xc0, iv xc1, iv xd0, iv xd1, iv xn2, iv xl1, iv xl1, rv sb114, rv sb118, rv b126, rv b152, iv (((u4.toUInt32 >>> ((8 : Int32) &&& 31).toUInt32).toInt32) &&& (3 : Int32)), .unset, .unset] [])) _
                      refine XS.iload X166.here hx rfl (hb hby at_268) rfl ?_
                      show Steps p.tables e below (T166.setTop (mkF m 270 #[iv u0, iv u1, iv u2, iv u3, iv u4, iv xn1, iv xc0, iv xc1, iv xd0, iv xd1, iv xn2, iv xl1, iv xl1, rv sb114, rv sb118, rv b126, rv b152, iv (((u4.toUInt32 >>> ((8 : Int32) &&& 31).toUInt32).toInt32) &&& (3 : Int32)), .unset, .unset] [(.int xc1)])) _
                      refine XS.iload X166.here hx rfl (hb hby at_270) rfl ?_
                      show Steps p.tables e below (T166.setTop (mkF m 272 #[iv u0, iv u1, iv u2, iv u3, iv u4, iv xn1, iv xc0, iv xc1, iv xd0, iv xd1, iv xn2, iv xl1, iv xl1, rv sb114, rv sb118, rv b126, rv b152, iv (((u4.toUInt32 >>> ((8 : Int32) &&& 31).toUInt32).toInt32) &&& (3 : Int32)), .unset, .unset] [(.int xd1), (.int xc1)])) _
                      refine XS.icmpYes X166.here hx rfl (pc0 := 272) (pc' := 279) rfl (hb hby at_272) rfl (feq hd201).2 (by decide) (by decide) ?_
                      show Steps p.tables e below (T166.setTop (mkF m 279 #[iv u0, iv u1, iv u2, iv u3, iv u4, iv xn1, iv xc0, iv xc1, iv xd0, iv xd1, iv xn2, iv xl1, iv xl1, rv sb114, rv sb118, rv b126, rv b152, iv (((u4.toUInt32 >>> ((8 : Int32) &&& 31).toUInt32).toInt32) &&& (3 : Int32)), .unset, .unset] [])) _
                      refine XS.iconst X166.here hx rfl (hb hby at_279) ?_
                      exact k
                · skip
                  rw [show xsf = (0 : Int32) from by rw [e_xsf, if_pos hd195, if_neg hd196, if_neg hd199]] at k
                  show Steps p.tables e below (T166.setTop (mkF m 246 #[iv u0, iv u1, iv u2, iv u3, iv u4, iv xn1, iv xc0, iv xc1, iv xd0, iv xd1, iv xn2, iv xl1, iv xl1, rv sb114, rv sb118, rv b126, rv b152, iv (((u4.toUInt32 >>> ((8 : Int32) &&& 31).toUInt32).toInt32) &&& (3 : Int32)), .unset, .unset] [(.int xn2), (.int xn1)])) _
                  refine XS.icmpNo X166.here hx rfl (hb hby at_246) rfl (teq hd195).2 ?_
                  show Steps p.tables e below (T166.setTop (mkF m 249 #[iv u0, iv u1, iv u2, iv u3, iv u4, iv xn1, iv xc0, iv xc1, iv xd0, iv xd1, iv xn2, iv xl1, iv xl1, rv sb114, rv sb118, rv b126, rv b152, iv (((u4.toUInt32 >>> ((8 : Int32) &&& 31).toUInt32).toInt32) &&& (3 : Int32)), .unset, .unset] [])) _
                  refine XS.iload X166.here hx rfl (hb hby at_249) rfl ?_
                  show Steps p.tables e below (T166.setTop (mkF m 251 #[iv u0, iv u1, iv u2, iv u3, iv u4, iv xn1, iv xc0, iv xc1, iv xd0, iv xd1, iv xn2, iv xl1, iv xl1, rv sb114, rv sb118, rv b126, rv b152, iv (((u4.toUInt32 >>> ((8 : Int32) &&& 31).toUInt32).toInt32) &&& (3 : Int32)), .unset, .unset] [(.int xn1)])) _
                  refine XS.iconst X166.here hx rfl (hb hby at_251) ?_
                  show Steps p.tables e below (T166.setTop (mkF m 252 #[iv u0, iv u1, iv u2, iv u3, iv u4, iv xn1, iv xc0, iv xc1, iv xd0, iv xd1, iv xn2, iv xl1, iv xl1, rv sb114, rv sb118, rv b126, rv b152, iv (((u4.toUInt32 >>> ((8 : Int32) &&& 31).toUInt32).toInt32) &&& (3 : Int32)), .unset, .unset] [(.int (1 : Int32)), (.int xn1)])) _
                  refine XS.icmpNo X166.here hx rfl (hb hby at_252) rfl (flt hd196).1 ?_
                  show Steps p.tables e below (T166.setTop (mkF m 255 #[iv u0, iv u1, iv u2, iv u3, iv u4, iv xn1, iv xc0, iv xc1, iv xd0, iv xd1, iv xn2, iv xl1, iv xl1, rv sb114, rv sb118, rv b126, rv b152, iv (((u4.toUInt32 >>> ((8 : Int32) &&& 31).toUInt32).toInt32) &&& (3 : Int32)), .unset, .unset] [])) _
                  refine XS.iload X166.here hx rfl (hb hby at_255) rfl ?_
                  show Steps p.tables e below (T166.setTop (mkF m 257 #[iv u0, iv u1, iv u2, iv u3, iv u4, iv xn1, iv xc0, iv xc1, iv xd0, iv xd1, iv xn2, iv xl1, iv xl1, rv sb114, rv sb118, rv b126, rv b152, iv (((u4.toUInt32 >>> ((8 : Int32) &&& 31).toUInt32).toInt32) &&& (3 : Int32)), .unset, .unset] [(.int xc0)])) _
                  refine XS.iload X166.here hx rfl (hb hby at_257) rfl ?_
                  show Steps p.tables e below (T166.setTop (mkF m 259 #[iv u0, iv u1, iv u2, iv u3, iv u4, iv xn1, iv xc0, iv xc1, iv xd0, iv xd1, iv xn2, iv xl1, iv xl1, rv sb114, rv sb118, rv b126, rv b152, iv (((u4.toUInt32 >>> ((8 : Int32) &&& 31).toUInt32).toInt32) &&& (3 : Int32)), .unset, .unset] [(.int xd0), (.int xc0)])) _
                  refine XS.icmpYes X166.here hx rfl (pc0 := 259) (pc' := 279) rfl (hb hby at_259) rfl (feq hd199).2 (by decide) (by decide) ?_
                  show Steps p.tables e below (T166.setTop (mkF m 279 #[iv u0, iv u1, iv u2, iv u3, iv u4, iv xn1, iv xc0, iv xc1, iv xd0, iv xd1, iv xn2, iv xl1, iv xl1, rv sb114, rv sb118, rv b126, rv b152, iv (((u4.toUInt32 >>> ((8 : Int32) &&& 31).toUInt32).toInt32) &&& (3 : Int32)), .unset, .unset] [])) _
                  refine XS.iconst X166.here hx rfl (hb hby at_279) ?_
                  exact k
            · skip
              rw [show xsf = (0 : Int32) from by rw [e_xsf, if_neg hd195]] at k
              show Steps p.tables e below (T166.setTop (mkF m 246 #[iv u0, iv u1, iv u2, iv u3, iv u4, iv xn1, iv xc0, iv xc1, iv xd0, iv xd1, iv xn2, iv xl1, iv xl1, rv sb114, rv sb118, rv b126, rv b152, iv (((u4.toUInt32 >>> ((8 : Int32) &&& 31).toUInt32).toInt32) &&& (3 : Int32)), .unset, .unset] [(.int xn2), (.int xn1)])) _
              refine XS.icmpYes X166.here hx rfl (pc0 := 246) (pc' := 279) rfl (hb hby at_246) rfl (feq hd195).2 (by decide) (by decide) ?_
              show Steps p.tables e below (T166.setTop (mkF m 279 #[iv u0, iv u1, iv u2, iv u3, iv u4, iv xn1, iv xc0, iv xc1, iv xd0, iv xd1, iv xn2, iv xl1, iv xl1, rv sb114, rv sb118, rv b126, rv b152, iv (((u4.toUInt32 >>> ((8 : Int32) &&& 31).toUInt32).toInt32) &&& (3 : Int32)), .unset, .unset] [])) _
              refine XS.iconst X166.here hx rfl (hb hby at_279) ?_
              exact k
          have S203 : ∀ t, Steps p.tables e below (T166.setTop (mkF m 284 #[iv u0, iv u1, iv u2, iv u3, iv u4, iv xn1, iv xc0, iv xc1, iv xd0, iv xd1, iv xn2, iv xl1, iv xl1, rv sb114, rv sb118, rv b126, rv b152, iv (((u4.toUInt32 >>> ((8 : Int32) &&& 31).toUInt32).toInt32) &&& (3 : Int32)), iv xsf, .unset] [(.int xsf)])) t → Steps p.tables e below (s₁.setTop (entryFrame m #[(.int u0), (.int u1), (.int u2), (.int u3), (.int u4)] maxLocals)) t := by
            intro t k
            refine S202 t ?_
            show Steps p.tables e below (T166.setTop (mkF m 280 #[iv u0, iv u1, iv u2, iv u3, iv u4, iv xn1, iv xc0, iv xc1, iv xd0, iv xd1, iv xn2, iv xl1, iv xl1, rv sb114, rv sb118, rv b126, rv b152, iv (((u4.toUInt32 >>> ((8 : Int32) &&& 31).toUInt32).toInt32) &&& (3 : Int32)), .unset, .unset] [(.int xsf)])) _
            refine XS.istore X166.here hx rfl (hb hby at_280) rfl (l' := #[iv u0, iv u1, iv u2, iv u3, iv u4, iv xn1, iv xc0, iv xc1, iv xd0, iv xd1, iv xn2, iv xl1, iv xl1, rv sb114, rv sb118, rv b126, rv b152, iv (((u4.toUInt32 >>> ((8 : Int32) &&& 31).toUInt32).toInt32) &&& (3 : Int32)), iv xsf, .unset]) rfl ?_
            show Steps p.tables e below (T166.setTop (mkF m 282 #[iv u0, iv u1, iv u2, iv u3, iv u4, iv xn1, iv xc0, iv xc1, iv xd0, iv xd1, iv xn2, iv xl1, iv xl1, rv sb114, rv sb118, rv b126, rv b152, iv (((u4.toUInt32 >>> ((8 : Int32) &&& 31).toUInt32).toInt32) &&& (3 : Int32)), iv xsf, .unset] [])) _
            refine XS.iload X166.here hx rfl (hb hby at_282) rfl ?_
            exact k
          obtain ⟨xex, e_xex⟩ : ∃ z : Int32, z = (if xsf = (0 : Int32) then (0 : Int32) else (1 : Int32)) := ⟨_, rfl⟩
          have S205 : ∀ t, Steps p.tables e below (T166.setTop (mkF m 299 #[iv u0, iv u1, iv u2, iv u3, iv u4, iv xn1, iv xc0, iv xc1, iv xd0, iv xd1, iv xn2, iv xl1, iv xl1, rv sb114, rv sb118, rv b126, rv b152, iv (((u4.toUInt32 >>> ((8 : Int32) &&& 31).toUInt32).toInt32) &&& (3 : Int32)), iv xsf, .unset] [(.int xex)])) t → Steps p.tables e below (s₁.setTop (entryFrame m #[(.int u0), (.int u1), (.int u2), (.int u3), (.int u4)] maxLocals)) t := by
            intro t k
            refine S203 t ?_
            by_cases hd204 : xsf = (0 : Int32)
            · skip
              rw [show xex = (0 : Int32) from by rw [e_xex, if_pos hd204]] at k
              show Steps p.tables e below (T166.setTop (mkF m 284 #[iv u0, iv u1, iv u2, iv u3, iv u4, iv xn1, iv xc0, iv xc1, iv xd0, iv xd1, iv xn2, iv xl1, iv xl1, rv sb114, rv sb118, rv b126, rv b152, iv (((u4.toUInt32 >>> ((8 : Int32) &&& 31).toUInt32).toInt32) &&& (3 : Int32)), iv xsf, .unset] [(.int xsf)])) _
              refine XS.ifYes X166.here hx rfl (pc0 := 284) (pc' := 298) rfl (hb hby at_284) rfl ((if0 _ _).trans (teq hd204).1) (by decide) (by decide) ?_
              show Steps p.tables e below (T166.setTop (mkF m 298 #[iv u0, iv u1, iv u2, iv u3, iv u4, iv xn1, iv xc0, iv xc1, iv xd0, iv xd1, iv xn2, iv xl1, iv xl1, rv sb114, rv sb118, rv b126, rv b152, iv (((u4.toUInt32 >>> ((8 : Int32) &&& 31).toUInt32).toInt32) &&& (3 : Int32)), iv xsf, .unset] [])) _
              refine XS.iconst X166.here hx rfl (hb hby at_298) ?_
              exact k
            · skip
              rw [show xex = (1 : Int32) from by rw [e_xex, if_neg hd204]] at k
              show Steps p.tables e below (T166.setTop (mkF m 284 #[iv u0, iv u1, iv u2, iv u3, iv u4, iv xn1, iv xc0, iv xc1, iv xd0, iv xd1, iv xn2, iv xl1, iv xl1, rv sb114, rv sb118, rv b126, rv b152, iv (((u4.toUInt32 >>> ((8 : Int32) &&& 31).toUInt32).toInt32) &&& (3 : Int32)), iv xsf, .unset] [(.int xsf)])) _
              refine XS.ifNo X166.here hx rfl (hb hby at_284) rfl ((if0 _ _).trans (feq hd204).1) ?_
              show Steps p.tables e below (T166.setTop (mkF m 287 #[iv u0, iv u1, iv u2, iv u3, iv u4, iv xn1, iv xc0, iv xc1, iv xd0, iv xd1, iv xn2, iv xl1, iv xl1, rv sb114, rv sb118, rv b126, rv b152, iv (((u4.toUInt32 >>> ((8 : Int32) &&& 31).toUInt32).toInt32) &&& (3 : Int32)), iv xsf, .unset] [])) _
              refine XS.iload X166.here hx rfl (hb hby at_287) rfl ?_
              show Steps p.tables e below (T166.setTop (mkF m 289 #[iv u0, iv u1, iv u2, iv u3, iv u4, iv xn1, iv xc0, iv xc1, iv xd0, iv xd1, iv xn2, iv xl1, iv xl1, rv sb114, rv sb118, rv b126, rv b152, iv (((u4.toUInt32 >>> ((8 : Int32) &&& 31).toUInt32).toInt32) &&& (3 : Int32)), iv xsf, .unset] [(.int xl1)])) _
              refine XS.iload X166.here hx rfl (hb hby at_289) rfl ?_
              show Steps p.tables e below (T166.setTop (mkF m 291 #[iv u0, iv u1, iv u2, iv u3, iv u4, iv xn1, iv xc0, iv xc1, iv xd0, iv xd1, iv xn2, iv xl1, iv xl1, rv sb114, rv sb118, rv b126, rv b152, iv (((u4.toUInt32 >>> ((8 : Int32) &&& 31).toUInt32).toInt32) &&& (3 : Int32)), iv xsf, .unset] [(.int xl1), (.int xl1)])) _
              refine XS.icmpNo X166.here hx rfl (hb hby at_291) rfl (teq rfl).2 ?_
              show Steps p.tables e below (T166.setTop (mkF m 294 #[iv u0, iv u1, iv u2, iv u3, iv u4, iv xn1, iv xc0, iv xc1, iv xd0, iv xd1, iv xn2, iv xl1, iv xl1, rv sb114, rv sb118, rv b126, rv b152, iv (((u4.toUInt32 >>> ((8 : Int32) &&& 31).toUInt32).toInt32) &&& (3 : Int32)), iv xsf, .unset] [])) _
              refine XS.iconst X166.here hx rfl (hb hby at_294) ?_
              show Steps p.tables e below (T166.setTop (mkF m 295 #[iv u0, iv u1, iv u2, iv u3, iv u4, iv xn1, iv xc0, iv xc1, iv xd0, iv xd1, iv xn2, iv xl1, iv xl1, rv sb114, rv sb118, rv b126, rv b152, iv (((u4.toUInt32 >>> ((8 : Int32) &&& 31).toUInt32).toInt32) &&& (3 : Int32)), iv xsf, .unset] [(.int (1 : Int32))])) _
              refine XS.goto X166.here hx rfl (pc0 := 295) (pc' := 299) rfl (hb hby at_295) (by decide) (by decide) ?_
              exact k
          obtain ⟨cq206, kq206, q206a, q206b, q206c⟩ := isOf hZ rfl f177
          obtain ⟨_, _, ⟨T206, L206, k206, n206⟩, -, X206, ⟨Lc206, hQ206, l206, y206, z206⟩, st206⟩ := X166.virtualBack hx (y := (⟨"com/example/kilit/kilit/source/Location", "equals", "(Ljava/lang/Object;)Z"⟩ : MethodName)) (z := (⟨"com/example/kilit/kilit/source/Location", "equals", "(Ljava/lang/Object;)Z"⟩ : MethodName)) hown (mvT hZ (hw _ (List.mem_of_getElem? (i := 48) rfl))) (mvT hZ (hw _ (List.mem_of_getElem? (i := 49) rfl))) (notFace_of_selects (args := #[]) (mvT hZ (hw _ (List.mem_of_getElem? (i := 51) rfl)))) (mvT hZ (hw _ (List.mem_of_getElem? (i := 51) rfl))) (mvT hZ (hw _ (List.mem_of_getElem? (i := 50) rfl))) (by decide) (backOf (W := 0) (rmEq l Z a0 hw [] b126 b152 sb114 sb118 (own_mk xn1 xc0 xc1) (own_mk xn2 xd0 xd1) xl1 xl1 G1 T166.heap n0 Z166 Od168 O2 P3 Eq166 f178 f179 Ff166 Fl166 ⟨_, _, _, _, f169, f170, f171, f172, cod114⟩ ⟨_, _, _, _, f173, f174, f175, f176, cod118⟩ (own_mk_ch h_xc0 h_xc1) (own_mk_ch h_xd0 h_xd1) own_mk_len own_mk_len) hZ (hw _ (List.mem_of_getElem? (i := 52) rfl)) (hw _ (List.mem_of_getElem? (i := 33) rfl)) (by decide) (by decide)) q206a q206c (g := (mkF m 305 #[iv u0, iv u1, iv u2, iv u3, iv u4, iv xn1, iv xc0, iv xc1, iv xd0, iv xd1, iv xn2, iv xl1, iv xl1, rv sb114, rv sb118, rv b126, rv b152, iv (((u4.toUInt32 >>> ((8 : Int32) &&& 31).toUInt32).toInt32) &&& (3 : Int32)), iv xsf, iv xex] [(.ref b152), (.ref b126)])) rfl (by rw [hml]; rfl) (Steps.refl _) (argsL := [(.ref b152)]) (rest := []) (lenOf pd_3 rfl) rfl (by show 2 * 0 + _ ≤ _; exact Nat.le_of_eq rfl) (hb hby at_305) (fun _ _ => ⟨rfl, rfl, (by decide : 18 + 0 ≤ _), (by decide : 84 + 0 ≤ _)⟩)
          dsimp only [Pt.U, Pt.locs, Pt.cells, Pt.slots] at X206 l206 y206 z206 st206 hQ206
          subst y206 z206
          obtain ⟨rfl, Nq206, eq206⟩ := hQ206
          have N206 : Fr n0 L206 := by rw [l206]; exact Fr.app N166 Nq206
          obtain ⟨cq207, kq207, q207a, q207b, q207c⟩ := isOf hZ eq206 Eq166
          obtain ⟨_, _, ⟨T207, L207, k207, n207⟩, -, X207, ⟨Lc207, hQ207, l207, y207, z207⟩, st207⟩ := X206.virtualBack hx (y := (⟨"com/example/kilit/kilit/source/Location", "equals", "(Ljava/lang/Object;)Z"⟩ : MethodName)) (z := (⟨"com/example/kilit/kilit/source/Location", "equals", "(Ljava/lang/Object;)Z"⟩ : MethodName)) hown (mvT hZ (hw _ (List.mem_of_getElem? (i := 48) rfl))) (mvT hZ (hw _ (List.mem_of_getElem? (i := 49) rfl))) (notFace_of_selects (args := #[]) (mvT hZ (hw _ (List.mem_of_getElem? (i := 51) rfl)))) (mvT hZ (hw _ (List.mem_of_getElem? (i := 51) rfl))) (mvT hZ (hw _ (List.mem_of_getElem? (i := 50) rfl))) (by decide) (backOf (W := 0) (rmEq l Z a0 hw [] b152 b126 sb118 sb114 (own_mk xn2 xd0 xd1) (own_mk xn1 xc0 xc1) xl1 xl1 G1 T166.heap n0 Z166 Od168 O2 P3 f177 Ff166 Fl166 f178 f179 ⟨_, _, _, _, f173, f174, f175, f176, cod118⟩ ⟨_, _, _, _, f169, f170, f171, f172, cod114⟩ (own_mk_ch h_xd0 h_xd1) (own_mk_ch h_xc0 h_xc1) own_mk_len own_mk_len) hZ (hw _ (List.mem_of_getElem? (i := 52) rfl)) (hw _ (List.mem_of_getElem? (i := 33) rfl)) (by decide) (by decide)) q207a q207c (g := (mkF m 317 #[iv u0, iv u1, iv u2, iv u3, iv u4, iv xn1, iv xc0, iv xc1, iv xd0, iv xd1, iv xn2, iv xl1, iv xl1, rv sb114, rv sb118, rv b126, rv b152, iv (((u4.toUInt32 >>> ((8 : Int32) &&& 31).toUInt32).toInt32) &&& (3 : Int32)), iv xsf, iv xex] [(.ref b126), (.ref b152)])) rfl (by rw [hml]; rfl) (Steps.refl _) (argsL := [(.ref b126)]) (rest := []) (lenOf pd_3 rfl) rfl (by show 2 * 0 + _ ≤ _; exact Nat.le_of_eq rfl) (hb hby at_317) (fun _ _ => ⟨rfl, eq206, (by decide : 18 + 0 ≤ _), (by decide : 84 + 0 ≤ _)⟩)
          dsimp only [Pt.U, Pt.locs, Pt.cells, Pt.slots] at X207 l207 y207 z207 st207 hQ207
          subst y207 z207
          obtain ⟨rfl, Nq207, eq207⟩ := hQ207
          have N207 : Fr n0 L207 := by rw [l207]; exact Fr.app N206 Nq207
          obtain ⟨fs, hr, hrun, hended, hR1, hR2, hR3, hR4⟩ := Stand.leaveW (s := s) (vm₁ := T166.vm) X207 hS (by rw [eq207]; exact hkq166) (v := some (.int (1 : Int32))) (fun h => by rw [Bd.returns] at h; cases h)
          refine ⟨_, _, S205 _ ?_, hrun, hended, _, _, rfl, ?_, hR1, hR2, hR3, hR4.mono (by decide) (by decide)⟩
          · skip
            show Steps p.tables e below (T166.setTop (mkF m 299 #[iv u0, iv u1, iv u2, iv u3, iv u4, iv xn1, iv xc0, iv xc1, iv xd0, iv xd1, iv xn2, iv xl1, iv xl1, rv sb114, rv sb118, rv b126, rv b152, iv (((u4.toUInt32 >>> ((8 : Int32) &&& 31).toUInt32).toInt32) &&& (3 : Int32)), iv xsf, .unset] [(.int xex)])) _
            refine XS.istore X166.here hx rfl (hb hby at_299) rfl (l' := #[iv u0, iv u1, iv u2, iv u3, iv u4, iv xn1, iv xc0, iv xc1, iv xd0, iv xd1, iv xn2, iv xl1, iv xl1, rv sb114, rv sb118, rv b126, rv b152, iv (((u4.toUInt32 >>> ((8 : Int32) &&& 31).toUInt32).toInt32) &&& (3 : Int32)), iv xsf, iv xex]) rfl ?_
            show Steps p.tables e below (T166.setTop (mkF m 301 #[iv u0, iv u1, iv u2, iv u3, iv u4, iv xn1, iv xc0, iv xc1, iv xd0, iv xd1, iv xn2, iv xl1, iv xl1, rv sb114, rv sb118, rv b126, rv b152, iv (((u4.toUInt32 >>> ((8 : Int32) &&& 31).toUInt32).toInt32) &&& (3 : Int32)), iv xsf, iv xex] [])) _
            refine XS.aload X166.here hx rfl (hb hby at_301) rfl rfl ?_
            show Steps p.tables e below (T166.setTop (mkF m 303 #[iv u0, iv u1, iv u2, iv u3, iv u4, iv xn1, iv xc0, iv xc1, iv xd0, iv xd1, iv xn2, iv xl1, iv xl1, rv sb114, rv sb118, rv b126, rv b152, iv (((u4.toUInt32 >>> ((8 : Int32) &&& 31).toUInt32).toInt32) &&& (3 : Int32)), iv xsf, iv xex] [(.ref b126)])) _
            refine XS.aload X166.here hx rfl (hb hby at_303) rfl rfl ?_
            show Steps p.tables e below (T166.setTop (mkF m 305 #[iv u0, iv u1, iv u2, iv u3, iv u4, iv xn1, iv xc0, iv xc1, iv xd0, iv xd1, iv xn2, iv xl1, iv xl1, rv sb114, rv sb118, rv b126, rv b152, iv (((u4.toUInt32 >>> ((8 : Int32) &&& 31).toUInt32).toInt32) &&& (3 : Int32)), iv xsf, iv xex] [(.ref b152), (.ref b126)])) _
            refine st206.trans ?_
            show Steps p.tables e below (T206.setTop (mkF m 308 #[iv u0, iv u1, iv u2, iv u3, iv u4, iv xn1, iv xc0, iv xc1, iv xd0, iv xd1, iv xn2, iv xl1, iv xl1, rv sb114, rv sb118, rv b126, rv b152, iv (((u4.toUInt32 >>> ((8 : Int32) &&& 31).toUInt32).toInt32) &&& (3 : Int32)), iv xsf, iv xex] [(.int (own_leq (own_mk xn1 xc0 xc1) (own_mk xn2 xd0 xd1) xl1 xl1))])) _
            refine XS.iload X206.here hx rfl (hb hby at_308) rfl ?_
            show Steps p.tables e below (T206.setTop (mkF m 310 #[iv u0, iv u1, iv u2, iv u3, iv u4, iv xn1, iv xc0, iv xc1, iv xd0, iv xd1, iv xn2, iv xl1, iv xl1, rv sb114, rv sb118, rv b126, rv b152, iv (((u4.toUInt32 >>> ((8 : Int32) &&& 31).toUInt32).toInt32) &&& (3 : Int32)), iv xsf, iv xex] [(.int xex), (.int (own_leq (own_mk xn1 xc0 xc1) (own_mk xn2 xd0 xd1) xl1 xl1))])) _
            refine XS.icmpNo X206.here hx rfl (hb hby at_310) rfl (teq (own_fin (a := xl1) (b := xl1) h_xn1 h_xn2 e_xsf (e_xex.trans (by rw [if_pos (rfl : xl1 = xl1)]))).1).2 ?_
            show Steps p.tables e below (T206.setTop (mkF m 313 #[iv u0, iv u1, iv u2, iv u3, iv u4, iv xn1, iv xc0, iv xc1, iv xd0, iv xd1, iv xn2, iv xl1, iv xl1, rv sb114, rv sb118, rv b126, rv b152, iv (((u4.toUInt32 >>> ((8 : Int32) &&& 31).toUInt32).toInt32) &&& (3 : Int32)), iv xsf, iv xex] [])) _
            refine XS.aload X206.here hx rfl (hb hby at_313) rfl rfl ?_
            show Steps p.tables e below (T206.setTop (mkF m 315 #[iv u0, iv u1, iv u2, iv u3, iv u4, iv xn1, iv xc0, iv xc1, iv xd0, iv xd1, iv xn2, iv xl1, iv xl1, rv sb114, rv sb118, rv b126, rv b152, iv (((u4.toUInt32 >>> ((8 : Int32) &&& 31).toUInt32).toInt32) &&& (3 : Int32)), iv xsf, iv xex] [(.ref b152)])) _
            refine XS.aload X206.here hx rfl (hb hby at_315) rfl rfl ?_
            show Steps p.tables e below (T206.setTop (mkF m 317 #[iv u0, iv u1, iv u2, iv u3, iv u4, iv xn1, iv xc0, iv xc1, iv xd0, iv xd1, iv xn2, iv xl1, iv xl1, rv sb114, rv sb118, rv b126, rv b152, iv (((u4.toUInt32 >>> ((8 : Int32) &&& 31).toUInt32).toInt32) &&& (3 : Int32)), iv xsf, iv xex] [(.ref b126), (.ref b152)])) _
            refine st207.trans ?_
            show Steps p.tables e below (T207.setTop (mkF m 320 #[iv u0, iv u1, iv u2, iv u3, iv u4, iv xn1, iv xc0, iv xc1, iv xd0, iv xd1, iv xn2, iv xl1, iv xl1, rv sb114, rv sb118, rv b126, rv b152, iv (((u4.toUInt32 >>> ((8 : Int32) &&& 31).toUInt32).toInt32) &&& (3 : Int32)), iv xsf, iv xex] [(.int (own_leq (own_mk xn2 xd0 xd1) (own_mk xn1 xc0 xc1) xl1 xl1))])) _
            refine XS.iload X207.here hx rfl (hb hby at_320) rfl ?_
            show Steps p.tables e below (T207.setTop (mkF m 322 #[iv u0, iv u1, iv u2, iv u3, iv u4, iv xn1, iv xc0, iv xc1, iv xd0, iv xd1, iv xn2, iv xl1, iv xl1, rv sb114, rv sb118, rv b126, rv b152, iv (((u4.toUInt32 >>> ((8 : Int32) &&& 31).toUInt32).toInt32) &&& (3 : Int32)), iv xsf, iv xex] [(.int xex), (.int (own_leq (own_mk xn2 xd0 xd1) (own_mk xn1 xc0 xc1) xl1 xl1))])) _
            refine XS.icmpNo X207.here hx rfl (hb hby at_322) rfl (teq (own_fin (a := xl1) (b := xl1) h_xn1 h_xn2 e_xsf (e_xex.trans (by rw [if_pos (rfl : xl1 = xl1)]))).2).2 ?_
            show Steps p.tables e below (T207.setTop (mkF m 325 #[iv u0, iv u1, iv u2, iv u3, iv u4, iv xn1, iv xc0, iv xc1, iv xd0, iv xd1, iv xn2, iv xl1, iv xl1, rv sb114, rv sb118, rv b126, rv b152, iv (((u4.toUInt32 >>> ((8 : Int32) &&& 31).toUInt32).toInt32) &&& (3 : Int32)), iv xsf, iv xex] [])) _
            refine XS.iconst X207.here hx rfl (hb hby at_325) ?_
            show Steps p.tables e below (T207.setTop (mkF m 326 #[iv u0, iv u1, iv u2, iv u3, iv u4, iv xn1, iv xc0, iv xc1, iv xd0, iv xd1, iv xn2, iv xl1, iv xl1, rv sb114, rv sb118, rv b126, rv b152, iv (((u4.toUInt32 >>> ((8 : Int32) &&& 31).toUInt32).toInt32) &&& (3 : Int32)), iv xsf, iv xex] [(.int (1 : Int32))])) _
            refine XS.goto X207.here hx rfl (pc0 := 326) (pc' := 330) rfl (hb hby at_326) (by decide) (by decide) ?_
            show Steps p.tables e below (T207.setTop (mkF m 330 #[iv u0, iv u1, iv u2, iv u3, iv u4, iv xn1, iv xc0, iv xc1, iv xd0, iv xd1, iv xn2, iv xl1, iv xl1, rv sb114, rv sb118, rv b126, rv b152, iv (((u4.toUInt32 >>> ((8 : Int32) &&& 31).toUInt32).toInt32) &&& (3 : Int32)), iv xsf, iv xex] [(.int (1 : Int32))])) _
            exact retN X207 hx (t := .boolean) Bd.returns (by simp) (hb hby at_330) hr
          · show Q0 Z u0 u1 u2 u3 u4 G1 h0 n0 _ T207.heap _
            rw [eq207]
            exact ⟨rfl, N207⟩
set_option maxRecDepth 65536 in
set_option maxHeartbeats 40000000 in
theorem comes_1 {Post : Tables → Env → Array Value → State → Outcome → State → Prop} (hpost : ∀ tb e args s v u, (limb_1_1.after args s (.returned v) u = true ∧ limb_1_2.after args s (.returned v) u = true ∧ True) → ReturnedEndW s (.returned v) u (Jvm.fieldLocs frame_1_writes args s ++ Jvm.arrayLocs frame_1_arrays args s ++ Jvm.staticLocs frame_1_statics s) 32 2176 → Post tb e args s (.returned v) u) :
    ArmFor flags0 classFile x code maxLocals ret World_1 tables_1 room_1 Calls_1 rest_1 Pre_1 Post := by
  intro l hfl _ _ p e ha hc hk s m args below hf hA hF happ hP
  obtain ⟨hcalls, hrest, hpre⟩ := hP
  obtain ⟨-, -, -, hnamed, -, -, -, hat⟩ := (Spec.applies_iff hf).mp happ
  obtain ⟨hg, hn⟩ := and_e (Cond.before_iff.mp (show (Jvm.Cond.and given_1 narrow_1).before args s = true from hpre))
  obtain ⟨g1, g2⟩ := and_e hg
  obtain ⟨g3, g4⟩ := and_e g2
  obtain ⟨g5, g6⟩ := and_e g4
  obtain ⟨g7, g8⟩ := and_e g6
  obtain ⟨g9, g10⟩ := and_e g8
  obtain ⟨w0, w1, w2, w3, w4, rfl⟩ : ∃ w0 w1 w2 w3 w4 : Value, args = #[w0, w1, w2, w3, w4] := by
    have hs : args.size = 5 := by simpa [Cond.value, given_1] using g1
    obtain ⟨L⟩ := args
    match L, hs with
    | [w0, w1, w2, w3, w4], _ => exact ⟨w0, w1, w2, w3, w4, rfl⟩
  have hw := fun d (hd : d ∈ tables_1) => atoms_spec (ws := Jvm.Cond.code x code maxLocals ret :: tables_1) hat d (List.mem_cons_of_mem _ hd)
  have hfit : Fit s := fun {y c} hc i hi => by
    obtain ⟨ha, rfl⟩ := Array.getElem?_eq_some_iff.mp hc
    have q := List.all_eq_true.mp ((Array.all_eq_true_iff_forall_mem.mp hF) _ (Array.getElem_mem ha)) i (List.mem_range.mpr hi)
    simpa [Array.getElem?_eq_getElem hi] using q
  obtain ⟨hsets, hown0⟩ := atoms_of _ (rest_1_c_eq ▸ (show rest_1_c.before _ s = true from hrest))
  have hr0 := Cond.before_iff.mp hown0
  obtain ⟨i0, ei0⟩ := is_v g3
  obtain rfl : w0 = (.int i0) := Option.some.inj ei0
  obtain ⟨i1, ei1⟩ := is_v g5
  obtain rfl : w1 = (.int i1) := Option.some.inj ei1
  obtain ⟨i2, ei2⟩ := is_v g7
  obtain rfl : w2 = (.int i2) := Option.some.inj ei2
  obtain ⟨i3, ei3⟩ := is_v g9
  obtain rfl : w3 = (.int i3) := Option.some.inj ei3
  obtain ⟨i4, ei4⟩ := is_v g10
  obtain rfl : w4 = (.int i4) := Option.some.inj ei4
  have n3 := not_v (Cond.before_iff.mp (hsets _ (List.mem_of_getElem? (i := 2) rfl)))
  obtain ⟨G1, e6⟩ := is_v (Cond.before_iff.mp (hsets _ (List.mem_of_getElem? (i := 1) rfl)))
  have S8 : Sta s s.heap "java/lang/String" "COMPACT_STRINGS" "Z" (.int G1) := Sta.start e6 (Or.inl (hsets _ (List.mem_of_getElem? (i := 0) rfl)))
  have c9_ : ¬ (G1 = (0 : Int32)) := gotF (Cond.eq_ints e6 (Term.int_eval (0))) n3
  have hCH : CHv s own_EL s.vm s.heap := CHv.start (EW.cons (hw _ (List.mem_of_getElem? (i := 23) rfl)) (by decide) EW.nil) (fun p_ hp_ => hcalls.1 p_ (List.mem_cons_of_mem _ hp_)) (show Jvm.Lit.compactW.before _ s = true from (hsets _ (List.mem_of_getElem? (i := 2) rfl))) (hw _ (List.mem_of_getElem? (i := 24) rfl)) (hw _ (List.mem_of_getElem? (i := 10) rfl))
  obtain ⟨n, o, h1, h2, h3, _, L, rfl, ⟨rfl, N⟩, hq⟩ := rm0 l s _ hw tables_1 i0 i1 i2 i3 i4 G1 s.heap s.heap.size (Nat.le_refl _) (Old.start s) S8 c9_ p e ha hc hk s m _ below hf ((Spec.applies_iff_loose hf).mp happ).1 ⟨rfl, State.Warmed39.refl s, rfl, hCH⟩ trivial
  refine ⟨n, _, h1, h2, h3, hpost _ _ _ _ _ _ ⟨Cond.after_iff.mpr rfl, Cond.after_iff.mpr (eq_i res_at (Term.int_eval (1)) rfl), trivial⟩ ⟨hq.1, hq.2.1, hq.2.2.1, (hq.2.2.2.sift fun y hy => Or.inr (N y hy)).mono (by decide) (by decide)⟩⟩
theorem main_1_1 : Claimed_1_1 := comes_1 fun _ _ _ _ _ _ h hF => ⟨h.1, hF⟩
theorem main_1_2 : Claimed_1_2 := comes_1 fun _ _ _ _ _ _ h hF => ⟨h.2.1, hF⟩
end Jvm.Pilot.@@N@@
namespace Jvm.Pilot.@@N@@
open Jvm Jvm.ClassFile Sem Op Lib Jvm.Free Jvm.Stand Jvm.Pilot.@@N@@.Jvm.D
/-! MADE BY PROGRAM (witnessworld.py) out of the Statement's table words and the real class files: 22 classes; the members and pool entries that the words name. The judged class is class 1, her method 2. -/
namespace start1
open Jvm.ClassFile
def u (s : String) : CpInfo := .utf8 (stringToUtf16 s)
/-- a pool by its gaps: so many unusable entries, then the entry; so many at the end -/
def gap : Nat → List CpInfo → List CpInfo
  | 0, r => r
  | n + 1, r => .unusable :: gap n r
def poolList (es : List (Nat × CpInfo)) (last : Nat) : List CpInfo := es.foldr (fun e r => gap e.1 (e.2 :: r)) (gap last [])
def pool (es : List (Nat × CpInfo)) (last : Nat) : Array CpInfo := ⟨poolList es last⟩
def fileOf (pool : Array CpInfo) (this : Nat) (attrs : Array Attribute := #[]) (ms : Array MethodInfo := #[]) (fl : Nat := 33) (sup : Nat := 0) (ifs : Array Nat := #[]) (fds : Array FieldInfo := #[]) : ClassFile where
  minorVersion := 0
  majorVersion := 65
  constantPool := pool
  accessFlags := fl
  thisClass := this
  superClass := sup
  interfaces := ifs
  fields := fds
  methods := ms
  attributes := attrs
def plain (name : String) (sup : Option ClassId) : Class where
  name := name
  kind := .ordinary
  loader := none
  accessFlags := 33
  super := sup
  interfaces := #[]
  cf := none
  fields := #[]
  methods := #[]
  instanceTypes := #[]
  staticTypes := #[]
  resolved := #[]
  callSites := []
  init := .initialized
  statics := none
  mirror := none

def pool0 : Array CpInfo := pool [(5, u "<init>"), (0, u "()V"), (1, .class_ 10), (1, u "java/lang/Object")] 113

def k0c0 : Code := { maxStack := 0, maxLocals := 1, code := object_method_1_code, exceptionTable := #[], attributes := #[] }
def k0m0 : Method := { name := "<init>", desc := "()V", sig := { parameters := [], returnType := none }, accessFlags := 1, code := some k0c0 }
/-- java/lang/Object -/
def k0 : Class := { plain "java/lang/Object" none with
  accessFlags := 33
  interfaces := #[]
  cf := some (fileOf pool0 8 #[] #[{ accessFlags := 1, nameIndex := 5, descriptorIndex := 6, attributes := #[] }] 33 0 #[] #[])
  fields := #[]
  methods := #[k0m0]
  instanceTypes := #[]
  staticTypes := #[]
  resolved := Array.replicate 124 none
  statics := none }

def pool1 : Array CpInfo := pool [(2, .class_ 4), (1, u "java/lang/Object"), (0, u "<init>"), (0, u "()V"), (0, .class_ 8), (0, u "java/lang/String"), (0, .methodref 7 10), (0, .nameAndType 5 11), (0, u "([C)V"), (0, .integer 2147483647), (0, .methodref 14 15), (0, .class_ 16), (0, .nameAndType 17 18), (0, u "java/lang/Math"), (0, u "max"), (0, u "(II)I"), (0, .methodref 20 21), (0, .class_ 22), (0, .nameAndType 23 24), (0, u "com/example/kilit/kilit/source/LocationEqualsPinLaw"), (0, u "mk"), (0, u "(ICC)Ljava/lang/String;"), (0, .class_ 26), (0, u "com/example/kilit/kilit/source/Location"), (0, .methodref 25 28), (0, .nameAndType 5 29), (0, u "(Ljava/lang/String;I)V"), (0, .methodref 25 31), (0, .nameAndType 32 33), (0, u "equals"), (0, u "(Ljava/lang/Object;)Z"), (3, u "law"), (0, u "(IIIII)Z")] 2

def k1m0 : Method := { name := "<init>", desc := "()V", sig := { parameters := [], returnType := none }, accessFlags := 1, code := none }
def k1c1 : Code := { maxStack := 6, maxLocals := 3, code := method_2_code, exceptionTable := #[], attributes := #[] }
def k1m1 : Method := { name := "mk", desc := "(ICC)Ljava/lang/String;", sig := { parameters := [.int, .char, .char], returnType := some (.object "java/lang/String") }, accessFlags := 10, code := some k1c1 }
def k1c2 : Code := { maxStack := 4, maxLocals := 20, code := code, exceptionTable := #[], attributes := #[] }
def k1m2 : Method := { name := "law", desc := "(IIIII)Z", sig := { parameters := [.int, .int, .int, .int, .int], returnType := some .boolean }, accessFlags := 9, code := some k1c2 }
/-- com/example/kilit/kilit/source/LocationEqualsPinLaw -/
def k1 : Class := { plain "com/example/kilit/kilit/source/LocationEqualsPinLaw" (some 0) with
  accessFlags := 49
  interfaces := #[]
  cf := some (fileOf pool1 20 #[] #[{ accessFlags := 1, nameIndex := 5, descriptorIndex := 6, attributes := #[] }, { accessFlags := 10, nameIndex := 23, descriptorIndex := 24, attributes := #[] }, { accessFlags := 9, nameIndex := 37, descriptorIndex := 38, attributes := #[] }] 49 2 #[] #[])
  fields := #[]
  methods := #[k1m0, k1m1, k1m2]
  instanceTypes := #[]
  staticTypes := #[]
  resolved := Array.replicate 41 none
  statics := none }

def pool2 : Array CpInfo := pool [(1, .class_ 2), (0, u "java/lang/Math"), (1, .class_ 6), (1, u "java/lang/Object"), (0, u "<init>"), (0, u "()V"), (89, .class_ 100), (1, u "java/lang/Math$RandomNumberGeneratorHolder"), (71, u "negativeZeroFloatBits"), (0, u "J"), (2, u "negativeZeroDoubleBits"), (21, u "max"), (46, u "$assertionsDisabled"), (0, u "Z"), (88, u "(II)I"), (2, u "twoToTheDoubleScaleDown"), (0, u "D"), (4, u "twoToTheDoubleScaleUp"), (9, u "E"), (3, u "PI"), (2, u "TAU"), (2, u "DEGREES_TO_RADIANS"), (0, u "RADIANS_TO_DEGREES")] 94

def k2m0 : Method := { name := "<init>", desc := "()V", sig := { parameters := [], returnType := none }, accessFlags := 2, code := none }
def k2c1 : Code := { maxStack := 2, maxLocals := 2, code := jdk_29_method_65_code, exceptionTable := #[], attributes := #[] }
def k2m1 : Method := { name := "max", desc := "(II)I", sig := { parameters := [.int, .int], returnType := some .int }, accessFlags := 9, code := some k2c1 }
/-- java/lang/Math -/
def k2 : Class := { plain "java/lang/Math" (some 0) with
  accessFlags := 49
  interfaces := #[]
  cf := some (fileOf pool2 1 #[.nestMembers #[98]] #[{ accessFlags := 2, nameIndex := 7, descriptorIndex := 8, attributes := #[] }, { accessFlags := 9, nameIndex := 198, descriptorIndex := 335, attributes := #[] }] 49 4 #[] #[{ accessFlags := 25, nameIndex := 354, descriptorIndex := 339, attributes := #[] }, { accessFlags := 25, nameIndex := 358, descriptorIndex := 339, attributes := #[] }, { accessFlags := 25, nameIndex := 361, descriptorIndex := 339, attributes := #[] }, { accessFlags := 26, nameIndex := 364, descriptorIndex := 339, attributes := #[] }, { accessFlags := 26, nameIndex := 365, descriptorIndex := 339, attributes := #[] }, { accessFlags := 26, nameIndex := 172, descriptorIndex := 173, attributes := #[] }, { accessFlags := 26, nameIndex := 176, descriptorIndex := 173, attributes := #[] }, { accessFlags := 8, nameIndex := 344, descriptorIndex := 339, attributes := #[] }, { accessFlags := 8, nameIndex := 338, descriptorIndex := 339, attributes := #[] }, { accessFlags := 4120, nameIndex := 245, descriptorIndex := 246, attributes := #[] }])
  fields := #[{ name := "E", type := .double, accessFlags := 25, slot := 0, constantValue := 0 }, { name := "PI", type := .double, accessFlags := 25, slot := 1, constantValue := 0 }, { name := "TAU", type := .double, accessFlags := 25, slot := 2, constantValue := 0 }, { name := "DEGREES_TO_RADIANS", type := .double, accessFlags := 26, slot := 3, constantValue := 0 }, { name := "RADIANS_TO_DEGREES", type := .double, accessFlags := 26, slot := 4, constantValue := 0 }, { name := "negativeZeroFloatBits", type := .long, accessFlags := 26, slot := 5, constantValue := 0 }, { name := "negativeZeroDoubleBits", type := .long, accessFlags := 26, slot := 6, constantValue := 0 }, { name := "twoToTheDoubleScaleUp", type := .double, accessFlags := 8, slot := 7, constantValue := 0 }, { name := "twoToTheDoubleScaleDown", type := .double, accessFlags := 8, slot := 8, constantValue := 0 }, { name := "$assertionsDisabled", type := .boolean, accessFlags := 4120, slot := 9, constantValue := 0 }]
  methods := #[k2m0, k2m1]
  instanceTypes := #[]
  staticTypes := #[.double, .double, .double, .double, .double, .long, .long, .double, .double, .boolean]
  resolved := Array.replicate 460 none
  statics := none }

def pool3 : Array CpInfo := pool [(1, .class_ 2), (0, u "java/io/Serializable"), (0, .class_ 4), (0, u "java/lang/Object")] 2

/-- java/io/Serializable -/
def k3 : Class := { plain "java/io/Serializable" (some 0) with
  accessFlags := 1537
  interfaces := #[]
  cf := some (fileOf pool3 1 #[] #[] 1537 3 #[] #[])
  fields := #[]
  methods := #[]
  instanceTypes := #[]
  staticTypes := #[]
  resolved := Array.replicate 7 none
  statics := none }

def pool4 : Array CpInfo := pool [(1, .class_ 2), (0, u "java/lang/Comparable"), (0, .class_ 4), (0, u "java/lang/Object")] 7

/-- java/lang/Comparable -/
def k4 : Class := { plain "java/lang/Comparable" (some 0) with
  accessFlags := 1537
  interfaces := #[]
  cf := some (fileOf pool4 1 #[] #[] 1537 3 #[] #[])
  fields := #[]
  methods := #[]
  instanceTypes := #[]
  staticTypes := #[]
  resolved := Array.replicate 12 none
  statics := none }

def pool5 : Array CpInfo := pool [(2, .class_ 4), (1, u "java/lang/CharSequence"), (42, .class_ 48), (0, u "java/lang/CharSequence$1CodePointIterator"), (10, .class_ 60), (0, u "java/lang/CharSequence$1CharIterator"), (5, .class_ 67), (0, u "java/lang/Object")] 63

/-- java/lang/CharSequence -/
def k5 : Class := { plain "java/lang/CharSequence" (some 0) with
  accessFlags := 1537
  interfaces := #[]
  cf := some (fileOf pool5 2 #[.nestMembers #[47, 59]] #[] 1537 66 #[] #[])
  fields := #[]
  methods := #[]
  instanceTypes := #[]
  staticTypes := #[]
  resolved := Array.replicate 131 none
  statics := none }

def pool6 : Array CpInfo := pool [(1, .class_ 2), (0, u "java/lang/constant/Constable"), (0, .class_ 4), (0, u "java/lang/Object")] 6

/-- java/lang/constant/Constable -/
def k6 : Class := { plain "java/lang/constant/Constable" (some 0) with
  accessFlags := 1537
  interfaces := #[]
  cf := some (fileOf pool6 1 #[] #[] 1537 3 #[] #[])
  fields := #[]
  methods := #[]
  instanceTypes := #[]
  staticTypes := #[]
  resolved := Array.replicate 11 none
  statics := none }

def pool7 : Array CpInfo := pool [(1, .class_ 2), (0, u "java/lang/constant/ConstantDesc"), (0, .class_ 4), (0, u "java/lang/Object")] 32

/-- java/lang/constant/ConstantDesc -/
def k7 : Class := { plain "java/lang/constant/ConstantDesc" (some 0) with
  accessFlags := 1537
  interfaces := #[]
  cf := some (fileOf pool7 1 #[] #[] 1537 3 #[] #[])
  fields := #[]
  methods := #[]
  instanceTypes := #[]
  staticTypes := #[]
  resolved := Array.replicate 37 none
  statics := none }

def pool8 : Array CpInfo := pool [(1, .methodref 2 3), (0, .class_ 4), (0, .nameAndType 5 6), (0, u "java/lang/Object"), (0, u "<init>"), (0, u "()V"), (0, .string 8), (0, u ""), (0, .fieldref 10 11), (0, .class_ 12), (0, .nameAndType 13 14), (0, u "java/lang/String"), (0, u "value"), (0, u "[B"), (0, .fieldref 10 16), (0, .nameAndType 17 18), (0, u "coder"), (0, u "B"), (2, u "hash"), (0, u "I"), (2, u "hashIsZero"), (0, u "Z"), (0, .methodref 10 28), (0, .nameAndType 5 29), (0, u "([CIILjava/lang/Void;)V"), (8, .fieldref 10 39), (0, .nameAndType 40 26), (0, u "COMPACT_STRINGS"), (1, .class_ 44), (1, u "java/lang/StringUTF16"), (0, u "compress"), (1, .methodref 42 48), (0, .nameAndType 49 50), (0, u "coderFromArrayLen"), (0, u "([BI)B"), (56, .class_ 109), (1, u "java/lang/StringLatin1"), (67, .methodref 42 178), (0, .nameAndType 45 179), (0, u "([CII)[B"), (361, .methodref 107 542), (0, .nameAndType 543 544), (0, u "equals"), (0, u "([B[B)Z"), (28, u "(Ljava/lang/Object;)Z"), (1, .class_ 576), (0, u "java/lang/CharSequence"), (22, u "CASE_INSENSITIVE_ORDER"), (0, u "Ljava/util/Comparator;"), (409, u "([C)V"), (90, u "serialPersistentFields"), (0, u "[Ljava/io/ObjectStreamField;"), (0, .class_ 1104), (0, u "java/lang/String$CaseInsensitiveComparator"), (1, .class_ 1107), (0, u "java/io/Serializable"), (0, .class_ 1109), (0, u "java/lang/Comparable"), (0, .class_ 1111), (0, u "java/lang/constant/Constable"), (0, .class_ 1113), (0, u "java/lang/constant/ConstantDesc"), (2, u "serialVersionUID"), (0, u "J"), (3, u "REPL"), (0, u "C"), (2, u "LATIN1"), (1, u "UTF16")] 323

def k8m0 : Method := { name := "<init>", desc := "()V", sig := { parameters := [], returnType := none }, accessFlags := 1, code := none }
def k8c1 : Code := { maxStack := 5, maxLocals := 2, code := jdk_42_method_3_code, exceptionTable := #[], attributes := #[] }
def k8m1 : Method := { name := "<init>", desc := "([C)V", sig := { parameters := [(.array .char)], returnType := none }, accessFlags := 1, code := some k8c1 }
def k8c2 : Code := { maxStack := 2, maxLocals := 3, code := jdk_42_method_66_code, exceptionTable := #[], attributes := #[] }
def k8m2 : Method := { name := "equals", desc := "(Ljava/lang/Object;)Z", sig := { parameters := [(.object "java/lang/Object")], returnType := some .boolean }, accessFlags := 1, code := some k8c2 }
def k8c3 : Code := { maxStack := 4, maxLocals := 6, code := jdk_42_method_149_code, exceptionTable := #[], attributes := #[] }
def k8m3 : Method := { name := "<init>", desc := "([CIILjava/lang/Void;)V", sig := { parameters := [(.array .char), .int, .int, (.object "java/lang/Void")], returnType := none }, accessFlags := 2, code := some k8c3 }
/-- java/lang/String -/
def k8 : Class := { plain "java/lang/String" (some 0) with
  accessFlags := 49
  interfaces := #[3, 4, 5, 6, 7]
  cf := some (fileOf pool8 10 #[.nestMembers #[1103]] #[{ accessFlags := 1, nameIndex := 5, descriptorIndex := 6, attributes := #[] }, { accessFlags := 1, nameIndex := 5, descriptorIndex := 1010, attributes := #[] }, { accessFlags := 1, nameIndex := 543, descriptorIndex := 573, attributes := #[] }, { accessFlags := 2, nameIndex := 5, descriptorIndex := 29, attributes := #[] }] 49 2 #[1106, 1108, 575, 1110, 1112] #[{ accessFlags := 18, nameIndex := 13, descriptorIndex := 14, attributes := #[] }, { accessFlags := 18, nameIndex := 17, descriptorIndex := 18, attributes := #[] }, { accessFlags := 2, nameIndex := 21, descriptorIndex := 22, attributes := #[] }, { accessFlags := 2, nameIndex := 25, descriptorIndex := 26, attributes := #[] }, { accessFlags := 26, nameIndex := 1116, descriptorIndex := 1117, attributes := #[] }, { accessFlags := 24, nameIndex := 40, descriptorIndex := 26, attributes := #[] }, { accessFlags := 26, nameIndex := 1101, descriptorIndex := 1102, attributes := #[] }, { accessFlags := 26, nameIndex := 1121, descriptorIndex := 1122, attributes := #[] }, { accessFlags := 25, nameIndex := 599, descriptorIndex := 600, attributes := #[] }, { accessFlags := 24, nameIndex := 1125, descriptorIndex := 18, attributes := #[] }, { accessFlags := 24, nameIndex := 1127, descriptorIndex := 18, attributes := #[] }])
  fields := #[{ name := "value", type := (.array .byte), accessFlags := 18, slot := 0, constantValue := 0 }, { name := "coder", type := .byte, accessFlags := 18, slot := 1, constantValue := 0 }, { name := "hash", type := .int, accessFlags := 2, slot := 2, constantValue := 0 }, { name := "hashIsZero", type := .boolean, accessFlags := 2, slot := 3, constantValue := 0 }, { name := "serialVersionUID", type := .long, accessFlags := 26, slot := 0, constantValue := 0 }, { name := "COMPACT_STRINGS", type := .boolean, accessFlags := 24, slot := 1, constantValue := 0 }, { name := "serialPersistentFields", type := (.array (.object "java/io/ObjectStreamField")), accessFlags := 26, slot := 2, constantValue := 0 }, { name := "REPL", type := .char, accessFlags := 26, slot := 3, constantValue := 0 }, { name := "CASE_INSENSITIVE_ORDER", type := (.object "java/util/Comparator"), accessFlags := 25, slot := 4, constantValue := 0 }, { name := "LATIN1", type := .byte, accessFlags := 24, slot := 5, constantValue := 0 }, { name := "UTF16", type := .byte, accessFlags := 24, slot := 6, constantValue := 0 }]
  methods := #[k8m0, k8m1, k8m2, k8m3]
  instanceTypes := #[(.array .byte), .byte, .int, .boolean]
  staticTypes := #[.long, .boolean, (.array (.object "java/io/ObjectStreamField")), .char, (.object "java/util/Comparator"), .byte, .byte]
  resolved := Array.replicate 1451 none
  statics := some 0 }

def pool9 : Array CpInfo := pool [(1, .methodref 2 3), (0, .class_ 4), (0, .nameAndType 5 6), (0, u "java/lang/Object"), (0, u "<init>"), (0, u "()V"), (0, .string 8), (0, u "file"), (0, .methodref 10 11), (0, .class_ 12), (0, .nameAndType 13 14), (0, u "java/util/Objects"), (0, u "requireNonNull"), (0, u "(Ljava/lang/Object;Ljava/lang/String;)Ljava/lang/Object;"), (0, .class_ 16), (0, u "java/lang/String"), (0, .fieldref 18 19), (0, .class_ 20), (0, .nameAndType 8 21), (0, u "com/example/kilit/kilit/source/Location"), (0, u "Ljava/lang/String;"), (17, .fieldref 18 40), (0, .nameAndType 41 42), (0, u "line"), (0, u "I"), (26, .methodref 15 70), (0, .nameAndType 71 72), (0, u "equals"), (0, u "(Ljava/lang/Object;)Z"), (11, .class_ 85), (0, u "java/lang/Comparable"), (0, u "(Ljava/lang/String;I)V")] 26

def k9c0 : Code := { maxStack := 7, maxLocals := 3, code := prog_36_method_1_code, exceptionTable := #[], attributes := #[] }
def k9m0 : Method := { name := "<init>", desc := "(Ljava/lang/String;I)V", sig := { parameters := [(.object "java/lang/String"), .int], returnType := none }, accessFlags := 1, code := some k9c0 }
def k9c1 : Code := { maxStack := 2, maxLocals := 3, code := prog_36_method_6_code, exceptionTable := #[], attributes := #[] }
def k9m1 : Method := { name := "equals", desc := "(Ljava/lang/Object;)Z", sig := { parameters := [(.object "java/lang/Object")], returnType := some .boolean }, accessFlags := 1, code := some k9c1 }
/-- com/example/kilit/kilit/source/Location -/
def k9 : Class := { plain "com/example/kilit/kilit/source/Location" (some 0) with
  accessFlags := 49
  interfaces := #[4]
  cf := some (fileOf pool9 18 #[] #[{ accessFlags := 1, nameIndex := 5, descriptorIndex := 86, attributes := #[] }, { accessFlags := 1, nameIndex := 71, descriptorIndex := 72, attributes := #[] }] 49 2 #[84] #[{ accessFlags := 18, nameIndex := 8, descriptorIndex := 21, attributes := #[] }, { accessFlags := 18, nameIndex := 41, descriptorIndex := 42, attributes := #[] }])
  fields := #[{ name := "file", type := (.object "java/lang/String"), accessFlags := 18, slot := 0, constantValue := 0 }, { name := "line", type := .int, accessFlags := 18, slot := 1, constantValue := 0 }]
  methods := #[k9m0, k9m1]
  instanceTypes := #[(.object "java/lang/String"), .int]
  staticTypes := #[]
  resolved := Array.replicate 113 none
  statics := none }

def pool10 : Array CpInfo := pool [(2, .class_ 4), (1, u "java/lang/Object"), (0, u "<init>"), (0, u "()V"), (35, .class_ 44), (1, u "java/util/Objects"), (0, u "requireNonNull"), (48, u "(Ljava/lang/Object;Ljava/lang/String;)Ljava/lang/Object;")] 89

def k10m0 : Method := { name := "<init>", desc := "()V", sig := { parameters := [], returnType := none }, accessFlags := 2, code := none }
def k10c1 : Code := { maxStack := 3, maxLocals := 2, code := jdk_31_method_11_code, exceptionTable := #[], attributes := #[] }
def k10m1 : Method := { name := "requireNonNull", desc := "(Ljava/lang/Object;Ljava/lang/String;)Ljava/lang/Object;", sig := { parameters := [(.object "java/lang/Object"), (.object "java/lang/String")], returnType := some (.object "java/lang/Object") }, accessFlags := 9, code := some k10c1 }
/-- java/util/Objects -/
def k10 : Class := { plain "java/util/Objects" (some 0) with
  accessFlags := 49
  interfaces := #[]
  cf := some (fileOf pool10 42 #[] #[{ accessFlags := 2, nameIndex := 5, descriptorIndex := 6, attributes := #[] }, { accessFlags := 9, nameIndex := 45, descriptorIndex := 94, attributes := #[] }] 49 2 #[] #[])
  fields := #[]
  methods := #[k10m0, k10m1]
  instanceTypes := #[]
  staticTypes := #[]
  resolved := Array.replicate 184 none
  statics := none }

def pool11 : Array CpInfo := pool [(4, .class_ 6), (1, u "java/lang/Object"), (0, u "<init>"), (0, u "()V"), (5, .class_ 16), (1, u "java/lang/StringLatin1"), (104, u "$assertionsDisabled"), (0, u "Z"), (98, .class_ 223), (1, u "java/lang/StringLatin1$LinesSpliterator"), (57, u "equals"), (0, u "([B[B)Z"), (107, .class_ 391), (0, u "java/lang/StringLatin1$CharsSpliterator")] 3

def k11m0 : Method := { name := "<init>", desc := "()V", sig := { parameters := [], returnType := none }, accessFlags := 0, code := none }
def k11c1 : Code := { maxStack := 3, maxLocals := 3, code := jdk_43_method_13_code, exceptionTable := #[], attributes := #[] }
def k11m1 : Method := { name := "equals", desc := "([B[B)Z", sig := { parameters := [(.array .byte), (.array .byte)], returnType := some .boolean }, accessFlags := 9, code := some k11c1 }
/-- java/lang/StringLatin1 -/
def k11 : Class := { plain "java/lang/StringLatin1" (some 0) with
  accessFlags := 48
  interfaces := #[]
  cf := some (fileOf pool11 14 #[.nestMembers #[390, 221]] #[{ accessFlags := 0, nameIndex := 7, descriptorIndex := 8, attributes := #[] }, { accessFlags := 9, nameIndex := 281, descriptorIndex := 282, attributes := #[] }] 48 4 #[] #[{ accessFlags := 4120, nameIndex := 121, descriptorIndex := 122, attributes := #[] }])
  fields := #[{ name := "$assertionsDisabled", type := .boolean, accessFlags := 4120, slot := 0, constantValue := 0 }]
  methods := #[k11m0, k11m1]
  instanceTypes := #[]
  staticTypes := #[.boolean]
  resolved := Array.replicate 395 none
  statics := none }

def pool12 : Array CpInfo := pool [(6, .class_ 8), (1, u "java/lang/Object"), (0, u "<init>"), (0, u "()V"), (1, .class_ 14), (1, u "java/lang/StringUTF16"), (31, u "$assertionsDisabled"), (0, u "Z"), (13, u "HI_BYTE_SHIFT"), (0, u "I"), (2, u "LO_BYTE_SHIFT"), (49, .methodref 12 116), (0, .nameAndType 117 118), (0, u "compress"), (0, u "([CI[BII)I"), (3, u "([CII)[B"), (138, u "coderFromArrayLen"), (0, u "([BI)B"), (106, .class_ 371), (1, u "java/lang/StringUTF16$LinesSpliterator"), (58, u "MAX_LENGTH"), (196, .class_ 628), (0, u "java/lang/StringUTF16$CodePointsSpliterator"), (0, .class_ 630), (0, u "java/lang/StringUTF16$CharsSpliterator")] 4

def k12m0 : Method := { name := "<init>", desc := "()V", sig := { parameters := [], returnType := none }, accessFlags := 0, code := none }
def k12c1 : Code := { maxStack := 2, maxLocals := 2, code := jdk_52_method_15_code, exceptionTable := #[], attributes := #[] }
def k12m1 : Method := { name := "coderFromArrayLen", desc := "([BI)B", sig := { parameters := [(.array .byte), .int], returnType := some .byte }, accessFlags := 8, code := some k12c1 }
def k12c2 : Code := { maxStack := 5, maxLocals := 6, code := jdk_52_method_16_code, exceptionTable := #[], attributes := #[] }
def k12m2 : Method := { name := "compress", desc := "([CII)[B", sig := { parameters := [(.array .char), .int, .int], returnType := some (.array .byte) }, accessFlags := 9, code := some k12c2 }
def k12c3 : Code := { maxStack := 3, maxLocals := 7, code := jdk_52_method_21_code, exceptionTable := #[], attributes := #[] }
def k12m3 : Method := { name := "compress", desc := "([CI[BII)I", sig := { parameters := [(.array .char), .int, (.array .byte), .int, .int], returnType := some .int }, accessFlags := 9, code := some k12c3 }
/-- java/lang/StringUTF16 -/
def k12 : Class := { plain "java/lang/StringUTF16" (some 0) with
  accessFlags := 48
  interfaces := #[]
  cf := some (fileOf pool12 12 #[.nestMembers #[627, 629, 369]] #[{ accessFlags := 0, nameIndex := 9, descriptorIndex := 10, attributes := #[] }, { accessFlags := 8, nameIndex := 261, descriptorIndex := 262, attributes := #[] }, { accessFlags := 9, nameIndex := 117, descriptorIndex := 122, attributes := #[] }, { accessFlags := 9, nameIndex := 117, descriptorIndex := 118, attributes := #[] }] 48 6 #[] #[{ accessFlags := 26, nameIndex := 61, descriptorIndex := 62, attributes := #[] }, { accessFlags := 26, nameIndex := 65, descriptorIndex := 62, attributes := #[] }, { accessFlags := 24, nameIndex := 430, descriptorIndex := 62, attributes := #[] }, { accessFlags := 4120, nameIndex := 46, descriptorIndex := 47, attributes := #[] }])
  fields := #[{ name := "HI_BYTE_SHIFT", type := .int, accessFlags := 26, slot := 0, constantValue := 0 }, { name := "LO_BYTE_SHIFT", type := .int, accessFlags := 26, slot := 1, constantValue := 0 }, { name := "MAX_LENGTH", type := .int, accessFlags := 24, slot := 2, constantValue := 0 }, { name := "$assertionsDisabled", type := .boolean, accessFlags := 4120, slot := 3, constantValue := 0 }]
  methods := #[k12m0, k12m1, k12m2, k12m3]
  instanceTypes := #[]
  staticTypes := #[.int, .int, .int, .boolean]
  resolved := Array.replicate 635 none
  statics := none }

def pool13 : Array CpInfo := pool [(2, .class_ 4), (1, u "java/lang/Object"), (0, u "<init>"), (0, u "()V"), (17, .class_ 26), (1, u "jdk/internal/util/Preconditions"), (28, .class_ 56), (0, u "jdk/internal/util/Preconditions$4"), (57, .class_ 115), (0, u "jdk/internal/util/Preconditions$1"), (7, u "SIOOBE_FORMATTER"), (0, u "Ljava/util/function/BiFunction;"), (0, .class_ 126), (0, u "jdk/internal/util/Preconditions$2"), (3, u "AIOOBE_FORMATTER"), (0, .class_ 132), (0, u "jdk/internal/util/Preconditions$3"), (3, u "IOOBE_FORMATTER")] 57

def k13m0 : Method := { name := "<init>", desc := "()V", sig := { parameters := [], returnType := none }, accessFlags := 1, code := none }
/-- jdk/internal/util/Preconditions -/
def k13 : Class := { plain "jdk/internal/util/Preconditions" (some 0) with
  accessFlags := 33
  interfaces := #[]
  cf := some (fileOf pool13 24 #[.nestMembers #[55, 131, 125, 114]] #[{ accessFlags := 1, nameIndex := 5, descriptorIndex := 6, attributes := #[] }] 33 2 #[] #[{ accessFlags := 25, nameIndex := 123, descriptorIndex := 124, attributes := #[] }, { accessFlags := 25, nameIndex := 130, descriptorIndex := 124, attributes := #[] }, { accessFlags := 25, nameIndex := 136, descriptorIndex := 124, attributes := #[] }])
  fields := #[{ name := "SIOOBE_FORMATTER", type := (.object "java/util/function/BiFunction"), accessFlags := 25, slot := 0, constantValue := 0 }, { name := "AIOOBE_FORMATTER", type := (.object "java/util/function/BiFunction"), accessFlags := 25, slot := 1, constantValue := 0 }, { name := "IOOBE_FORMATTER", type := (.object "java/util/function/BiFunction"), accessFlags := 25, slot := 2, constantValue := 0 }]
  methods := #[k13m0]
  instanceTypes := #[]
  staticTypes := #[(.object "java/util/function/BiFunction"), (.object "java/util/function/BiFunction"), (.object "java/util/function/BiFunction")]
  resolved := Array.replicate 194 none
  statics := some 1 }

def pool14 : Array CpInfo := pool [(9, u "<init>"), (6, .class_ 18), (1, u "java/lang/Object"), (0, u "()V"), (1, .class_ 23), (1, u "jdk/internal/util/ArraysSupport"), (0, u "LOG2_ARRAY_LONG_INDEX_SCALE"), (0, u "I"), (2, u "U"), (0, u "Ljdk/internal/misc/Unsafe;"), (8, u "BIG_ENDIAN"), (0, u "Z"), (8, u "LOG2_BYTE_BIT_SIZE"), (4, u "LOG2_ARRAY_INT_INDEX_SCALE"), (54, u "JLA"), (0, u "Ljdk/internal/access/JavaLangAccess;"), (11, u "LOG2_ARRAY_BOOLEAN_INDEX_SCALE"), (9, u "LOG2_ARRAY_BYTE_INDEX_SCALE"), (5, u "LOG2_ARRAY_CHAR_INDEX_SCALE"), (5, u "LOG2_ARRAY_SHORT_INDEX_SCALE"), (18, u "LOG2_ARRAY_FLOAT_INDEX_SCALE"), (24, u "LOG2_ARRAY_DOUBLE_INDEX_SCALE"), (89, u "T_BOOLEAN"), (2, u "T_CHAR"), (1, u "T_FLOAT"), (1, u "T_DOUBLE"), (1, u "T_BYTE"), (1, u "T_SHORT"), (1, u "T_INT"), (1, u "T_LONG"), (1, u "SOFT_MAX_ARRAY_LENGTH")] 83

def k14m0 : Method := { name := "<init>", desc := "()V", sig := { parameters := [], returnType := none }, accessFlags := 2, code := none }
/-- jdk/internal/util/ArraysSupport -/
def k14 : Class := { plain "jdk/internal/util/ArraysSupport" (some 0) with
  accessFlags := 33
  interfaces := #[]
  cf := some (fileOf pool14 21 #[] #[{ accessFlags := 2, nameIndex := 9, descriptorIndex := 19, attributes := #[] }] 33 16 #[] #[{ accessFlags := 24, nameIndex := 28, descriptorIndex := 29, attributes := #[] }, { accessFlags := 26, nameIndex := 38, descriptorIndex := 39, attributes := #[] }, { accessFlags := 25, nameIndex := 121, descriptorIndex := 25, attributes := #[] }, { accessFlags := 25, nameIndex := 131, descriptorIndex := 25, attributes := #[] }, { accessFlags := 25, nameIndex := 137, descriptorIndex := 25, attributes := #[] }, { accessFlags := 25, nameIndex := 143, descriptorIndex := 25, attributes := #[] }, { accessFlags := 25, nameIndex := 53, descriptorIndex := 25, attributes := #[] }, { accessFlags := 25, nameIndex := 24, descriptorIndex := 25, attributes := #[] }, { accessFlags := 25, nameIndex := 162, descriptorIndex := 25, attributes := #[] }, { accessFlags := 25, nameIndex := 187, descriptorIndex := 25, attributes := #[] }, { accessFlags := 26, nameIndex := 48, descriptorIndex := 25, attributes := #[] }, { accessFlags := 25, nameIndex := 277, descriptorIndex := 25, attributes := #[] }, { accessFlags := 25, nameIndex := 280, descriptorIndex := 25, attributes := #[] }, { accessFlags := 25, nameIndex := 282, descriptorIndex := 25, attributes := #[] }, { accessFlags := 25, nameIndex := 284, descriptorIndex := 25, attributes := #[] }, { accessFlags := 25, nameIndex := 286, descriptorIndex := 25, attributes := #[] }, { accessFlags := 25, nameIndex := 288, descriptorIndex := 25, attributes := #[] }, { accessFlags := 25, nameIndex := 290, descriptorIndex := 25, attributes := #[] }, { accessFlags := 25, nameIndex := 292, descriptorIndex := 25, attributes := #[] }, { accessFlags := 26, nameIndex := 108, descriptorIndex := 109, attributes := #[] }, { accessFlags := 25, nameIndex := 294, descriptorIndex := 25, attributes := #[] }])
  fields := #[{ name := "U", type := (.object "jdk/internal/misc/Unsafe"), accessFlags := 24, slot := 0, constantValue := 0 }, { name := "BIG_ENDIAN", type := .boolean, accessFlags := 26, slot := 1, constantValue := 0 }, { name := "LOG2_ARRAY_BOOLEAN_INDEX_SCALE", type := .int, accessFlags := 25, slot := 2, constantValue := 0 }, { name := "LOG2_ARRAY_BYTE_INDEX_SCALE", type := .int, accessFlags := 25, slot := 3, constantValue := 0 }, { name := "LOG2_ARRAY_CHAR_INDEX_SCALE", type := .int, accessFlags := 25, slot := 4, constantValue := 0 }, { name := "LOG2_ARRAY_SHORT_INDEX_SCALE", type := .int, accessFlags := 25, slot := 5, constantValue := 0 }, { name := "LOG2_ARRAY_INT_INDEX_SCALE", type := .int, accessFlags := 25, slot := 6, constantValue := 0 }, { name := "LOG2_ARRAY_LONG_INDEX_SCALE", type := .int, accessFlags := 25, slot := 7, constantValue := 0 }, { name := "LOG2_ARRAY_FLOAT_INDEX_SCALE", type := .int, accessFlags := 25, slot := 8, constantValue := 0 }, { name := "LOG2_ARRAY_DOUBLE_INDEX_SCALE", type := .int, accessFlags := 25, slot := 9, constantValue := 0 }, { name := "LOG2_BYTE_BIT_SIZE", type := .int, accessFlags := 26, slot := 10, constantValue := 0 }, { name := "T_BOOLEAN", type := .int, accessFlags := 25, slot := 11, constantValue := 0 }, { name := "T_CHAR", type := .int, accessFlags := 25, slot := 12, constantValue := 0 }, { name := "T_FLOAT", type := .int, accessFlags := 25, slot := 13, constantValue := 0 }, { name := "T_DOUBLE", type := .int, accessFlags := 25, slot := 14, constantValue := 0 }, { name := "T_BYTE", type := .int, accessFlags := 25, slot := 15, constantValue := 0 }, { name := "T_SHORT", type := .int, accessFlags := 25, slot := 16, constantValue := 0 }, { name := "T_INT", type := .int, accessFlags := 25, slot := 17, constantValue := 0 }, { name := "T_LONG", type := .int, accessFlags := 25, slot := 18, constantValue := 0 }, { name := "JLA", type := (.object "jdk/internal/access/JavaLangAccess"), accessFlags := 26, slot := 19, constantValue := 0 }, { name := "SOFT_MAX_ARRAY_LENGTH", type := .int, accessFlags := 25, slot := 20, constantValue := 0 }]
  methods := #[k14m0]
  instanceTypes := #[]
  staticTypes := #[(.object "jdk/internal/misc/Unsafe"), .boolean, .int, .int, .int, .int, .int, .int, .int, .int, .int, .int, .int, .int, .int, .int, .int, .int, .int, (.object "jdk/internal/access/JavaLangAccess"), .int]
  resolved := Array.replicate 378 none
  statics := none }

def pool15 : Array CpInfo := pool [(1, u "java/lang/Cloneable"), (0, .class_ 1), (0, u "java/lang/Object"), (0, .class_ 3)] 3

/-- java/lang/Cloneable -/
def k15 : Class := { plain "java/lang/Cloneable" (some 0) with
  accessFlags := 1537
  interfaces := #[]
  cf := some (fileOf pool15 2 #[] #[] 1537 4 #[] #[])
  fields := #[]
  methods := #[]
  instanceTypes := #[]
  staticTypes := #[]
  resolved := Array.replicate 8 none
  statics := none }

/-- the primitive byte -/
def k16 : Class := { plain "byte" none with kind := .primitive 'B', accessFlags := 0x411 }
/-- [B -/
def k17 : Class := { plain "[B" (some 0) with kind := .array 16 .byte, interfaces := #[15, 3], accessFlags := 1041 }

/-- the primitive char -/
def k18 : Class := { plain "char" none with kind := .primitive 'C', accessFlags := 0x411 }
/-- [C -/
def k19 : Class := { plain "[C" (some 0) with kind := .array 18 .char, interfaces := #[15, 3], accessFlags := 1041 }

/-- the primitive int -/
def k20 : Class := { plain "int" none with kind := .primitive 'I', accessFlags := 0x411 }
/-- [I -/
def k21 : Class := { plain "[I" (some 0) with kind := .array 20 .int, interfaces := #[15, 3], accessFlags := 1041 }

def heap : Heap := #[{ cls := 8, slots := #[.long 0, .int 1, .null, .int 0, .null, .int 0, .int 0], vm := .statics 8 },
  { cls := 13, slots := #[.null, .null, .null], vm := .statics 13 }]
def classes : Array Class := #[k0, k1, k2, k3, k4, k5, k6, k7, k8, k9, k10, k11, k12, k13, k14, k15, k16, k17, k18, k19, k20, k21]
def interned : List (Array UInt16 × Addr) := []
def slotsUsed : Nat := 10
def theMethod : MethodId := ⟨1, 2⟩
def args0 : Array Value := #[.int 5, .int 6, .int 7, .int 8, .int 9]
def aboutOver (below : List Frame) : State where
  vm := { classes := classes, interned := interned.toArray }
  heap := heap
  slotsUsed := slotsUsed
  threads := #[{ frames := .invoking theMethod args0 :: below }]
def below0 : List Frame := [.native { method := ⟨0, 0⟩, args := #[] }]
def about1 : State := aboutOver below0
def p0 : Program := .bare "" "" ""
def e0 : Env := launch0.env 0 0 0
theorem w_frames : about1.frames = Frame.invoking theMethod args0 :: below0 := rfl
set_option maxRecDepth 65536 in
theorem w_args : argsFit about1.vm theMethod args0 = true := by decide +kernel
set_option maxRecDepth 65536 in
theorem w_heap : heapFits about1 = true := by decide +kernel
set_option maxRecDepth 65536 in
theorem w_runnable : about1.curStatus? = some .runnable := by decide +kernel
set_option maxRecDepth 65536 in
theorem w_alone : about1.alone = true := by decide +kernel
set_option maxRecDepth 65536 in
theorem w_named : about1.methodNamed? x = some theMethod := by decide +kernel
set_option maxRecDepth 65536 in
theorem w_hears : about1.hears theMethod below0 = true := by decide +kernel
set_option maxRecDepth 65536 in
theorem w_ripe : about1.ripe theMethod args0 below0 = true := by decide +kernel
theorem w_running : about1.status = .running := rfl
set_option maxRecDepth 65536 in
theorem w_room : about1.hasRoom e0.platform room_1 = true :=
  launch0.hasRoom_least _ room_1 (by decide +kernel) (by decide +kernel) (by decide +kernel) (by decide +kernel) (by decide +kernel) (by decide +kernel)
theorem allAtoms_all (ts : List Jvm.Cond) (a : Array Jvm.Value) (st : Jvm.State) : (allAtoms ts).before a st = ts.all (fun c => c.before a st) := by
  induction ts with
  | nil => rfl
  | cons c t ih =>
    show (Jvm.Cond.and c (allAtoms t)).before a st = _
    rw [Jvm.Cond.before_and, ih, List.all_cons]
def words1 : List Jvm.Cond := Jvm.Cond.code x code maxLocals ret :: tables_1
/-- a 'code' word, met by the world's own term for the bytes: nothing is compared byte by byte -/
theorem code_word {y : MethodName} {bytes : ByteArray} {mx : Nat} {rt : Option FieldType} {a : Array Value} {s : State} {m : MethodId} {meth : Method} {c : Code} (h1 : s.methodNamed? y = some m) (h2 : s.vm.method? m = some meth) (h3 : meth.code = some c) (h4 : c.code = bytes)
    (h5 : (c.maxLocals == mx && c.exceptionTable.isEmpty && decide (c.maxStack ≤ mostOperands) && decide (meth.sig.returnType = rt) && !meth.locks && decide (parseMethodDescriptor y.desc = some meth.sig)) = true) : (Jvm.Cond.code y bytes mx rt).before a s = true := by
  simp only [Bool.and_eq_true, beq_iff_eq, Bool.not_eq_true', decide_eq_true_eq] at h5
  obtain ⟨⟨⟨⟨⟨g1, g2⟩, g3⟩, g4⟩, g5⟩, g6⟩ := h5
  simp [Cond.before, Cond.holds, Cond.value, h1, h2, h3, h4, g1, g2, g3, g4, g5, g6]
def isCode : Jvm.Cond → Bool
  | .code _ _ _ _ => true
  | _ => false
theorem all_split {L : List Jvm.Cond} {P : Jvm.Cond → Bool} (h1 : L.all (fun c => isCode c || P c) = true) (h2 : ∀ c ∈ L.filter isCode, P c = true) : L.all P = true := by
  refine List.all_eq_true.mpr fun c hc => ?_
  have h := List.all_eq_true.mp h1 c hc
  rcases Bool.eq_false_or_eq_true (isCode c) with hi | hi
  · exact h2 c (List.mem_filter.mpr ⟨hc, hi⟩)
  · simpa [hi] using h
set_option maxRecDepth 65536 in
theorem w_c0 : (Jvm.Cond.code x code maxLocals ret).before args0 about1 = true := code_word (m := ⟨1, 2⟩) (meth := k1m2) (c := k1c2) (by decide +kernel) rfl rfl rfl (by decide +kernel)
set_option maxRecDepth 65536 in
theorem w_c1 : (Jvm.Cond.code ({ cls := "java/lang/Math", name := "max", desc := "(II)I" } : Jvm.MethodName) jdk_29_method_65_code (2 : Nat) (Option.some Jvm.ClassFile.FieldType.int)).before args0 about1 = true := code_word (m := ⟨2, 1⟩) (meth := k2m1) (c := k2c1) (by decide +kernel) rfl rfl rfl (by decide +kernel)
set_option maxRecDepth 65536 in
theorem w_c2 : (Jvm.Cond.code ({ cls := "com/example/kilit/kilit/source/LocationEqualsPinLaw", name := "mk", desc := "(ICC)Ljava/lang/String;" } : Jvm.MethodName) method_2_code (3 : Nat) (Option.some (Jvm.ClassFile.FieldType.object "java/lang/String"))).before args0 about1 = true := code_word (m := ⟨1, 1⟩) (meth := k1m1) (c := k1c1) (by decide +kernel) rfl rfl rfl (by decide +kernel)
set_option maxRecDepth 65536 in
theorem w_c3 : (Jvm.Cond.code ({ cls := "java/lang/String", name := "<init>", desc := "([C)V" } : Jvm.MethodName) jdk_42_method_3_code (2 : Nat) (Option.none : Option Jvm.ClassFile.FieldType)).before args0 about1 = true := code_word (m := ⟨8, 1⟩) (meth := k8m1) (c := k8c1) (by decide +kernel) rfl rfl rfl (by decide +kernel)
set_option maxRecDepth 65536 in
theorem w_c4 : (Jvm.Cond.code ({ cls := "java/lang/String", name := "<init>", desc := "([CIILjava/lang/Void;)V" } : Jvm.MethodName) jdk_42_method_149_code (6 : Nat) (Option.none : Option Jvm.ClassFile.FieldType)).before args0 about1 = true := code_word (m := ⟨8, 3⟩) (meth := k8m3) (c := k8c3) (by decide +kernel) rfl rfl rfl (by decide +kernel)
set_option maxRecDepth 65536 in
theorem w_c5 : (Jvm.Cond.code ({ cls := "java/lang/Object", name := "<init>", desc := "()V" } : Jvm.MethodName) object_method_1_code (1 : Nat) (Option.none : Option Jvm.ClassFile.FieldType)).before args0 about1 = true := code_word (m := ⟨0, 0⟩) (meth := k0m0) (c := k0c0) (by decide +kernel) rfl rfl rfl (by decide +kernel)
set_option maxRecDepth 65536 in
theorem w_c6 : (Jvm.Cond.code ({ cls := "com/example/kilit/kilit/source/Location", name := "<init>", desc := "(Ljava/lang/String;I)V" } : Jvm.MethodName) prog_36_method_1_code (3 : Nat) (Option.none : Option Jvm.ClassFile.FieldType)).before args0 about1 = true := code_word (m := ⟨9, 0⟩) (meth := k9m0) (c := k9c0) (by decide +kernel) rfl rfl rfl (by decide +kernel)
set_option maxRecDepth 65536 in
theorem w_c7 : (Jvm.Cond.code ({ cls := "java/util/Objects", name := "requireNonNull", desc := "(Ljava/lang/Object;Ljava/lang/String;)Ljava/lang/Object;" } : Jvm.MethodName) jdk_31_method_11_code (2 : Nat) (Option.some (Jvm.ClassFile.FieldType.object "java/lang/Object"))).before args0 about1 = true := code_word (m := ⟨10, 1⟩) (meth := k10m1) (c := k10c1) (by decide +kernel) rfl rfl rfl (by decide +kernel)
set_option maxRecDepth 65536 in
theorem w_c8 : (Jvm.Cond.code ({ cls := "com/example/kilit/kilit/source/Location", name := "equals", desc := "(Ljava/lang/Object;)Z" } : Jvm.MethodName) prog_36_method_6_code (3 : Nat) (Option.some Jvm.ClassFile.FieldType.boolean)).before args0 about1 = true := code_word (m := ⟨9, 1⟩) (meth := k9m1) (c := k9c1) (by decide +kernel) rfl rfl rfl (by decide +kernel)
set_option maxRecDepth 65536 in
theorem w_c9 : (Jvm.Cond.code ({ cls := "java/lang/String", name := "equals", desc := "(Ljava/lang/Object;)Z" } : Jvm.MethodName) jdk_42_method_66_code (3 : Nat) (Option.some Jvm.ClassFile.FieldType.boolean)).before args0 about1 = true := code_word (m := ⟨8, 2⟩) (meth := k8m2) (c := k8c2) (by decide +kernel) rfl rfl rfl (by decide +kernel)
set_option maxRecDepth 65536 in
theorem w_c10 : (Jvm.Cond.code ({ cls := "java/lang/StringLatin1", name := "equals", desc := "([B[B)Z" } : Jvm.MethodName) jdk_43_method_13_code (3 : Nat) (Option.some Jvm.ClassFile.FieldType.boolean)).before args0 about1 = true := code_word (m := ⟨11, 1⟩) (meth := k11m1) (c := k11c1) (by decide +kernel) rfl rfl rfl (by decide +kernel)
set_option maxRecDepth 65536 in
theorem w_c11 : (Jvm.Cond.code ({ cls := "java/lang/StringUTF16", name := "compress", desc := "([CII)[B" } : Jvm.MethodName) jdk_52_method_16_code (6 : Nat) (Option.some (Jvm.ClassFile.FieldType.array Jvm.ClassFile.FieldType.byte))).before args0 about1 = true := code_word (m := ⟨12, 2⟩) (meth := k12m2) (c := k12c2) (by decide +kernel) rfl rfl rfl (by decide +kernel)
set_option maxRecDepth 65536 in
theorem w_c12 : (Jvm.Cond.code ({ cls := "java/lang/StringUTF16", name := "compress", desc := "([CI[BII)I" } : Jvm.MethodName) jdk_52_method_21_code (7 : Nat) (Option.some Jvm.ClassFile.FieldType.int)).before args0 about1 = true := code_word (m := ⟨12, 3⟩) (meth := k12m3) (c := k12c3) (by decide +kernel) rfl rfl rfl (by decide +kernel)
set_option maxRecDepth 65536 in
theorem w_c13 : (Jvm.Cond.code ({ cls := "java/lang/StringUTF16", name := "coderFromArrayLen", desc := "([BI)B" } : Jvm.MethodName) jdk_52_method_15_code (2 : Nat) (Option.some Jvm.ClassFile.FieldType.byte)).before args0 about1 = true := code_word (m := ⟨12, 1⟩) (meth := k12m1) (c := k12c1) (by decide +kernel) rfl rfl rfl (by decide +kernel)
def codes1 : List Jvm.Cond := [Jvm.Cond.code x code maxLocals ret, Jvm.Cond.code ({ cls := "java/lang/Math", name := "max", desc := "(II)I" } : Jvm.MethodName) jdk_29_method_65_code (2 : Nat) (Option.some Jvm.ClassFile.FieldType.int), Jvm.Cond.code ({ cls := "com/example/kilit/kilit/source/LocationEqualsPinLaw", name := "mk", desc := "(ICC)Ljava/lang/String;" } : Jvm.MethodName) method_2_code (3 : Nat) (Option.some (Jvm.ClassFile.FieldType.object "java/lang/String")), Jvm.Cond.code ({ cls := "java/lang/String", name := "<init>", desc := "([C)V" } : Jvm.MethodName) jdk_42_method_3_code (2 : Nat) (Option.none : Option Jvm.ClassFile.FieldType), Jvm.Cond.code ({ cls := "java/lang/String", name := "<init>", desc := "([CIILjava/lang/Void;)V" } : Jvm.MethodName) jdk_42_method_149_code (6 : Nat) (Option.none : Option Jvm.ClassFile.FieldType), Jvm.Cond.code ({ cls := "java/lang/Object", name := "<init>", desc := "()V" } : Jvm.MethodName) object_method_1_code (1 : Nat) (Option.none : Option Jvm.ClassFile.FieldType), Jvm.Cond.code ({ cls := "com/example/kilit/kilit/source/Location", name := "<init>", desc := "(Ljava/lang/String;I)V" } : Jvm.MethodName) prog_36_method_1_code (3 : Nat) (Option.none : Option Jvm.ClassFile.FieldType), Jvm.Cond.code ({ cls := "java/util/Objects", name := "requireNonNull", desc := "(Ljava/lang/Object;Ljava/lang/String;)Ljava/lang/Object;" } : Jvm.MethodName) jdk_31_method_11_code (2 : Nat) (Option.some (Jvm.ClassFile.FieldType.object "java/lang/Object")), Jvm.Cond.code ({ cls := "com/example/kilit/kilit/source/Location", name := "equals", desc := "(Ljava/lang/Object;)Z" } : Jvm.MethodName) prog_36_method_6_code (3 : Nat) (Option.some Jvm.ClassFile.FieldType.boolean), Jvm.Cond.code ({ cls := "java/lang/String", name := "equals", desc := "(Ljava/lang/Object;)Z" } : Jvm.MethodName) jdk_42_method_66_code (3 : Nat) (Option.some Jvm.ClassFile.FieldType.boolean), Jvm.Cond.code ({ cls := "java/lang/StringLatin1", name := "equals", desc := "([B[B)Z" } : Jvm.MethodName) jdk_43_method_13_code (3 : Nat) (Option.some Jvm.ClassFile.FieldType.boolean), Jvm.Cond.code ({ cls := "java/lang/StringUTF16", name := "compress", desc := "([CII)[B" } : Jvm.MethodName) jdk_52_method_16_code (6 : Nat) (Option.some (Jvm.ClassFile.FieldType.array Jvm.ClassFile.FieldType.byte)), Jvm.Cond.code ({ cls := "java/lang/StringUTF16", name := "compress", desc := "([CI[BII)I" } : Jvm.MethodName) jdk_52_method_21_code (7 : Nat) (Option.some Jvm.ClassFile.FieldType.int), Jvm.Cond.code ({ cls := "java/lang/StringUTF16", name := "coderFromArrayLen", desc := "([BI)B" } : Jvm.MethodName) jdk_52_method_15_code (2 : Nat) (Option.some Jvm.ClassFile.FieldType.byte)]
set_option maxRecDepth 65536 in
theorem codes_eq : words1.filter isCode = codes1 := rfl
theorem w_codes : ∀ c ∈ words1.filter isCode, c.before args0 about1 = true := by
  rw [codes_eq]
  intro c hc
  simp only [codes1, List.mem_cons, List.not_mem_nil, or_false] at hc
  rcases hc with rfl | rfl | rfl | rfl | rfl | rfl | rfl | rfl | rfl | rfl | rfl | rfl | rfl | rfl
  · exact w_c0
  · exact w_c1
  · exact w_c2
  · exact w_c3
  · exact w_c4
  · exact w_c5
  · exact w_c6
  · exact w_c7
  · exact w_c8
  · exact w_c9
  · exact w_c10
  · exact w_c11
  · exact w_c12
  · exact w_c13
set_option maxRecDepth 65536 in
theorem w_t1 : (words1.take 24).all (fun c => isCode c || c.before args0 about1) = true := by decide +kernel
set_option maxRecDepth 65536 in
theorem w_t2 : ((words1.drop 24).take 24).all (fun c => isCode c || c.before args0 about1) = true := by decide +kernel
set_option maxRecDepth 65536 in
theorem w_t3 : (((words1.drop 24).drop 24).take 24).all (fun c => isCode c || c.before args0 about1) = true := by decide +kernel
set_option maxRecDepth 65536 in
theorem w_t4 : (((words1.drop 24).drop 24).drop 24).all (fun c => isCode c || c.before args0 about1) = true := by decide +kernel
theorem w_tables : (allAtoms (Jvm.Cond.code x code maxLocals ret :: tables_1)).before args0 about1 = true := by
  rw [allAtoms_all]
  show words1.all (fun c => c.before args0 about1) = true
  refine all_split ?_ w_codes
  rw [← List.take_append_drop 24 words1, List.all_append, w_t1, ← List.take_append_drop 24 (words1.drop 24), List.all_append, w_t2, ← List.take_append_drop 24 ((words1.drop 24).drop 24), List.all_append, w_t3, w_t4]
  rfl
set_option maxRecDepth 65536 in
theorem w_rest : rest_1_c.before args0 about1 = true := by decide +kernel
set_option maxRecDepth 65536 in
theorem w_case : (Jvm.Cond.and given_1 narrow_1).before args0 about1 = true := by decide +kernel
set_option maxRecDepth 65536 in
theorem w_consts : constsHeld consts_1 about1 := Jvm.Lit.constsHeldB_iff.mp (by decide +kernel)
theorem w_applies : (headSpec (Jvm.Cond.code x code maxLocals ret :: tables_1) room_1).applies x e0.platform about1 = true :=
  (Spec.applies_iff w_frames).mpr ⟨w_running, w_runnable, w_alone, w_named, w_hears, w_ripe, w_room, w_tables⟩
theorem atStart : AtStart classFile x code maxLocals ret World_1 tables_1 room_1 Calls_1 rest_1 Pre_1 launch0 p0 e0 about1 theMethod args0 below0 :=
  ⟨lists_1, trivial, launch0.admits_env _ _ _, launch0.least_env, fairChoices_fair.cas, fairChoices_fair.clock, w_frames, w_args, w_heap, w_applies, ⟨w_consts, trivial⟩, w_rest, w_case⟩
end start1
theorem witness_1 : WitnessClaimed_1 := ⟨start1.p0, start1.e0, start1.about1, start1.theMethod, start1.args0, start1.below0, start1.atStart⟩
end Jvm.Pilot.@@N@@
