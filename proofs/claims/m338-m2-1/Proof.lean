import JvmDerived
import JvmDerived.Pilot.@@N@@Statement
import JvmDerived.Pilot.@@N@@Code
set_option linter.unusedVariables false
set_option linter.unusedSimpArgs false
@@BLOCK:NumsL.lean.txt@@
/- laws to paste: Road.backV (cut by pick.py; bodies as the Statement names them) -/
namespace Jvm.Pilot.@@N@@
namespace StrChars
open Jvm Sem ClassFile Op Lib Jvm.Stand Jvm.Free.XT Jvm.Free.ALB Jvm.Free.JM Jvm.Free
open Jvm.Lib.Cold (StaticIs)
/-- a char array whose places are chars -/
def Ch (a : Addr) (A : Cell) (U : State) : Prop := Arr .char a A U ∧ Typed .char A
theorem Ch.mv {a : Addr} {A : Cell} {U U' : State} (h : Ch a A U) (hal : U.vm.Alike U'.vm) (hh : U'.heap = U.heap) : Ch a A U' := ⟨h.1.mv hal hh, h.2⟩
theorem Ch.keep {a : Addr} {A : Cell} {U U' : State} (h : Ch a A U) (hal : U.vm.Alike U'.vm) (hk : U'.heap[a]? = some A) : Ch a A U' := ⟨h.1.keep hal hk, h.2⟩
/-- what place i of a char[]'s cell holds -/
def cv (A : Cell) (i : Nat) : Int32 := match A.slots[i]? with | some (.int x) => x | _ => 0
theorem Ch.get {a : Addr} {A : Cell} {U : State} (h : Ch a A U) {i : Nat} (hi : i < A.slots.size) : A.slots[i]? = some (.int (cv A i)) := by
  have e := Array.getElem?_eq_getElem hi
  have f := h.2 i _ e
  unfold cv; rw [e]
  generalize A.slots[i] = v at f
  cases v <;> simp [fits] at f ⊢
/-- the byte that i2b leaves of a char -/
def lo8 (x : Int32) : Int32 := x.toInt8.toInt32
theorem fits_lo8 (y : Int32) : fits .byte (.int (lo8 y)) = true := by
  have h1 := y.toInt8.le_toInt
  have h2 := y.toInt8.toInt_lt
  simp only [lo8, fits, Bool.and_eq_true, decide_eq_true_eq, Int32.le_iff_toInt_le, Int8.toInt_toInt32, show (-128 : Int32).toInt = -128 from by decide, show (127 : Int32).toInt = 127 from by decide]
  omega
/-- A' is A but that each place j of lo .. hi - 1 holds f j -/
def Laid (A A' : Cell) (lo hi : Nat) (f : Nat → Value) : Prop := A'.cls = A.cls ∧ A'.vm = A.vm ∧ A'.slots.size = A.slots.size ∧ ∀ i, A'.slots[i]? = if lo ≤ i ∧ i < hi then some (f i) else A.slots[i]?
theorem Laid.zero (A : Cell) (lo : Nat) (f : Nat → Value) : Laid A A lo (lo + 0) f := ⟨rfl, rfl, rfl, fun i => by rw [if_neg (by omega)]⟩
theorem Laid.step {A Ak : Cell} {lo k : Nat} {f : Nat → Value} {v : Value} (h : Laid A Ak lo k f) (hlo : lo ≤ k) (hk : k < Ak.slots.size) (hv : v = f k) : Laid A (Ak.setSlot k v) lo (k + 1) f := by
  refine ⟨h.1, h.2.1, by simpa [Cell.setSlot] using h.2.2.1, fun i => ?_⟩
  by_cases e : k = i
  · subst e; rw [Cell.slots_setSlot_self v hk, if_pos (by omega), hv]
  · rw [Cell.slots_setSlot_ne v e, h.2.2.2 i]
    by_cases q : lo ≤ i ∧ i < k
    · rw [if_pos q, if_pos (by omega)]
    · rw [if_neg q, if_neg (by omega)]
def U16 : String := "java/lang/StringUTF16"
namespace Cmp5
def yN : MethodName := ⟨"java/lang/StringUTF16", "compress", "([CI[BII)I"⟩
abbrev yB : ByteArray := jdk_52_method_21_code
theorem d0 : decode yB 0 = .ok (.iconst 0, 1) := by decide +kernel
theorem d1 : decode yB 1 = .ok (.istore 5, 2) := by decide +kernel
theorem d3 : decode yB 3 = .ok (.iload 5, 2) := by decide +kernel
theorem d5 : decode yB 5 = .ok (.iload 4, 2) := by decide +kernel
theorem d7 : decode yB 7 = .ok (.if_icmp (.ge) 37, 3) := by decide +kernel
theorem d10 : decode yB 10 = .ok (.aload_n 0, 1) := by decide +kernel
theorem d11 : decode yB 11 = .ok (.iload_n 1, 1) := by decide +kernel
theorem d12 : decode yB 12 = .ok (.caload, 1) := by decide +kernel
theorem d13 : decode yB 13 = .ok (.istore 6, 2) := by decide +kernel
theorem d15 : decode yB 15 = .ok (.iload 6, 2) := by decide +kernel
theorem d17 : decode yB 17 = .ok (.sipush 255, 3) := by decide +kernel
theorem d20 : decode yB 20 = .ok (.if_icmp (.le) 6, 3) := by decide +kernel
theorem d26 : decode yB 26 = .ok (.aload_n 2, 1) := by decide +kernel
theorem d27 : decode yB 27 = .ok (.iload_n 3, 1) := by decide +kernel
theorem d28 : decode yB 28 = .ok (.iload 6, 2) := by decide +kernel
theorem d30 : decode yB 30 = .ok (.i2b, 1) := by decide +kernel
theorem d31 : decode yB 31 = .ok (.bastore, 1) := by decide +kernel
theorem d32 : decode yB 32 = .ok (.iinc 1 1, 3) := by decide +kernel
theorem d35 : decode yB 35 = .ok (.iinc 3 1, 3) := by decide +kernel
theorem d38 : decode yB 38 = .ok (.iinc 5 1, 3) := by decide +kernel
theorem d41 : decode yB 41 = .ok (.goto (-38), 3) := by decide +kernel
theorem d44 : decode yB 44 = .ok (.iload 4, 2) := by decide +kernel
theorem d46 : decode yB 46 = .ok (.ireturn, 1) := by decide +kernel
def site : List Cond := []
def tab : Cond := tabOf yN yB 7 (some .int) site
def P (b : Addr) (A : Cell) (d : Addr) (B : Cell) (o q len : Nat) (args : Array Value) (s : State) : Prop := args = #[.ref b, .int (Int32.ofNat o), .ref d, .int (Int32.ofNat q), .int (Int32.ofNat len)] ∧ Ch b A s ∧ Arr .byte d B s ∧ b ≠ d ∧ o + len ≤ A.slots.size ∧ q + len ≤ B.slots.size ∧ ∀ i, i < len → ¬ 255 < cv A (o + i)
def E (b : Addr) (A : Cell) (d : Addr) (B : Cell) (o q len : Nat) (r : Option Value) (s u : State) : Prop := r = some (.int (Int32.ofNat len)) ∧ ∃ B', Put d B' s u ∧ Laid B B' q (q + len) (fun j => Value.int (lo8 (cv A (o + (j - q)))))
/-- no char of the range above 255: len; the places written hold each char's low byte -/
theorem law (l : Launch) (b : Addr) (A : Cell) (d : Addr) (B : Cell) (o q len : Nat) : Law l yN 5 5 0 0 yB 7 (some .int) site (P b A d B o q len) (E b A d B o q len) (copyLocs d q len) 0 0 := by
  refine Law.of_walk (plainFor_of_name (by decide +kernel)) (by decide +kernel) (by decide +kernel) (by decide) (fun _ _ h => by rw [h.1]; rfl) (fun _ U U' hal hh h => ⟨h.1, h.2.1.mv hal hh, h.2.2.1.mv hal hh, h.2.2.2⟩) (fun r U U' V V' h1 hal h2 h => ⟨h.1, h.2.elim fun B' q => ⟨B', q.1.mv h1 h2, q.2⟩⟩) ?_
  intro p e s m args below meth c s₁ X0 hexec hbytes hml hret hlk hnm hown hh0 W hP
  obtain ⟨rfl, hA, hB, hne, l1, l2, hp⟩ := hP
  have c1 : Steps p.tables e below (s₁.setTop (entryFrame m #[.ref b, .int (Int32.ofNat o), .ref d, .int (Int32.ofNat q), .int (Int32.ofNat len)] 7)) (s₁.setTop (mkF m 0 #[.val (.ref b), .val (.int (Int32.ofNat o)), .val (.ref d), .val (.int (Int32.ofNat q)), .val (.int (Int32.ofNat len)), .unset, .unset] [])) := entry rfl
  have hA0 := hA.1.mv X0.warmed.alike hh0
  have hB0 := hB.mv X0.warmed.alike hh0
  have a31 := hA.1.2.2.2
  have c2 : Steps p.tables e below (s₁.setTop (entryFrame m #[.ref b, .int (Int32.ofNat o), .ref d, .int (Int32.ofNat q), .int (Int32.ofNat len)] 7)) (s₁.setTop (mkF m 3 #[.val (.ref b), .val (.int (Int32.ofNat o)), .val (.ref d), .val (.int (Int32.ofNat q)), .val (.int (Int32.ofNat len)), .val (.int 0), .unset] [])) := c1.trans (by
    refine iconstV X0.here hexec rfl 0 (hb hbytes d0) (by decide) ?_
    refine XS.istore X0.here hexec rfl (hb hbytes d1) rfl rfl ?_
    exact Steps.refl _)
  have loop : ∀ (r i : Nat), i + r = len → ∀ (z : Slot), (z = .unset ∨ ∃ w, z = .val w ∧ w.category = 1) → ∀ (Tl : State) (Bk : Cell), Stand p l e { frames := 0, locals := 0, cells := 0, slots := 0 } s m #[.ref b, .int (Int32.ofNat o), .ref d, .int (Int32.ofNat q), .int (Int32.ofNat len)] below meth c Tl ([] ++ copyLocs d q i) 0 0 → Put d Bk s₁ Tl → Laid B Bk q (q + i) (fun j => Value.int (lo8 (cv A (o + (j - q))))) →
      Steps p.tables e below (s₁.setTop (entryFrame m #[.ref b, .int (Int32.ofNat o), .ref d, .int (Int32.ofNat q), .int (Int32.ofNat len)] 7)) (Tl.setTop (mkF m 3 #[.val (.ref b), .val (.int (Int32.ofNat (o + i))), .val (.ref d), .val (.int (Int32.ofNat (q + i))), .val (.int (Int32.ofNat len)), .val (.int (Int32.ofNat i)), z] [])) → ∃ (T' : State) (B' : Cell) (z' : Slot), Stand p l e { frames := 0, locals := 0, cells := 0, slots := 0 } s m #[.ref b, .int (Int32.ofNat o), .ref d, .int (Int32.ofNat q), .int (Int32.ofNat len)] below meth c T' ([] ++ copyLocs d q len) 0 0 ∧ Put d B' s₁ T' ∧ Laid B B' q (q + len) (fun j => Value.int (lo8 (cv A (o + (j - q))))) ∧
      Steps p.tables e below (s₁.setTop (entryFrame m #[.ref b, .int (Int32.ofNat o), .ref d, .int (Int32.ofNat q), .int (Int32.ofNat len)] 7)) (T'.setTop (mkF m 3 #[.val (.ref b), .val (.int (Int32.ofNat (o + len))), .val (.ref d), .val (.int (Int32.ofNat (q + len))), .val (.int (Int32.ofNat len)), .val (.int (Int32.ofNat len)), z'] [])) := by
    intro r
    induction r with
    | zero =>
      intro i hi z hz Tl Bk Xl pl fl cl
      have hil : i = len := by omega
      rw [hil] at Xl fl cl
      exact ⟨Tl, Bk, z, Xl, pl, fl, cl⟩
    | succ r ih =>
      intro i hi z hz Tl Bk Xl pl fl cl
      have all := X0.warmed.alike.symm.trans Xl.warmed.alike
      have hAl := hA0.keep all (pl.other hne hA0.1)
      have hBk := hB0.like all pl.1 fl.1 fl.2.1 fl.2.2.1
      have hlt : q + i < Bk.slots.size := by rw [fl.2.2.1]; omega
      have c3 : Steps p.tables e below (s₁.setTop (entryFrame m #[.ref b, .int (Int32.ofNat o), .ref d, .int (Int32.ofNat q), .int (Int32.ofNat len)] 7)) (Tl.setTop (mkF m 12 #[.val (.ref b), .val (.int (Int32.ofNat (o + i))), .val (.ref d), .val (.int (Int32.ofNat (q + i))), .val (.int (Int32.ofNat len)), .val (.int (Int32.ofNat i)), z] [.int (Int32.ofNat (o + i)), .ref b])) := cl.trans (by
        refine XS.iload Xl.here hexec rfl (hb hbytes d3) rfl ?_
        refine XS.iload Xl.here hexec rfl (hb hbytes d5) rfl ?_
        refine XS.icmpNo Xl.here hexec rfl (hb hbytes d7) rfl (ii_ge_f (lt32 (by omega) (by omega))) ?_
        refine XS.aloadN Xl.here hexec rfl (hb hbytes d10) rfl rfl ?_
        refine XS.iloadN Xl.here hexec rfl (hb hbytes d11) rfl ?_
        exact Steps.refl _)
      have c4 : Steps p.tables e below (s₁.setTop (entryFrame m #[.ref b, .int (Int32.ofNat o), .ref d, .int (Int32.ofNat q), .int (Int32.ofNat len)] 7)) (Tl.setTop (mkF m 13 #[.val (.ref b), .val (.int (Int32.ofNat (o + i))), .val (.ref d), .val (.int (Int32.ofNat (q + i))), .val (.int (Int32.ofNat len)), .val (.int (Int32.ofNat i)), z] [.int (cv A (o + i))])) := c3.trans (by
        refine Xl.aget hexec hAl rfl (hA.get (i := o + i) (by omega)) rfl rfl (hb hbytes d12) ?_
        exact Steps.refl _)
      have c5 : Steps p.tables e below (s₁.setTop (entryFrame m #[.ref b, .int (Int32.ofNat o), .ref d, .int (Int32.ofNat q), .int (Int32.ofNat len)] 7)) (Tl.setTop (mkF m 15 #[.val (.ref b), .val (.int (Int32.ofNat (o + i))), .val (.ref d), .val (.int (Int32.ofNat (q + i))), .val (.int (Int32.ofNat len)), .val (.int (Int32.ofNat i)), .val (.int (cv A (o + i)))] [])) := c4.trans (by
        refine XS.istoreS Xl.here hexec rfl (hb hbytes d13) rfl rfl hz ?_
        exact Steps.refl _)
      have c6 : Steps p.tables e below (s₁.setTop (entryFrame m #[.ref b, .int (Int32.ofNat o), .ref d, .int (Int32.ofNat q), .int (Int32.ofNat len)] 7)) (Tl.setTop (mkF m 31 #[.val (.ref b), .val (.int (Int32.ofNat (o + i))), .val (.ref d), .val (.int (Int32.ofNat (q + i))), .val (.int (Int32.ofNat len)), .val (.int (Int32.ofNat i)), .val (.int (cv A (o + i)))] [.int (lo8 (cv A (o + i))), .int (Int32.ofNat (q + i)), .ref d])) := c5.trans (by
        refine XS.iload Xl.here hexec rfl (hb hbytes d15) rfl ?_
        refine sipushV Xl.here hexec rfl 255 (hb hbytes d17) (by decide) ?_
        refine XS.icmpYes Xl.here hexec rfl (pc0 := 20) rfl (hb hbytes d20) rfl (ii_le_t (hp i (by omega))) (by decide) rfl ?_
        refine XS.aloadN Xl.here hexec rfl (hb hbytes d26) rfl rfl ?_
        refine XS.iloadN Xl.here hexec rfl (hb hbytes d27) rfl ?_
        refine XS.iload Xl.here hexec rfl (hb hbytes d28) rfl ?_
        refine i2b Xl.here hexec rfl (hb hbytes d30) rfl ?_
        exact Steps.refl _)
      obtain ⟨T7, X7, p7, st7⟩ := Xl.aput hexec hBk rfl hlt rfl (fits_lo8 (cv A (o + i))) (g := (mkF m 31 #[.val (.ref b), .val (.int (Int32.ofNat (o + i))), .val (.ref d), .val (.int (Int32.ofNat (q + i))), .val (.int (Int32.ofNat len)), .val (.int (Int32.ofNat i)), .val (.int (cv A (o + i)))] [.int (lo8 (cv A (o + i))), .int (Int32.ofNat (q + i)), .ref d])) rfl (rest := []) rfl (hb hbytes d31)
      have c8 : Steps p.tables e below (s₁.setTop (entryFrame m #[.ref b, .int (Int32.ofNat o), .ref d, .int (Int32.ofNat q), .int (Int32.ofNat len)] 7)) (T7.setTop (mkF m 32 #[.val (.ref b), .val (.int (Int32.ofNat (o + i))), .val (.ref d), .val (.int (Int32.ofNat (q + i))), .val (.int (Int32.ofNat len)), .val (.int (Int32.ofNat i)), .val (.int (cv A (o + i)))] [])) := c6.trans (st7 _ (Steps.refl _))
      have c9 : Steps p.tables e below (s₁.setTop (entryFrame m #[.ref b, .int (Int32.ofNat o), .ref d, .int (Int32.ofNat q), .int (Int32.ofNat len)] 7)) (T7.setTop (mkF m 3 #[.val (.ref b), .val (.int (Int32.ofNat (o + i) + 1)), .val (.ref d), .val (.int (Int32.ofNat (q + i) + 1)), .val (.int (Int32.ofNat len)), .val (.int (Int32.ofNat i + 1)), .val (.int (cv A (o + i)))] [])) := c8.trans (by
        refine iincV X7.here hexec rfl 1 (hb hbytes d32) (by decide) rfl rfl ?_
        refine iincV X7.here hexec rfl 1 (hb hbytes d35) (by decide) rfl rfl ?_
        refine iincV X7.here hexec rfl 1 (hb hbytes d38) (by decide) rfl rfl ?_
        refine XS.goto X7.here hexec rfl (pc0 := 41) rfl (hb hbytes d41) (by decide) rfl ?_
        exact Steps.refl _)
      have c10 : Steps p.tables e below (s₁.setTop (entryFrame m #[.ref b, .int (Int32.ofNat o), .ref d, .int (Int32.ofNat q), .int (Int32.ofNat len)] 7)) (T7.setTop (mkF m 3 #[.val (.ref b), .val (.int (Int32.ofNat (o + (i + 1)))), .val (.ref d), .val (.int (Int32.ofNat (q + (i + 1)))), .val (.int (Int32.ofNat len)), .val (.int (Int32.ofNat (i + 1))), .val (.int (cv A (o + i)))] [])) := by
        have := c9
        rw [succ32, succ32, succ32] at this
        exact this
      exact ih (i + 1) (by omega) _ (Or.inr ⟨_, rfl, rfl⟩) T7 _ (by rw [copyLocs_step, ← List.append_assoc]; exact X7) (pl.trans p7) (fl.step (by omega) hlt (by simp)) c10
  obtain ⟨T9, B9, z9, X9, p9, f9, g9⟩ := loop len 0 (by omega) .unset (Or.inl rfl) s₁ B (by simpa [copyLocs] using X0) ⟨hB0.1, fun _ _ => rfl, rfl⟩ (Laid.zero _ _ _) c2
  have c11 : Steps p.tables e below (s₁.setTop (entryFrame m #[.ref b, .int (Int32.ofNat o), .ref d, .int (Int32.ofNat q), .int (Int32.ofNat len)] 7)) (T9.setTop (mkF m 46 #[.val (.ref b), .val (.int (Int32.ofNat (o + len))), .val (.ref d), .val (.int (Int32.ofNat (q + len))), .val (.int (Int32.ofNat len)), .val (.int (Int32.ofNat len)), z9] [.int (Int32.ofNat len)])) := g9.trans (by
    refine XS.iload X9.here hexec rfl (hb hbytes d3) rfl ?_
    refine XS.iload X9.here hexec rfl (hb hbytes d5) rfl ?_
    refine XS.icmpYes X9.here hexec rfl (pc0 := 7) rfl (hb hbytes d7) rfl (ii_ge_t (nlt32 (by omega) (Nat.le_refl _))) (by decide) rfl ?_
    refine XS.iload X9.here hexec rfl (hb hbytes d44) rfl ?_
    exact Steps.refl _)
  exact ⟨T9, some (.int (Int32.ofNat len)), _, _, _, X9, by simp, rfl, rfl, (fun h => by cases h), ⟨rfl, B9, p9.from hh0, f9⟩, fun fs hl => c11.trans (X9.ireturnOut hexec hret rfl (Or.inl rfl) (hb hbytes d46) hl)⟩
end Cmp5
namespace Cmp3
def yN : MethodName := ⟨"java/lang/StringUTF16", "compress", "([CII)[B"⟩
abbrev yB : ByteArray := jdk_52_method_16_code
theorem d0 : decode yB 0 = .ok (.iload_n 2, 1) := by decide +kernel
theorem d1 : decode yB 1 = .ok (.newarray .byte, 2) := by decide +kernel
theorem d3 : decode yB 3 = .ok (.astore_n 3, 1) := by decide +kernel
theorem d4 : decode yB 4 = .ok (.aload_n 0, 1) := by decide +kernel
theorem d5 : decode yB 5 = .ok (.iload_n 1, 1) := by decide +kernel
theorem d6 : decode yB 6 = .ok (.aload_n 3, 1) := by decide +kernel
theorem d7 : decode yB 7 = .ok (.iconst 0, 1) := by decide +kernel
theorem d8 : decode yB 8 = .ok (.iload_n 2, 1) := by decide +kernel
theorem d9 : decode yB 9 = .ok (.invokestatic 115, 3) := by decide +kernel
theorem d12 : decode yB 12 = .ok (.istore 4, 2) := by decide +kernel
theorem d14 : decode yB 14 = .ok (.iload 4, 2) := by decide +kernel
theorem d16 : decode yB 16 = .ok (.iload_n 2, 1) := by decide +kernel
theorem d17 : decode yB 17 = .ok (.if_icmp (.eq) 40, 3) := by decide +kernel
theorem d57 : decode yB 57 = .ok (.aload_n 3, 1) := by decide +kernel
theorem d58 : decode yB 58 = .ok (.areturn, 1) := by decide +kernel
def site : List Cond := [.arrayClass .byte, Cmp5.tab] ++ staticW U16 115 Cmp5.yN
def tab : Cond := tabOf yN yB 6 (some (.array .byte)) site
def P (b : Addr) (A : Cell) (o len : Nat) (args : Array Value) (s : State) : Prop := args = #[.ref b, .int (Int32.ofNat o), .int (Int32.ofNat len)] ∧ Ch b A s ∧ o + len ≤ A.slots.size ∧ len ≤ 536870912 ∧ ∀ i, i < len → ¬ 255 < cv A (o + i)
def E (b : Addr) (A : Cell) (o len : Nat) (r : Option Value) (s u : State) : Prop := NewArr .byte "[B" len (fun j => .int (lo8 (cv A (o + j)))) r s u ∧ u.heap.size = s.heap.size + 1
/-- no char of the range above 255: a new byte[] of their low bytes -/
theorem law (l : Launch) (b : Addr) (A : Cell) (o len : Nat) : Law l yN 3 3 1 18 yB 6 (some (.array .byte)) site (P b A o len) (E b A o len) [] 1 len := by
  refine Law.of_walk (plainFor_of_name (by decide +kernel)) (by decide +kernel) (by decide +kernel) (by decide) (fun _ _ h => by rw [h.1]; rfl) (fun _ U U' hal hh h => ⟨h.1, h.2.1.mv hal hh, h.2.2⟩) (fun r U U' V V' h1 hal h2 h => ⟨NewArr.mv r U U' V V' h1 hal h2 h.1, by rw [h1, h2]; exact h.2⟩) ?_
  intro p e s m args below meth c s₁ X0 hexec hbytes hml hret hlk hnm hown hh0 W hP
  obtain ⟨rfl, hA, l1, l2, hp⟩ := hP
  have a31 := hA.1.2.2.2
  have c1 : Steps p.tables e below (s₁.setTop (entryFrame m #[.ref b, .int (Int32.ofNat o), .int (Int32.ofNat len)] 6)) (s₁.setTop (mkF m 0 #[.val (.ref b), .val (.int (Int32.ofNat o)), .val (.int (Int32.ofNat len)), .unset, .unset, .unset] [])) := entry rfl
  have c2 : Steps p.tables e below (s₁.setTop (entryFrame m #[.ref b, .int (Int32.ofNat o), .int (Int32.ofNat len)] 6)) (s₁.setTop (mkF m 1 #[.val (.ref b), .val (.int (Int32.ofNat o)), .val (.int (Int32.ofNat len)), .unset, .unset, .unset] [.int (Int32.ofNat len)])) := c1.trans (by
    refine XS.iloadN X0.here hexec rfl (hb hbytes d0) rfl ?_
    exact Steps.refl _)
  obtain ⟨T3, B3, X3, ba3, bs3, bv3, bh3, bf3, st3⟩ := X0.anew hexec (atype := .byte) (wk W (.arrayClass .byte)) rfl (by show len * 1 ≤ _; omega) (by omega) (g := (mkF m 1 #[.val (.ref b), .val (.int (Int32.ofNat o)), .val (.int (Int32.ofNat len)), .unset, .unset, .unset] [.int (Int32.ofNat len)])) rfl (hb hbytes d1) (rest := []) rfl (Nat.le_refl _) (by show 0 + len ≤ len; omega)
  rw [hh0] at ba3 st3
  have kp3 : XT.Kept s T3 := (XT.Kept.of_eq hh0).push bh3
  have hA3 := hA.keep X3.warmed.alike (kp3 _ _ hA.1.1)
  have hne : b ≠ s.heap.size := hA.1.ne
  have c4 : Steps p.tables e below (s₁.setTop (entryFrame m #[.ref b, .int (Int32.ofNat o), .int (Int32.ofNat len)] 6)) (T3.setTop (mkF m 3 #[.val (.ref b), .val (.int (Int32.ofNat o)), .val (.int (Int32.ofNat len)), .unset, .unset, .unset] [.ref s.heap.size])) := c2.trans (st3 _ (Steps.refl _))
  have c5 : Steps p.tables e below (s₁.setTop (entryFrame m #[.ref b, .int (Int32.ofNat o), .int (Int32.ofNat len)] 6)) (T3.setTop (mkF m 9 #[.val (.ref b), .val (.int (Int32.ofNat o)), .val (.int (Int32.ofNat len)), .val (.ref s.heap.size), .unset, .unset] [.int (Int32.ofNat len), .int 0, .ref s.heap.size, .int (Int32.ofNat o), .ref b])) := c4.trans (by
    refine XS.astoreN X3.here hexec rfl (hb hbytes d3) rfl rfl rfl ?_
    refine XS.aloadN X3.here hexec rfl (hb hbytes d4) rfl rfl ?_
    refine XS.iloadN X3.here hexec rfl (hb hbytes d5) rfl ?_
    refine XS.aloadN X3.here hexec rfl (hb hbytes d6) rfl rfl ?_
    refine iconstV X3.here hexec rfl 0 (hb hbytes d7) (by decide) ?_
    refine XS.iloadN X3.here hexec rfl (hb hbytes d8) rfl ?_
    exact Steps.refl _)
  obtain ⟨v6, T6, X6, E6, g6⟩ := X3.callS hexec (Cmp5.law l b A s.heap.size B3 o 0 len) hown (wks W (staticW U16 115 Cmp5.yN)) (wk W Cmp5.tab) (W := 0) (Nat.le_of_ble_eq_true rfl) (Nat.le_of_ble_eq_true rfl) (Nat.le_refl _) (by show 0 + len + 0 ≤ len; omega) (g := (mkF m 9 #[.val (.ref b), .val (.int (Int32.ofNat o)), .val (.int (Int32.ofNat len)), .val (.ref s.heap.size), .unset, .unset] [.int (Int32.ofNat len), .int (Int32.ofNat 0), .ref s.heap.size, .int (Int32.ofNat o), .ref b])) rfl (by rw [hml]; rfl) c5 (argsL := [.ref b, .int (Int32.ofNat o), .ref s.heap.size, .int (Int32.ofNat 0), .int (Int32.ofNat len)]) (rest := []) rfl rfl (by show 2 * 0 + 0 ≤ _; decide) (hb hbytes d9) (⟨rfl, hA3, ba3, hne, l1, by rw [bs3]; simp, hp⟩)
  obtain ⟨rfl, B6, p6, f6⟩ := E6
  have c7 : Steps p.tables e below (s₁.setTop (entryFrame m #[.ref b, .int (Int32.ofNat o), .int (Int32.ofNat len)] 6)) (T6.setTop (mkF m 12 #[.val (.ref b), .val (.int (Int32.ofNat o)), .val (.int (Int32.ofNat len)), .val (.ref s.heap.size), .unset, .unset] [.int (Int32.ofNat len)])) := g6
  have c8 : Steps p.tables e below (s₁.setTop (entryFrame m #[.ref b, .int (Int32.ofNat o), .int (Int32.ofNat len)] 6)) (T6.setTop (mkF m 58 #[.val (.ref b), .val (.int (Int32.ofNat o)), .val (.int (Int32.ofNat len)), .val (.ref s.heap.size), .val (.int (Int32.ofNat len)), .unset] [.ref s.heap.size])) := c7.trans (by
    refine XS.istore X6.here hexec rfl (hb hbytes d12) rfl rfl ?_
    refine XS.iload X6.here hexec rfl (hb hbytes d14) rfl ?_
    refine XS.iloadN X6.here hexec rfl (hb hbytes d16) rfl ?_
    refine XS.icmpYes X6.here hexec rfl (pc0 := 17) rfl (hb hbytes d17) rfl (ii_eq_t rfl) (by decide) rfl ?_
    refine XS.aloadN X6.here hexec rfl (hb hbytes d57) rfl rfl ?_
    exact Steps.refl _)
  have X8 := X6.wide (L' := []) (cells' := 1) (slots' := len) (fun x hx hlt => by
    simp only [List.nil_append, copyLocs, List.mem_map, List.mem_range] at hx
    obtain ⟨i, -, rfl⟩ := hx
    exact absurd hlt (Nat.lt_irrefl _)) (Nat.le_refl _) (by omega)
  exact ⟨T6, some (.ref s.heap.size), _, _, _, X8, rfl, rfl, rfl, (fun h => by cases h), ⟨⟨rfl, B6, ba3.like (X3.warmed.alike.symm.trans X6.warmed.alike) p6.1 f6.1 f6.2.1 f6.2.2.1, f6.2.1.trans bv3, by rw [X6.warmed.alike.findClass, f6.1]; exact bf3, by rw [f6.2.2.1, bs3]; simp, fun j hj => by rw [f6.2.2.2 j, if_pos (by omega)]; rfl, kp3.put p6 (Nat.le_refl _)⟩, by rw [p6.2.2, bh3, hh0]; simp⟩, fun fs hl => c8.trans (X8.areturnOut hexec rfl hret rfl (hb hbytes d58) hl)⟩
end Cmp3
namespace CodL
def yN : MethodName := ⟨"java/lang/StringUTF16", "coderFromArrayLen", "([BI)B"⟩
abbrev yB : ByteArray := jdk_52_method_15_code
theorem d0 : decode yB 0 = .ok (.iload_n 1, 1) := by decide +kernel
theorem d1 : decode yB 1 = .ok (.aload_n 0, 1) := by decide +kernel
theorem d2 : decode yB 2 = .ok (.arraylength, 1) := by decide +kernel
theorem d3 : decode yB 3 = .ok (.isub, 1) := by decide +kernel
theorem d4 : decode yB 4 = .ok (.bipush 31, 2) := by decide +kernel
theorem d6 : decode yB 6 = .ok (.iushr, 1) := by decide +kernel
theorem d7 : decode yB 7 = .ok (.i2b, 1) := by decide +kernel
theorem d8 : decode yB 8 = .ok (.ireturn, 1) := by decide +kernel
def site : List Cond := []
def tab : Cond := tabOf yN yB 2 (some .byte) site
def P (d : Addr) (B : Cell) (args : Array Value) (s : State) : Prop := args = #[.ref d, .int (Int32.ofNat B.slots.size)] ∧ Arr .byte d B s
def E (r : Option Value) (s u : State) : Prop := XT.PureE (some (.int 0)) r s u
/-- an array as long as the number of chars: LATIN1 -/
theorem law (l : Launch) (d : Addr) (B : Cell) : Law l yN 2 2 0 0 yB 2 (some .byte) site (P d B) E [] 0 0 := by
  refine Law.of_walk (plainFor_of_name (by decide +kernel)) (by decide +kernel) (by decide +kernel) (by decide) (fun _ _ h => by rw [h.1]; rfl) (fun _ U U' hal hh h => ⟨h.1, h.2.mv hal hh⟩) (fun r U U' V V' h1 hal h2 h => XT.PureE.mv r U U' V V' h1 hal h2 h) ?_
  intro p e s m args below meth c s₁ X0 hexec hbytes hml hret hlk hnm hown hh0 W hP
  obtain ⟨rfl, hB⟩ := hP
  have hB0 := hB.mv X0.warmed.alike hh0
  have c1 : Steps p.tables e below (s₁.setTop (entryFrame m #[.ref d, .int (Int32.ofNat B.slots.size)] 2)) (s₁.setTop (mkF m 0 #[.val (.ref d), .val (.int (Int32.ofNat B.slots.size))] [])) := entry rfl
  have c2 : Steps p.tables e below (s₁.setTop (entryFrame m #[.ref d, .int (Int32.ofNat B.slots.size)] 2)) (s₁.setTop (mkF m 2 #[.val (.ref d), .val (.int (Int32.ofNat B.slots.size))] [.ref d, .int (Int32.ofNat B.slots.size)])) := c1.trans (by
    refine XS.iloadN X0.here hexec rfl (hb hbytes d0) rfl ?_
    refine XS.aloadN X0.here hexec rfl (hb hbytes d1) rfl rfl ?_
    exact Steps.refl _)
  have c3 : Steps p.tables e below (s₁.setTop (entryFrame m #[.ref d, .int (Int32.ofNat B.slots.size)] 2)) (s₁.setTop (mkF m 8 #[.val (.ref d), .val (.int (Int32.ofNat B.slots.size))] [.int (lo8 (ushr (Int32.ofNat B.slots.size - Int32.ofNat B.slots.size) 31))])) := c2.trans (by
    refine X0.alen hexec hB0 rfl rfl (hb hbytes d2) ?_
    refine XS.isub X0.here hexec rfl (hb hbytes d3) rfl ?_
    refine bipushV X0.here hexec rfl 31 (hb hbytes d4) (by decide) ?_
    refine iushr X0.here hexec rfl (hb hbytes d6) rfl ?_
    refine i2b X0.here hexec rfl (hb hbytes d7) rfl ?_
    exact Steps.refl _)
  have e0 : lo8 (ushr (Int32.ofNat B.slots.size - Int32.ofNat B.slots.size) 31) = 0 := by rw [Int32.sub_self]; decide
  rw [e0] at c3
  exact ⟨s₁, some (.int 0), _, _, _, X0, rfl, rfl, rfl, (fun h => by cases h), ⟨rfl, hh0⟩, fun fs hl => c3.trans (X0.ireturnOut hexec hret rfl (Or.inr (Or.inr (Or.inl rfl))) (hb hbytes d8) hl)⟩
end CodL
/-- the String at a is Latin-1 over a new byte[] (the heap's one new cell): the low bytes of the len chars of A from o on; every cell but a is kept -/
def Got (a : Addr) (D : Cell) (fV fC : Field) (A : Cell) (o len : Nat) (r : Option Value) (s u : State) : Prop := r = none ∧ ∃ D' V : Cell, Blank "java/lang/String" a D' u ∧ Same D D' [fV.slot, fC.slot] ∧ D'.slots[fV.slot]? = some (.ref s.heap.size) ∧ D'.slots[fC.slot]? = some (.int 0) ∧ Arr .byte s.heap.size V u ∧ V.vm = .none ∧ u.vm.findClass "[B" = some V.cls ∧ V.slots.size = len ∧ (∀ j, j < len → V.slots[j]? = some (.int (lo8 (cv A (o + j))))) ∧ (∀ (y : Addr) (c : Cell), y ≠ a → s.heap[y]? = some c → u.heap[y]? = some c) ∧ u.heap.size = s.heap.size + 1
theorem Got.mv {a : Addr} {D A : Cell} {fV fC : Field} {o len : Nat} : ∀ r (U U' V V' : State), U'.heap = U.heap → V.vm.Alike V'.vm → V'.heap = V.heap → Got a D fV fC A o len r U V → Got a D fV fC A o len r U' V' :=
  fun r U U' V V' h1 hal h2 ⟨e0, D', X, a1, a2, a3, a4, a5, a6, a7, a8, a9, a10, a11⟩ => ⟨e0, D', X, a1.mv hal h2, a2, by rw [h1]; exact a3, a4, by rw [h1]; exact a5.mv hal h2, a6, by rw [hal.findClass]; exact a7, a8, a9, by rw [h1, h2]; exact a10, by rw [h1, h2]; exact a11⟩
namespace New4
def yN : MethodName := ⟨"java/lang/String", "<init>", "([CIILjava/lang/Void;)V"⟩
abbrev yB : ByteArray := jdk_42_method_149_code
theorem d0 : decode yB 0 = .ok (.aload_n 0, 1) := by decide +kernel
theorem d1 : decode yB 1 = .ok (.invokespecial 1, 3) := by decide +kernel
theorem d4 : decode yB 4 = .ok (.iload_n 3, 1) := by decide +kernel
theorem d5 : decode yB 5 = .ok (.ifCond (.ne) 22, 3) := by decide +kernel
theorem d27 : decode yB 27 = .ok (.getstatic 38, 3) := by decide +kernel
theorem d30 : decode yB 30 = .ok (.ifCond (.eq) 28, 3) := by decide +kernel
theorem d33 : decode yB 33 = .ok (.aload_n 1, 1) := by decide +kernel
theorem d34 : decode yB 34 = .ok (.iload_n 2, 1) := by decide +kernel
theorem d35 : decode yB 35 = .ok (.iload_n 3, 1) := by decide +kernel
theorem d36 : decode yB 36 = .ok (.invokestatic 177, 3) := by decide +kernel
theorem d39 : decode yB 39 = .ok (.astore 5, 2) := by decide +kernel
theorem d41 : decode yB 41 = .ok (.aload_n 0, 1) := by decide +kernel
theorem d42 : decode yB 42 = .ok (.aload 5, 2) := by decide +kernel
theorem d44 : decode yB 44 = .ok (.iload_n 3, 1) := by decide +kernel
theorem d45 : decode yB 45 = .ok (.invokestatic 47, 3) := by decide +kernel
theorem d48 : decode yB 48 = .ok (.putfield 15, 3) := by decide +kernel
theorem d51 : decode yB 51 = .ok (.aload_n 0, 1) := by decide +kernel
theorem d52 : decode yB 52 = .ok (.aload 5, 2) := by decide +kernel
theorem d54 : decode yB 54 = .ok (.putfield 9, 3) := by decide +kernel
theorem d57 : decode yB 57 = .ok (.return_, 1) := by decide +kernel
def site : List Cond := [.fieldLink "java/lang/String" 38 "java/lang/String" "COMPACT_STRINGS" "Z", Cmp3.tab, CodL.tab, .laysFinal "java/lang/String" "java/lang/String" "value" "[B", .fieldLink "java/lang/String" 9 "java/lang/String" "value" "[B", .laysFinal "java/lang/String" "java/lang/String" "coder" "B", .fieldLink "java/lang/String" 15 "java/lang/String" "coder" "B"] ++ objW "java/lang/String" 1 ++ staticW "java/lang/String" 177 Cmp3.yN ++ staticW "java/lang/String" 47 CodL.yN
def tab : Cond := tabOf yN yB 6 none site
def P (a : Addr) (D : Cell) (fV fC : Field) (b : Addr) (A : Cell) (z : Int32) (o len : Nat) (args : Array Value) (s : State) : Prop := args = #[.ref a, .ref b, .int (Int32.ofNat o), .int (Int32.ofNat len), .null] ∧ Blank "java/lang/String" a D s ∧ Found "java/lang/String" "value" "[B" fV s ∧ Found "java/lang/String" "coder" "B" fC s ∧ Ch b A s ∧ StaticIs s "java/lang/String" "COMPACT_STRINGS" "Z" (.int z) ∧ ¬ z = 0 ∧ 0 < len ∧ o + len ≤ A.slots.size ∧ len ≤ 536870912 ∧ ∀ i, i < len → ¬ 255 < cv A (o + i)
def E (a : Addr) (D : Cell) (fV fC : Field) (A : Cell) (o len : Nat) (r : Option Value) (s u : State) : Prop := Got a D fV fC A o len r s u
/-- len > 0, no char of the range above 255: a Latin-1 String of their low bytes -/
theorem law (l : Launch) (a : Addr) (D : Cell) (fV fC : Field) (b : Addr) (A : Cell) (z : Int32) (o len : Nat) : Law l yN 5 4 2 35 yB 6 none site (P a D fV fC b A z o len) (E a D fV fC A o len) [⟨a, fC.slot⟩, ⟨a, fV.slot⟩] 1 len := by
  refine Law.of_walk (plainFor_of_name (by decide +kernel)) (by decide +kernel) (by decide +kernel) (by decide) (fun _ _ h => by rw [h.1]; rfl) (fun _ U U' hal hh h => ⟨h.1, h.2.1.mv hal hh, h.2.2.1.al hal, h.2.2.2.1.al hal, h.2.2.2.2.1.mv hal hh, h.2.2.2.2.2.1.there hal hh, h.2.2.2.2.2.2⟩) (fun r U U' V V' h1 hal h2 h => Got.mv r U U' V V' h1 hal h2 h) ?_
  intro p e s m args below meth c s₁ X0 hexec hbytes hml hret hlk hnm hown hh0 W hP
  obtain ⟨rfl, hB, f1, f2, hA, s1, hz, l0, l1, l2, hp⟩ := hP
  have a31 := hA.1.2.2.2
  have c1 : Steps p.tables e below (s₁.setTop (entryFrame m #[.ref a, .ref b, .int (Int32.ofNat o), .int (Int32.ofNat len), .null] 6)) (s₁.setTop (mkF m 0 #[.val (.ref a), .val (.ref b), .val (.int (Int32.ofNat o)), .val (.int (Int32.ofNat len)), .val .null, .unset] [])) := entry rfl
  have c2 : Steps p.tables e below (s₁.setTop (entryFrame m #[.ref a, .ref b, .int (Int32.ofNat o), .int (Int32.ofNat len), .null] 6)) (s₁.setTop (mkF m 1 #[.val (.ref a), .val (.ref b), .val (.int (Int32.ofNat o)), .val (.int (Int32.ofNat len)), .val .null, .unset] [.ref a])) := c1.trans (by
    refine XS.aloadN X0.here hexec rfl (hb hbytes d0) rfl rfl ?_
    exact Steps.refl _)
  obtain ⟨T3, X3, q3, st3⟩ := X0.oinit hexec hown (wks W (objW "java/lang/String" 1)) (g := (mkF m 1 #[.val (.ref a), .val (.ref b), .val (.int (Int32.ofNat o)), .val (.int (Int32.ofNat len)), .val .null, .unset] [.ref a])) rfl (by rw [hml]; rfl) (rest := []) rfl (hb hbytes d1) (W := 0) (by show 2 * 0 + 0 ≤ _; decide) (Nat.le_of_ble_eq_true rfl) (Nat.le_of_ble_eq_true rfl)
  have hh3 := q3.trans hh0
  have c4 : Steps p.tables e below (s₁.setTop (entryFrame m #[.ref a, .ref b, .int (Int32.ofNat o), .int (Int32.ofNat len), .null] 6)) (T3.setTop (mkF m 27 #[.val (.ref a), .val (.ref b), .val (.int (Int32.ofNat o)), .val (.int (Int32.ofNat len)), .val .null, .unset] [])) := (c2.trans (st3 _ (Steps.refl _))).trans (by
    refine XS.iloadN X3.here hexec rfl (hb hbytes d4) rfl ?_
    refine XS.ifYes X3.here hexec rfl (pc0 := 5) rfl (hb hbytes d5) rfl (i0_ne_t (nz32 (by omega) l0)) (by decide) rfl ?_
    exact Steps.refl _)
  obtain ⟨T5, X5, q5, st5⟩ := X3.sget hexec hown (wk W (.fieldLink "java/lang/String" 38 "java/lang/String" "COMPACT_STRINGS" "Z")) s1 (fun _ _ h => by rw [hh3]; exact h) (g := (mkF m 27 #[.val (.ref a), .val (.ref b), .val (.int (Int32.ofNat o)), .val (.int (Int32.ofNat len)), .val .null, .unset] [])) rfl (hb hbytes d27)
  have hh5 := q5.trans hh3
  have c6 : Steps p.tables e below (s₁.setTop (entryFrame m #[.ref a, .ref b, .int (Int32.ofNat o), .int (Int32.ofNat len), .null] 6)) (T5.setTop (mkF m 30 #[.val (.ref a), .val (.ref b), .val (.int (Int32.ofNat o)), .val (.int (Int32.ofNat len)), .val .null, .unset] [.int z])) := c4.trans (st5 _ (Steps.refl _))
  have c7 : Steps p.tables e below (s₁.setTop (entryFrame m #[.ref a, .ref b, .int (Int32.ofNat o), .int (Int32.ofNat len), .null] 6)) (T5.setTop (mkF m 36 #[.val (.ref a), .val (.ref b), .val (.int (Int32.ofNat o)), .val (.int (Int32.ofNat len)), .val .null, .unset] [.int (Int32.ofNat len), .int (Int32.ofNat o), .ref b])) := c6.trans (by
    refine XS.ifNo X5.here hexec rfl (hb hbytes d30) rfl (i0_eq_f hz) ?_
    refine XS.aloadN X5.here hexec rfl (hb hbytes d33) rfl rfl ?_
    refine XS.iloadN X5.here hexec rfl (hb hbytes d34) rfl ?_
    refine XS.iloadN X5.here hexec rfl (hb hbytes d35) rfl ?_
    exact Steps.refl _)
  obtain ⟨v8, T8, X8, E8, g8⟩ := X5.callS hexec (Cmp3.law l b A o len) hown (wks W (staticW "java/lang/String" 177 Cmp3.yN)) (wk W Cmp3.tab) (W := 0) (Nat.le_of_ble_eq_true rfl) (Nat.le_of_ble_eq_true rfl) (Nat.le_refl _) (by show 0 + len ≤ len; omega) (g := (mkF m 36 #[.val (.ref a), .val (.ref b), .val (.int (Int32.ofNat o)), .val (.int (Int32.ofNat len)), .val .null, .unset] [.int (Int32.ofNat len), .int (Int32.ofNat o), .ref b])) rfl (by rw [hml]; rfl) c7 (argsL := [.ref b, .int (Int32.ofNat o), .int (Int32.ofNat len)]) (rest := []) rfl rfl (by show 2 * 0 + 0 ≤ _; decide) (hb hbytes d36) (⟨rfl, hA.mv X5.warmed.alike hh5, l1, l2, hp⟩)
  obtain ⟨e8, z8⟩ := E8
  obtain ⟨rfl, N, n1, n2, n3, n4, n5, n6⟩ := NewArr.mv _ T5 s _ _ hh5.symm (Vm.Alike.refl _) rfl e8
  rw [hh5] at z8
  have hB1 := hB.keep X8.warmed.alike (n6 _ _ hB.1)
  have hne : s.heap.size ≠ a := (Nat.ne_of_lt (Array.getElem?_eq_some_iff.mp hB.1).1).symm
  have c9 : Steps p.tables e below (s₁.setTop (entryFrame m #[.ref a, .ref b, .int (Int32.ofNat o), .int (Int32.ofNat len), .null] 6)) (T8.setTop (mkF m 39 #[.val (.ref a), .val (.ref b), .val (.int (Int32.ofNat o)), .val (.int (Int32.ofNat len)), .val .null, .unset] [.ref s.heap.size])) := g8
  have c10 : Steps p.tables e below (s₁.setTop (entryFrame m #[.ref a, .ref b, .int (Int32.ofNat o), .int (Int32.ofNat len), .null] 6)) (T8.setTop (mkF m 45 #[.val (.ref a), .val (.ref b), .val (.int (Int32.ofNat o)), .val (.int (Int32.ofNat len)), .val .null, .val (.ref s.heap.size)] [.int (Int32.ofNat N.slots.size), .ref s.heap.size, .ref a])) := by
    have hc : Steps p.tables e below (s₁.setTop (entryFrame m #[.ref a, .ref b, .int (Int32.ofNat o), .int (Int32.ofNat len), .null] 6)) (T8.setTop (mkF m 45 #[.val (.ref a), .val (.ref b), .val (.int (Int32.ofNat o)), .val (.int (Int32.ofNat len)), .val .null, .val (.ref s.heap.size)] [.int (Int32.ofNat len), .ref s.heap.size, .ref a])) := c9.trans (by
      refine XS.astore X8.here hexec rfl (hb hbytes d39) rfl rfl rfl ?_
      refine XS.aloadN X8.here hexec rfl (hb hbytes d41) rfl rfl ?_
      refine XS.aload X8.here hexec rfl (hb hbytes d42) rfl rfl ?_
      refine XS.iloadN X8.here hexec rfl (hb hbytes d44) rfl ?_
      exact Steps.refl _)
    rw [n4]; exact hc
  obtain ⟨v11, T11, X11, E11, g11⟩ := X8.callS hexec (CodL.law l s.heap.size N) hown (wks W (staticW "java/lang/String" 47 CodL.yN)) (wk W CodL.tab) (W := 1) (Nat.le_of_ble_eq_true rfl) (Nat.le_of_ble_eq_true rfl) (Nat.le_refl _) (by show 0 + len + 0 ≤ len; omega) (g := (mkF m 45 #[.val (.ref a), .val (.ref b), .val (.int (Int32.ofNat o)), .val (.int (Int32.ofNat len)), .val .null, .val (.ref s.heap.size)] [.int (Int32.ofNat N.slots.size), .ref s.heap.size, .ref a])) rfl (by rw [hml]; rfl) c10 (argsL := [.ref s.heap.size, .int (Int32.ofNat N.slots.size)]) (rest := [.ref a]) rfl rfl (by show 2 * 0 + (1 + 0) ≤ _; decide) (hb hbytes d45) (⟨rfl, n1⟩)
  obtain ⟨rfl, q11⟩ := E11
  have hB11 := hB1.mv (X8.warmed.alike.symm.trans X11.warmed.alike) q11
  have c12 : Steps p.tables e below (s₁.setTop (entryFrame m #[.ref a, .ref b, .int (Int32.ofNat o), .int (Int32.ofNat len), .null] 6)) (T11.setTop (mkF m 48 #[.val (.ref a), .val (.ref b), .val (.int (Int32.ofNat o)), .val (.int (Int32.ofNat len)), .val .null, .val (.ref s.heap.size)] [.int 0, .ref a])) := g11
  obtain ⟨T13, X13, p13, bl13, sl13, st13⟩ := X11.finit hexec hown (wk W (.fieldLink "java/lang/String" 15 "java/lang/String" "coder" "B")) (Or.inr ⟨_, (wk W (.laysFinal "java/lang/String" "java/lang/String" "coder" "B"))⟩) (Or.inl ⟨rfl, hnm⟩) f2 (Or.inl rfl) hB11 (t := .byte) (by decide +kernel) rfl (g := (mkF m 48 #[.val (.ref a), .val (.ref b), .val (.int (Int32.ofNat o)), .val (.int (Int32.ofNat len)), .val .null, .val (.ref s.heap.size)] [.int 0, .ref a])) rfl (rest := []) rfl (hb hbytes d48)
  have c14 : Steps p.tables e below (s₁.setTop (entryFrame m #[.ref a, .ref b, .int (Int32.ofNat o), .int (Int32.ofNat len), .null] 6)) (T13.setTop (mkF m 54 #[.val (.ref a), .val (.ref b), .val (.int (Int32.ofNat o)), .val (.int (Int32.ofNat len)), .val .null, .val (.ref s.heap.size)] [.ref s.heap.size, .ref a])) := (c12.trans (st13 _ (Steps.refl _))).trans (by
    refine XS.aloadN X13.here hexec rfl (hb hbytes d51) rfl rfl ?_
    refine XS.aload X13.here hexec rfl (hb hbytes d52) rfl rfl ?_
    exact Steps.refl _)
  obtain ⟨T15, X15, p15, bl15, sl15, st15⟩ := X13.finit hexec hown (wk W (.fieldLink "java/lang/String" 9 "java/lang/String" "value" "[B")) (Or.inr ⟨_, (wk W (.laysFinal "java/lang/String" "java/lang/String" "value" "[B"))⟩) (Or.inl ⟨rfl, hnm⟩) f1 (Or.inl rfl) bl13 (t := (.array .byte)) (by decide +kernel) rfl (g := (mkF m 54 #[.val (.ref a), .val (.ref b), .val (.int (Int32.ofNat o)), .val (.int (Int32.ofNat len)), .val .null, .val (.ref s.heap.size)] [.ref s.heap.size, .ref a])) rfl (rest := []) rfl (hb hbytes d54)
  have c16 : Steps p.tables e below (s₁.setTop (entryFrame m #[.ref a, .ref b, .int (Int32.ofNat o), .int (Int32.ofNat len), .null] 6)) (T15.setTop (mkF m 57 #[.val (.ref a), .val (.ref b), .val (.int (Int32.ofNat o)), .val (.int (Int32.ofNat len)), .val .null, .val (.ref s.heap.size)] [])) := c14.trans (st15 _ (Steps.refl _))
  have ap := apart (Or.inr ⟨_, (wk W (.laysFinal "java/lang/String" "java/lang/String" "value" "[B"))⟩) (Or.inr ⟨_, (wk W (.laysFinal "java/lang/String" "java/lang/String" "coder" "B"))⟩) f1 f2 (t₁ := .array .byte) (t₂ := .byte) (by decide +kernel) (by decide +kernel) (by decide)
  have al := X8.warmed.alike.symm.trans X15.warmed.alike
  have n7 : T11.heap[s.heap.size]? = some N := by rw [q11]; exact n1.1
  exact ⟨T15, none, _, _, _, X15, by simp, rfl, by omega, (fun _ => rfl), ⟨rfl, _, N, bl15, ((Same.refl D _).set _ (by simp)).set _ (by simp), sl15, (Cell.slots_setSlot_ne _ ap).trans sl13, n1.keep al (p15.other hne (p13.other hne n7)), n2, by rw [al.findClass]; exact n3, n4, n5, fun y c h1 h2 => p15.other h1 (p13.other h1 (by rw [q11]; exact n6 y c h2)), by rw [p15.2.2, p13.2.2, q11]; exact z8⟩, fun fs hl => c16.trans (X15.returnOut hexec hret (hb hbytes d57) hl)⟩
end New4
namespace New1
def yN : MethodName := ⟨"java/lang/String", "<init>", "([C)V"⟩
abbrev yB : ByteArray := jdk_42_method_3_code
theorem d0 : decode yB 0 = .ok (.aload_n 0, 1) := by decide +kernel
theorem d1 : decode yB 1 = .ok (.aload_n 1, 1) := by decide +kernel
theorem d2 : decode yB 2 = .ok (.iconst 0, 1) := by decide +kernel
theorem d3 : decode yB 3 = .ok (.aload_n 1, 1) := by decide +kernel
theorem d4 : decode yB 4 = .ok (.arraylength, 1) := by decide +kernel
theorem d5 : decode yB 5 = .ok (.aconst_null, 1) := by decide +kernel
theorem d6 : decode yB 6 = .ok (.invokespecial 27, 3) := by decide +kernel
theorem d9 : decode yB 9 = .ok (.return_, 1) := by decide +kernel
def site : List Cond := [New4.tab] ++ initW "java/lang/String" 27 New4.yN
def tab : Cond := tabOf yN yB 2 none site
def P (a : Addr) (D : Cell) (fV fC : Field) (b : Addr) (A : Cell) (z : Int32) (args : Array Value) (s : State) : Prop := args = #[.ref a, .ref b] ∧ Blank "java/lang/String" a D s ∧ Found "java/lang/String" "value" "[B" fV s ∧ Found "java/lang/String" "coder" "B" fC s ∧ Ch b A s ∧ StaticIs s "java/lang/String" "COMPACT_STRINGS" "Z" (.int z) ∧ ¬ z = 0 ∧ 0 < A.slots.size ∧ A.slots.size ≤ 536870912 ∧ ∀ i, i < A.slots.size → ¬ 255 < cv A i
def E (a : Addr) (D : Cell) (fV fC : Field) (A : Cell) (r : Option Value) (s u : State) : Prop := Got a D fV fC A 0 A.slots.size r s u
/-- new String(chars), not empty, no char above 255: a Latin-1 String of their low bytes -/
theorem law (l : Launch) (a : Addr) (D : Cell) (fV fC : Field) (b : Addr) (A : Cell) (z : Int32) : Law l yN 2 1 3 52 yB 2 none site (P a D fV fC b A z) (E a D fV fC A) [⟨a, fC.slot⟩, ⟨a, fV.slot⟩] 1 A.slots.size := by
  refine Law.of_walk (plainFor_of_name (by decide +kernel)) (by decide +kernel) (by decide +kernel) (by decide) (fun _ _ h => by rw [h.1]; rfl) (fun _ U U' hal hh h => ⟨h.1, h.2.1.mv hal hh, h.2.2.1.al hal, h.2.2.2.1.al hal, h.2.2.2.2.1.mv hal hh, h.2.2.2.2.2.1.there hal hh, h.2.2.2.2.2.2⟩) (fun r U U' V V' h1 hal h2 h => Got.mv r U U' V V' h1 hal h2 h) ?_
  intro p e s m args below meth c s₁ X0 hexec hbytes hml hret hlk hnm hown hh0 W hP
  obtain ⟨rfl, hB, f1, f2, hA, s1, hz, l0, l2, hp⟩ := hP
  have c1 : Steps p.tables e below (s₁.setTop (entryFrame m #[.ref a, .ref b] 2)) (s₁.setTop (mkF m 0 #[.val (.ref a), .val (.ref b)] [])) := entry rfl
  have c2 : Steps p.tables e below (s₁.setTop (entryFrame m #[.ref a, .ref b] 2)) (s₁.setTop (mkF m 6 #[.val (.ref a), .val (.ref b)] [.null, .int (Int32.ofNat A.slots.size), .int 0, .ref b, .ref a])) := c1.trans (by
    refine XS.aloadN X0.here hexec rfl (hb hbytes d0) rfl rfl ?_
    refine XS.aloadN X0.here hexec rfl (hb hbytes d1) rfl rfl ?_
    refine iconstV X0.here hexec rfl 0 (hb hbytes d2) (by decide) ?_
    refine XS.aloadN X0.here hexec rfl (hb hbytes d3) rfl rfl ?_
    refine X0.alen hexec (hA.1.mv X0.warmed.alike hh0) rfl rfl (hb hbytes d4) ?_
    refine XS.aconstNull X0.here hexec rfl (hb hbytes d5) ?_
    exact Steps.refl _)
  obtain ⟨v3, T3, X3, E3, g3⟩ := X0.callN hexec (New4.law l a D fV fC b A z 0 A.slots.size) rfl hown (wks W (initW "java/lang/String" 27 New4.yN)) (W New4.tab (by simp only [site, List.mem_cons, List.mem_append, true_or, or_true])) (W := 0) (Nat.le_of_ble_eq_true rfl) (Nat.le_of_ble_eq_true rfl) (Nat.le_refl _) (by show 0 + A.slots.size ≤ A.slots.size; omega) (g := (mkF m 6 #[.val (.ref a), .val (.ref b)] [.null, .int (Int32.ofNat A.slots.size), .int (Int32.ofNat 0), .ref b, .ref a])) rfl (by rw [hml]; rfl) c2 (argsL := [.ref b, .int (Int32.ofNat 0), .int (Int32.ofNat A.slots.size), .null]) (rest := []) rfl rfl (by show 2 * 0 + 0 ≤ _; decide) (hb hbytes d6) (⟨rfl, hB.mv X0.warmed.alike hh0, f1.al X0.warmed.alike, f2.al X0.warmed.alike, hA.mv X0.warmed.alike hh0, s1.there X0.warmed.alike hh0, hz, l0, by omega, l2, fun i hi => by rw [Nat.zero_add]; exact hp i hi⟩)
  have e0 := Got.mv _ s₁ s _ _ hh0.symm (Vm.Alike.refl _) rfl E3
  obtain rfl := e0.1
  have c4 : Steps p.tables e below (s₁.setTop (entryFrame m #[.ref a, .ref b] 2)) (T3.setTop (mkF m 9 #[.val (.ref a), .val (.ref b)] [])) := g3
  exact ⟨T3, none, _, _, _, X3, by simp, rfl, by omega, (fun _ => rfl), e0, fun fs hl => c4.trans (X3.returnOut hexec hret (hb hbytes d9) hl)⟩
theorem pays {l : Launch} {R : Room} {p : Program} {e : Env} {below : List Frame} {s : State} {sargs : Array Value} {len W : Nat} (a : Addr) (D : Cell) (fV fC : Field) (b : Addr) (A : Cell) (z : Int32) (htab : tab.before sargs s = true) (hfr : 4 ≤ R.frames) (hlo : W + 65 ≤ R.locals) :
    Back l R p e below s sargs yN len W (fun A₁ a₁ => A₁.cells + 1 ≤ R.cells ∧ A₁.slots + A.slots.size ≤ R.slots ∧ P a D fV fC b A z a₁ A₁.U) (fun A₁ _ v₁ B₁ => E a D fV fC A v₁ A₁.U B₁.U ∧ B₁.locs = A₁.locs ++ [⟨a, fC.slot⟩, ⟨a, fV.slot⟩] ∧ B₁.cells = A₁.cells + 1 ∧ B₁.slots = A₁.slots + A.slots.size) :=
  (law l a D fV fC b A z).pays htab hfr (by omega)
end New1
end StrChars
namespace StrChars.Road
open Jvm Sem ClassFile Op Lib Jvm.Stand Jvm.Free Jvm.Free.XT
open Jvm.Lib.Cold (StaticIs)
abbrev ST : String := "java/lang/String"
/-- every table word that New1's law asks, flat -/
abbrev words : List Jvm.Cond := [.code New1.yN New1.yB 2 none, .initialized ST, .methodLink ST 27 New4.yN, .instanceMethod New4.yN,
  .code New4.yN New4.yB 6 none, .fieldLink ST 38 ST "COMPACT_STRINGS" "Z", .laysFinal ST ST "value" "[B", .fieldLink ST 9 ST "value" "[B", .laysFinal ST ST "coder" "B", .fieldLink ST 15 ST "coder" "B",
  .methodLink ST 1 Lib.objectInit, .instanceMethod Lib.objectInit, .code Lib.objectInit ⟨#[0xb1]⟩ 1 none, .methodLink ST 177 Cmp3.yN, .static Cmp3.yN, .methodLink ST 47 CodL.yN, .static CodL.yN,
  .code Cmp3.yN Cmp3.yB 6 (some (.array .byte)), .initialized U16, .arrayClass .byte, .methodLink U16 115 Cmp5.yN, .static Cmp5.yN, .code Cmp5.yN Cmp5.yB 7 (some .int), .code CodL.yN CodL.yB 2 (some .byte)]
theorem tab_of {a : Array Value} {s : State} (h : ∀ w ∈ words, w.before a s = true) : New1.tab.before a s = true := by
  have h5 : Cmp5.tab.before a s = true := unparts (wk h (.code Cmp5.yN Cmp5.yB 7 (some .int))) (wks h (.initialized Cmp5.yN.cls :: Cmp5.site))
  have hc : CodL.tab.before a s = true := unparts (wk h (.code CodL.yN CodL.yB 2 (some .byte))) (wks h (.initialized CodL.yN.cls :: CodL.site))
  have q5 : ∀ w ∈ Cmp5.tab :: words, w.before a s = true := fun w hw => (List.mem_cons.mp hw).elim (fun e => e ▸ h5) (h w)
  have h3 : Cmp3.tab.before a s = true := unparts (wk q5 (.code Cmp3.yN Cmp3.yB 6 (some (.array .byte)))) (wks q5 (.initialized Cmp3.yN.cls :: Cmp3.site))
  have q3 : ∀ w ∈ Cmp3.tab :: CodL.tab :: words, w.before a s = true := fun w hw => (List.mem_cons.mp hw).elim (fun e => e ▸ h3) fun hw => (List.mem_cons.mp hw).elim (fun e => e ▸ hc) (h w)
  have h4 : New4.tab.before a s = true := unparts (wk q3 (.code New4.yN New4.yB 6 none)) (wks q3 (.initialized New4.yN.cls :: New4.site))
  have q4 : ∀ w ∈ New4.tab :: words, w.before a s = true := fun w hw => (List.mem_cons.mp hw).elim (fun e => e ▸ h4) (h w)
  exact unparts (wk q4 (.code New1.yN New1.yB 2 none)) (wks q4 (.initialized New1.yN.cls :: New1.site))
/-- the words ride from the start Z to the walk's own state -/
theorem moved {Z s : State} {a0 args : Array Value} (hZ : Z.Warmed39 s.vm) (hw : ∀ d ∈ words, d.before a0 Z = true) : ∀ d ∈ words, d.before args s = true := fun d hd => by
  have q := hw d hd
  have t : ∀ d ∈ words, d = .arrayClass .byte ∨ (d.onTables && d.keepsFace) = true := by decide +kernel
  rcases t d hd with rfl | t
  · exact RoadKit.mvA hZ q
  · exact RoadKit.mv hZ q t
/-- WHAT COMES BACK, over the tables of the start Z: h the heap at the call, h' behind it -/
def Q (Z : State) (x : Addr) (A : Cell) (h : Heap) (v : Option Value) (h' : Heap) (L : List Loc) : Prop := v = none ∧ (∀ y ∈ L, y.base = x) ∧ RoadKit.Keep h h' [x] ∧ h'.size = h.size + 1 ∧ RoadKit.Exa Z h' x ST ∧ RoadKit.Fld Z h' x ST "value" "[B" (.ref h.size) ∧ RoadKit.Fld Z h' x ST "coder" "B" (.int 0) ∧
  (∃ V : Cell, RoadKit.Arr Z h' h.size V .byte ∧ V.vm = .none ∧ Z.vm.findClass "[B" = some V.cls ∧ V.slots.size = A.slots.size ∧ ∀ j, j < A.slots.size → V.slots[j]? = some (.int (lo8 (cv A j)))) ∧
  ∀ (O n d : String) (w : Value), RoadKit.Fld Z h x O n d w → RoadKit.slotOf Z O n d ≠ RoadKit.slotOf Z ST "value" "[B" → RoadKit.slotOf Z O n d ≠ RoadKit.slotOf Z ST "coder" "B" → RoadKit.Fld Z h' x O n d w
/-- **new String(chars) AT A CALL, IN THE ROAD'S FORM**: for specialBack behind newO: x the fresh String, b the char[] with the cell A -/
theorem back {p : Program} {l : Launch} {e : Env} {R : Room} {s : State} {args : Array Value} {below : List Frame} {len W : Nat} {Z : State} {a0 : Array Value} {h : Heap} (hZ : Z.Warmed39 s.vm) (hw : ∀ d ∈ words, d.before a0 Z = true) {kI : Nat} (wi : (Jvm.Cond.instantiable ST kI).before a0 Z = true)
    {x b : Addr} {A : Cell} {z : Int32} {v0 c0 : Value} (E : RoadKit.Exa Z h x ST) (V : RoadKit.Fld Z h x ST "value" "[B" v0) (C : RoadKit.Fld Z h x ST "coder" "B" c0) (K : RoadKit.Arr Z h b A .char) (hty : Typed .char A) (S : RoadKit.Sta Z h ST "COMPACT_STRINGS" "Z" (.int z)) (hz : ¬ z = 0)
    (l0 : 0 < A.slots.size) (l2 : A.slots.size ≤ 536870912) (hp : ∀ i, i < A.slots.size → ¬ 255 < cv A i) (hfr : 4 ≤ R.frames) (hlo : W + 65 ≤ R.locals) :
    Back l R p e below s args New1.yN len W (fun P a => a = #[.ref x, .ref b] ∧ P.U.heap = h ∧ P.cells + 1 ≤ R.cells ∧ P.slots + A.slots.size ≤ R.slots)
      (fun P _ v B => ∃ L, Q Z x A h v B.U.heap L ∧ B.locs = P.locs ++ L ∧ B.cells = P.cells + 1 ∧ B.slots = P.slots + A.slots.size) := by
  intro m meth c P g ig mk a X hg hsize hdg hW hn hp'
  obtain ⟨rfl, rfl, r1, r2⟩ := hp'
  have al : Z.vm.Alike P.U.vm := hZ.alike.trans X.warmed.alike
  obtain ⟨D, cfV, kV, iV, fV, hD, gV, stV, knV, obV, asV, slV⟩ := id V
  obtain ⟨D', cfC, kC, iC, fC, hD', gC, stC, -, -, asC, slC⟩ := id C
  cases hD.symm.trans hD'
  obtain ⟨D2, kD, e1, e2, e3, e4, e5⟩ := id E
  cases hD.symm.trans e1
  obtain ⟨c2, k2, i1, i2, i3, -⟩ := Cond.instantiable_spec wi
  cases e2.symm.trans i1
  cases e3.symm.trans i2
  obtain ⟨kU, u1, u2⟩ := al.2.2 _ _ e3
  have hB : Blank ST x D P.U := ⟨hD, ⟨knV, fun q hq => by rw [hq] at obV; cases obV⟩, by rw [al.findClass]; exact e2, kU, u1, by rw [u2]; exact i3, by rw [u2]; exact e5 i3⟩
  have F1 : Found ST "value" "[B" fV P.U := ⟨SBG.found_only al ⟨cfV, kV, iV, gV⟩, stV⟩
  have F2 : Found ST "coder" "B" fC P.U := ⟨SBG.found_only al ⟨cfC, kC, iC, gC⟩, stC⟩
  have hA : Ch b A P.U := ⟨⟨K.1, State.isArrayOf_alike al K.2.1, K.2.2, by omega⟩, hty⟩
  have hS : StaticIs P.U ST "COMPACT_STRINGS" "Z" (.int z) := by
    obtain ⟨cfS, iS, kS, fS, st, cS, t1, t2, t3, t4, t5, t6, t7⟩ := S
    exact StaticIs.there (s := { Z with heap := P.U.heap }) ⟨cfS, iS, kS, fS, st, cS, t1, t2, t3, t4, t5, (fun q => by rw [q] at t6; cases t6), t7⟩ al rfl
  obtain ⟨v, B, X', ⟨⟨hv, E', V', q1, q2, q3, q4, q5, q6, q7, q8, q9, q10, q11⟩, hl, hc, hs⟩, st⟩ := New1.pays x D fV fC b A z (tab_of (moved hZ hw)) hfr hlo m meth c P g ig mk _ X hg hsize hdg hW hn ⟨r1, r2, rfl, hB, F1, F2, hA, hS, hz, l0, l2, hp⟩
  have al' : Z.vm.Alike B.U.vm := hZ.alike.trans X'.warmed.alike
  have hsz : E'.slots.size = D.slots.size := by
    obtain ⟨-, -, -, kB, w1, w2, w3⟩ := q1
    obtain ⟨kB', y1, y2⟩ := al'.2.2 _ _ e3
    rw [q2.2.1] at w1
    cases w1.symm.trans y1
    rw [w3, e5 i3, y2]
  refine ⟨v, B, X', ⟨_, ⟨hv, ?_, ⟨by omega, fun y cy hy hn' => q10 y cy (by simpa using hn') hy, fun y cy hy => ?_⟩, q11, ⟨E', _, q1.1, by rw [q2.2.1]; exact e2, by rw [q2.2.1]; exact e3, by rw [q2.1]; exact obV, fun _ => by rw [hsz]; exact e5 i3⟩,
    ⟨E', cfV, kV, iV, fV, q1.1, gV, stV, by rw [q2.1]; exact knV, by rw [q2.1]; exact obV, by rw [q2.2.1]; exact asV, q3⟩, ⟨E', cfC, kC, iC, fC, q1.1, gC, stC, by rw [q2.1]; exact knV, by rw [q2.1]; exact obV, by rw [q2.2.1]; exact asC, q4⟩,
    ⟨V', ⟨q5.1, State.isArrayOf_alike al'.symm q5.2.1, q5.2.2.1⟩, q6, by rw [← al'.findClass]; exact q7, q8, fun j hj => by have := q9 j hj; rwa [Nat.zero_add] at this⟩, fun O n d w F n1 n2 => ?_⟩, hl, hc, hs⟩, st⟩
  · intro y hy
    simp only [List.mem_cons, List.not_mem_nil, or_false] at hy
    rcases hy with rfl | rfl <;> rfl
  · by_cases q : y = x
    · subst q
      cases hD.symm.trans hy
      exact ⟨E', q1.1, q2.2.1, q2.1, hsz⟩
    · exact ⟨cy, q10 y cy q hy, rfl, rfl, rfl⟩
  · obtain ⟨D3, cf, k, i, f, g1, g2, g3, g4, g5, g6, g7⟩ := F
    cases hD.symm.trans g1
    simp only [RoadKit.slotOf, g2, gV, gC, Option.map_some, Option.getD_some] at n1 n2
    exact ⟨E', cf, k, i, f, q1.1, g2, g3, by rw [q2.1]; exact g4, by rw [q2.1]; exact g5, by rw [q2.2.1]; exact g6, by rw [q2.2.2 f.slot (by simp [n1, n2])]; exact g7⟩
end StrChars.Road
namespace StrChars.Road
open Jvm Sem ClassFile Op Lib Jvm.Stand Jvm.Free Jvm.Free.XT
/-- WHAT COMES BACK, the byte[] as a list of values -/
def QA (Z : State) (x : Addr) (zn : Int32) (cs : List Int32) (h : Heap) (v : Option Value) (h' : Heap) (L : List Loc) : Prop := v = none ∧ (∀ y ∈ L, y.base = x) ∧ RoadKit.Keep h h' [x] ∧ h'.size = h.size + 1 ∧ RoadKit.Exa Z h' x ST ∧ RoadKit.Fld Z h' x ST "value" "[B" (.ref h.size) ∧ RoadKit.Fld Z h' x ST "coder" "B" (.int 0) ∧
  (∃ kb, Z.vm.findClass "[B" = some kb ∧ RoadKit.Arv Z h' h.size kb .byte zn (cs.map fun c => .int (lo8 c)) (.int 0)) ∧
  ∀ (O n d : String) (w : Value), RoadKit.Fld Z h x O n d w → RoadKit.slotOf Z O n d ≠ RoadKit.slotOf Z ST "value" "[B" → RoadKit.slotOf Z O n d ≠ RoadKit.slotOf Z ST "coder" "B" → RoadKit.Fld Z h' x O n d w
/-- **new String(chars) AT A CALL, THE ARRAYS AS LISTS**: the char[] at b holds cs, not empty, no char above 255 -/
theorem backArv {p : Program} {l : Launch} {e : Env} {R : Room} {s : State} {args : Array Value} {below : List Frame} {len W : Nat} {Z : State} {a0 : Array Value} {h : Heap} (hZ : Z.Warmed39 s.vm) (hw : ∀ d ∈ words, d.before a0 Z = true) {kI : Nat} (wi : (Jvm.Cond.instantiable ST kI).before a0 Z = true)
    {x b : Addr} {k : ClassId} {zn z : Int32} {cs : List Int32} {dv v0 c0 : Value} (E : RoadKit.Exa Z h x ST) (V : RoadKit.Fld Z h x ST "value" "[B" v0) (C : RoadKit.Fld Z h x ST "coder" "B" c0) (K : RoadKit.Arv Z h b k .char zn (cs.map Value.int) dv) (S : RoadKit.Sta Z h ST "COMPACT_STRINGS" "Z" (.int z)) (hz : ¬ z = 0)
    (hlen : zn.toNatClampNeg = cs.length) (h0 : 0 < cs.length) (hbig : cs.length ≤ 536870912) (hall : ∀ c ∈ cs, ¬ 255 < c) (hfr : 4 ≤ R.frames) (hlo : W + 65 ≤ R.locals) :
    Back l R p e below s args New1.yN len W (fun P a => a = #[.ref x, .ref b] ∧ P.U.heap = h ∧ P.cells + 1 ≤ R.cells ∧ P.slots + cs.length ≤ R.slots)
      (fun P _ v B => ∃ L, QA Z x zn cs h v B.U.heap L ∧ B.locs = P.locs ++ L ∧ B.cells = P.cells + 1 ∧ B.slots = P.slots + cs.length) := by
  obtain ⟨A, K1, K2, K3, K4, K5, K6⟩ := K
  have e : A.slots.size = cs.length := K3.trans hlen
  have hat : ∀ (i : Nat) (hi : i < cs.length), A.slots[i]? = some (.int cs[i]) := fun i hi => by rw [K5 i (by omega)]; simp [List.getD_eq_getElem?_getD, hi]
  have hcv : ∀ (i : Nat) (hi : i < cs.length), cv A i = cs[i] := fun i hi => by unfold cv; rw [hat i hi]
  have hty : Typed .char A := fun i v hv => by
    have hi : i < A.slots.size := (Array.getElem?_eq_some_iff.mp hv).1
    have q := K5 i hi
    rw [hv] at q
    rw [Option.some.inj q]
    exact K6 i hi
  refine Back.mono (back hZ hw wi E V C K1 hty S hz (by omega) (by omega) (fun i hi => by rw [hcv i (by omega)]; exact hall _ (List.getElem_mem _)) hfr hlo) (fun P a hp => ⟨hp.1, hp.2.1, hp.2.2.1, by rw [e]; exact hp.2.2.2⟩) (fun P a v B hp hq => ?_)
  obtain ⟨L, ⟨q1, q2, q3, q4, q5, q6, q7, ⟨V', v1, v2, v3, v4, v5⟩, q9⟩, hl, hc, hs⟩ := hq
  refine ⟨L, ⟨q1, q2, q3, q4, q5, q6, q7, ⟨V'.cls, v3, V', v1, rfl, by rw [v4, e, hlen], K4, fun i hi => ?_, fun i hi => ?_⟩, q9⟩, hl, hc, by rw [hs, e]⟩
  · have hi' : i < cs.length := by omega
    rw [v5 i (by omega), hcv i hi']; simp [List.getD_eq_getElem?_getD, hi']
  · have hi' : i < cs.length := by omega
    simp only [List.getD_eq_getElem?_getD, List.getElem?_map, List.getElem?_eq_getElem hi', Option.map_some, Option.getD_some]
    exact fits_lo8 _
end StrChars.Road
namespace StrChars.Road
open Jvm Sem ClassFile Op Lib Jvm.Stand Jvm.Free Jvm.Free.XT
/-- WHAT COMES BACK, in the writer's own shape -/
def QV (Z : State) (x : Addr) (N : Int32) (bs : List Int32) (h : Heap) (n0 : Nat) (v : Option Value) (h' : Heap) (L : List Loc) : Prop := v = none ∧ RoadKit.Fr n0 L ∧ RoadKit.Keep h h' [x] ∧ RoadKit.Exa Z h' x ST ∧ RoadKit.Fld Z h' x ST "coder" "B" (.int 0) ∧
  ∃ (t : Addr) (kb : ClassId), n0 ≤ t ∧ h.size ≤ t ∧ ¬ t = x ∧ RoadKit.Fld Z h' x ST "value" "[B" (.ref t) ∧ RoadKit.Arv Z h' t kb .byte N (bs.map Value.int) (.int 0)
/-- **new String(chars) AT A CALL, FOR THE WRITER**: a char[] of n known ints, each 0 to 255 -/
theorem backV {p : Program} {l : Launch} {e : Env} {R : Room} {s : State} {args : Array Value} {below : List Frame} {len W : Nat} {Z : State} {a0 : Array Value} {h : Heap} (hZ : Z.Warmed39 s.vm) (hw : ∀ d ∈ words, d.before a0 Z = true) {kI : Nat} (wi : (Jvm.Cond.instantiable ST kI).before a0 Z = true)
    {x b : Addr} {kC : ClassId} {cs bs : List Int32} {d v0 c0 : Value} {z N : Int32} {n n0 : Nat} (hx0 : n0 ≤ x) (hh0 : n0 ≤ h.size) (E : RoadKit.Exa Z h x ST) (V : RoadKit.Fld Z h x ST "value" "[B" v0) (C : RoadKit.Fld Z h x ST "coder" "B" c0) (K : RoadKit.Arv Z h b kC .char N (cs.map Value.int) d) (S : RoadKit.Sta Z h ST "COMPACT_STRINGS" "Z" (.int z)) (hz : ¬ z = 0)
    (hn : cs.length = n) (hN : N = Int32.ofNat n) (l0 : 0 < n) (l2 : n ≤ 4000) (hp : ∀ c ∈ cs, ¬ c < 0 ∧ ¬ (255 : Int32) < c) (hb : bs = cs.map (fun c => c.toInt8.toInt32)) (hfr : 4 ≤ R.frames) (hlo : W + 65 ≤ R.locals) :
    Back l R p e below s args (⟨"java/lang/String", "<init>", "([C)V"⟩ : MethodName) len W (fun P a => a = #[.ref x, .ref b] ∧ P.U.heap = h ∧ P.cells + 1 ≤ R.cells ∧ P.slots + n ≤ R.slots)
      (fun P _ v B => ∃ L, QV Z x N bs h n0 v B.U.heap L ∧ B.locs = P.locs ++ L ∧ B.cells = P.cells + 1 ∧ B.slots = P.slots + n) := by
  subst hn hN hb
  refine Back.mono (backArv hZ hw wi E V C K S hz (n32 (by omega)) l0 (by omega) (fun c hc => (hp c hc).2) hfr hlo) (fun P a hp => hp) (fun P a v B hp hq => ?_)
  obtain ⟨L, ⟨q1, q2, q3, q4, q5, q6, q7, ⟨kb, v1, v2⟩, q9⟩, hl, hc, hs⟩ := hq
  exact ⟨L, ⟨q1, fun y hy => by rw [q2 y hy]; exact hx0, q3, q5, q7, h.size, kb, hh0, Nat.le_refl _, Nat.ne_of_gt E.lt, q6, by rw [List.map_map]; exact v2⟩, hl, hc, hs⟩
end StrChars.Road
end Jvm.Pilot.@@N@@

namespace Jvm.Pilot.@@N@@
open Jvm Jvm.ClassFile Sem Op Lib Jvm.Free Jvm.Stand Jvm.LawKit Jvm.RoadKit Bundle Jvm.Pilot.@@N@@.Jvm.D
def own_dom (r0 r1 : Int32) : Int32 := if r0 < r1 then (0 : Int32) else (1 : Int32)
theorem own_doms (r : Int32) : own_dom r r = 1 := by unfold own_dom; rw [if_neg (by simp)]
theorem own_c255 (x : Int32) : nar .char ((x &&& (255 : Int32)).toUInt32.toUInt16.toUInt32.toInt32) = x &&& (255 : Int32) := by
  have a : ∀ n : Nat, n &&& 255 = n % 256 := fun n => Nat.and_two_pow_sub_one_eq_mod n 8
  show (((x &&& (255 : Int32)).toUInt32.toUInt16.toUInt32.toInt32)).toUInt32.toUInt16.toUInt32.toInt32 = _
  apply Int32.toBitVec_inj.mp
  apply BitVec.eq_of_toNat_eq
  simp
  simp only [a]
  omega
theorem own_lat (x : Int32) : ∀ c ∈ [nar .char ((x &&& (255 : Int32)).toUInt32.toUInt16.toUInt32.toInt32)], ¬ c < 0 ∧ ¬ (255 : Int32) < c := by
  intro c hc
  rw [List.mem_singleton.mp hc, own_c255]
  have h := Jvm.Kit.i32_mask x 255 (k := 8) (by decide) (by decide)
  simp only [Int32.lt_iff_toInt_lt, h, Int32.reduceToInt]
  omega
theorem d7_0 : decode prog_25_method_1_code 0 = .ok (.aload_n 0, 1) := by decide +kernel
theorem d7_1 : decode prog_25_method_1_code 1 = .ok (.invokespecial 1, 3) := by decide +kernel
theorem d7_4 : decode prog_25_method_1_code 4 = .ok (.aload_n 0, 1) := by decide +kernel
theorem d7_5 : decode prog_25_method_1_code 5 = .ok (.aload_n 1, 1) := by decide +kernel
theorem d7_6 : decode prog_25_method_1_code 6 = .ok (.putfield 7, 3) := by decide +kernel
theorem d7_9 : decode prog_25_method_1_code 9 = .ok (.aload_n 0, 1) := by decide +kernel
theorem d7_10 : decode prog_25_method_1_code 10 = .ok (.iload_n 2, 1) := by decide +kernel
theorem d7_11 : decode prog_25_method_1_code 11 = .ok (.putfield 13, 3) := by decide +kernel
theorem d7_14 : decode prog_25_method_1_code 14 = .ok (.return_, 1) := by decide +kernel
theorem pn_0 : plainName "com/example/tranquility/tranquility/Level" = true := by first | (simp [plainName, overriddenIn]; done) | decide +kernel
def QLvI (Z : State) (a0_ : Addr) (a1_ : Addr) (u2 : Int32)  (h0 : Heap) (n0 : Nat) (v : Option Value) (h : Heap) (L : List Loc) : Prop := v = none ∧ Fr n0 L ∧ Keep h0 h [a0_] ∧ Fld Z h a0_ "com/example/tranquility/tranquility/Level" "rank" "I" (.int u2)
theorem ef_rmLvI (m : MethodId) (a0_ : Addr) (a1_ : Addr) (u2 : Int32) : entryFrame m #[(.ref a0_), (.ref a1_), (.int u2)] 3 = mkF m 0 #[rv a0_, rv a1_, iv u2] [] := by first | (simp [entryFrame, mkF, argsToLocals, Value.category]; done) | rfl
set_option maxRecDepth 65536 in
set_option maxHeartbeats 40000000 in
theorem rmLvI (l : Launch) (Z : State) (a0 : Array Value) (hw : ∀ d ∈ tables_1, d.before a0 Z = true) (ws : List Jvm.Cond) (a0_ : Addr) (a1_ : Addr) (u2 : Int32)  (h0 : Heap) (n0 : Nat) (Z0 : n0 ≤ h0.size) (E1 : Exa Z h0 a0_ "com/example/tranquility/tranquility/Level") (F1 : Fld Z h0 a0_ "com/example/tranquility/tranquility/Level" "name" "Ljava/lang/String;" .null) (F2 : Fld Z h0 a0_ "com/example/tranquility/tranquility/Level" "rank" "I" (.int (0 : Int32))) (g0 : n0 ≤ a0_) :
    MetFree l (⟨"com/example/tranquility/tranquility/Level", "<init>", "(Ljava/lang/String;I)V"⟩ : MethodName) (head1 (Jvm.Cond.code (⟨"com/example/tranquility/tranquility/Level", "<init>", "(Ljava/lang/String;I)V"⟩ : MethodName) prog_25_method_1_code 3 none :: ws) ({ frames := 1, cells := 0, slots := 0, locals := 12 } : Room)) (fun a U => a = #[(.ref a0_), (.ref a1_), (.int u2)] ∧ Z.Warmed39 U.vm ∧ U.heap = h0) (fun _ _ _ _ _ => True) (fun _ U o U' => ∃ v L, o = .returned v ∧ QLvI Z a0_ a1_ u2 h0 n0 v U'.heap L ∧ FrameEnd U o U' L ({ frames := 1, cells := 0, slots := 0, locals := 12 } : Room).cells ({ frames := 1, cells := 0, slots := 0, locals := 12 } : Room).slots) := by
  refine MetFree.of_bodySF (plainFor_of_name pn_0) hisR ?_
  intro p e s m args below meth c s₁ Bd hml0 hP hK
  obtain ⟨rfl, hZ, hh⟩ := hP
  have hx := Bd.exec
  have hby := Bd.bytes
  have hml : c.maxLocals = 3 := hml0
  have hown : s.vm.findClass "com/example/tranquility/tranquility/Level" = some m.cls := findClass_of_methodNamed Bd.named
  have hnm := (name_of_methodNamed Bd.named Bd.method).1
  have X0 : Stand p l e ({ frames := 1, cells := 0, slots := 0, locals := 12 } : Room) s m #[(.ref a0_), (.ref a1_), (.int u2)] below meth c s₁ [] 0 0 := Stand.of_body Bd
  have e0 : s₁.heap = h0 := by rw [← hh, Bd.state]; rfl
  have N0 := Fr.nil n0
  have S0 : ∀ t, Steps p.tables e below (s₁.setTop (mkF m 0 #[rv a0_, rv a1_, iv u2] [])) t → Steps p.tables e below (s₁.setTop (entryFrame m #[(.ref a0_), (.ref a1_), (.int u2)] 3)) t := fun t k => castTop (ef_rmLvI m a0_ a1_ u2) k
  have K0 : Keep h0 h0 [a0_] := Keep.refl _ _
  obtain ⟨T1, X1, e1, st1⟩ := initO X0 hx hZ hown (hw _ (List.mem_of_getElem? (i := 37) rfl)) (hw _ (List.mem_of_getElem? (i := 16) rfl)) (hw _ (List.mem_of_getElem? (i := 17) rfl)) e0 (g := (mkF m 1 #[rv a0_, rv a1_, iv u2] [(.ref a0_)])) rfl (by rw [hml]; rfl) rfl (hb hby d7_1) (by decide) (W := 0) (by show 2 * 0 + _ ≤ _; exact Nat.le_of_eq rfl) (by decide)
  obtain ⟨T2, h2, X2, e2, W2, st2⟩ := putF X1 hx hZ hown (host := "") (Or.inl (hw _ (List.mem_of_getElem? (i := 38) rfl))) Via.refl e1 F1 E1 (Or.inr ⟨(hw _ (List.mem_of_getElem? (i := 39) rfl)), rfl, hnm⟩) (hw _ (List.mem_of_getElem? (i := 3) rfl)) (ty := (.object "java/lang/String")) (by decide) rfl rfl (g := (mkF m 6 #[rv a0_, rv a1_, iv u2] [(.ref a1_), (.ref a0_)])) rfl rfl (hb hby d7_6)
  have Fw2 := F1.same W2
  have f3 := F2.other W2 (Or.inr (slot_ne (Or.inr (hw _ (List.mem_of_getElem? (i := 41) rfl))) (Or.inr (hw _ (List.mem_of_getElem? (i := 39) rfl))) (by decide) (t := .int) (t' := (.object "java/lang/String")) (by decide) (by decide)))
  have f4 := E1.wr W2
  have N2 := Fr.snoc X2 N0 g0
  have Z2 : n0 ≤ h2.size := Nat.le_trans Z0 (Keep.of_wr W2).1
  have K2 : Keep h0 h2 [a0_] := K0.wr W2 (Or.inl (List.mem_of_getElem? (i := 0) rfl))
  obtain ⟨T8, h8, X8, e8, W8, st8⟩ := putF X2 hx hZ hown (host := "") (Or.inl (hw _ (List.mem_of_getElem? (i := 40) rfl))) Via.refl e2 f3 f4 (Or.inr ⟨(hw _ (List.mem_of_getElem? (i := 41) rfl)), rfl, hnm⟩) (hw _ (List.mem_of_getElem? (i := 3) rfl)) (ty := .int) (by decide) rfl rfl (g := (mkF m 11 #[rv a0_, rv a1_, iv u2] [(.int u2), (.ref a0_)])) rfl rfl (hb hby d7_11)
  have Fw8 := f3.same W8
  have f9 := Fw2.other W8 (Or.inr (slot_ne (Or.inr (hw _ (List.mem_of_getElem? (i := 39) rfl))) (Or.inr (hw _ (List.mem_of_getElem? (i := 41) rfl))) (by decide) (t := (.object "java/lang/String")) (t' := .int) (by decide) (by decide)))
  have f10 := f4.wr W8
  have N8 := Fr.snoc X8 N2 g0
  have Z8 : n0 ≤ h8.size := Nat.le_trans Z2 (Keep.of_wr W8).1
  have K8 : Keep h0 h8 [a0_] := K2.wr W8 (Or.inl (List.mem_of_getElem? (i := 0) rfl))
  obtain ⟨fs, hr, hrun, hended, hW, hsame⟩ := X8.leave (v := none) (fun _ => rfl)
  refine ⟨_, _, S0 _ ?_, hrun, hended, _, _, rfl, ?_, ⟨_, rfl⟩, hW, hsame.mono (by decide) (by decide)⟩
  · skip
    show Steps p.tables e below (s₁.setTop (mkF m 0 #[rv a0_, rv a1_, iv u2] [])) _
    refine XS.aloadN X0.here hx rfl (hb hby d7_0) rfl rfl ?_
    show Steps p.tables e below (s₁.setTop (mkF m 1 #[rv a0_, rv a1_, iv u2] [(.ref a0_)])) _
    refine st1 _ ?_
    show Steps p.tables e below (T1.setTop (mkF m 4 #[rv a0_, rv a1_, iv u2] [])) _
    refine XS.aloadN X1.here hx rfl (hb hby d7_4) rfl rfl ?_
    show Steps p.tables e below (T1.setTop (mkF m 5 #[rv a0_, rv a1_, iv u2] [(.ref a0_)])) _
    refine XS.aloadN X1.here hx rfl (hb hby d7_5) rfl rfl ?_
    show Steps p.tables e below (T1.setTop (mkF m 6 #[rv a0_, rv a1_, iv u2] [(.ref a1_), (.ref a0_)])) _
    refine st2 _ ?_
    show Steps p.tables e below (T2.setTop (mkF m 9 #[rv a0_, rv a1_, iv u2] [])) _
    refine XS.aloadN X2.here hx rfl (hb hby d7_9) rfl rfl ?_
    show Steps p.tables e below (T2.setTop (mkF m 10 #[rv a0_, rv a1_, iv u2] [(.ref a0_)])) _
    refine XS.iloadN X2.here hx rfl (hb hby d7_10) rfl ?_
    show Steps p.tables e below (T2.setTop (mkF m 11 #[rv a0_, rv a1_, iv u2] [(.int u2), (.ref a0_)])) _
    refine st8 _ ?_
    show Steps p.tables e below (T8.setTop (mkF m 14 #[rv a0_, rv a1_, iv u2] [])) _
    exact X8.returnOut hx Bd.returns (hb hby d7_14) hr
  · show QLvI Z a0_ a1_ u2 h0 n0 _ T8.heap _
    rw [e8]
    exact ⟨rfl, N8, K8, Fw8⟩
theorem d8_0 : decode prog_25_method_4_code 0 = .ok (.aload_n 0, 1) := by decide +kernel
theorem d8_1 : decode prog_25_method_4_code 1 = .ok (.getfield 13, 3) := by decide +kernel
theorem d8_4 : decode prog_25_method_4_code 4 = .ok (.aload_n 1, 1) := by decide +kernel
theorem d8_5 : decode prog_25_method_4_code 5 = .ok (.getfield 13, 3) := by decide +kernel
theorem d8_8 : decode prog_25_method_4_code 8 = .ok (.if_icmp .lt 7, 3) := by decide +kernel
theorem d8_15 : decode prog_25_method_4_code 15 = .ok (.iconst 0, 1) := by decide +kernel
theorem d8_16 : decode prog_25_method_4_code 16 = .ok (.ireturn, 1) := by decide +kernel
theorem d8_11 : decode prog_25_method_4_code 11 = .ok (.iconst 1, 1) := by decide +kernel
theorem d8_12 : decode prog_25_method_4_code 12 = .ok (.goto 4, 3) := by decide +kernel
def QDom (Z : State) (a0_ : Addr) (a1_ : Addr) (r0 r1 : Int32) (h0 : Heap) (n0 : Nat) (v : Option Value) (h : Heap) (L : List Loc) : Prop := v = some (.int (own_dom r0 r1)) ∧ Fr n0 L ∧ h = h0
theorem ef_rmDom (m : MethodId) (a0_ : Addr) (a1_ : Addr) : entryFrame m #[(.ref a0_), (.ref a1_)] 2 = mkF m 0 #[rv a0_, rv a1_] [] := by first | (simp [entryFrame, mkF, argsToLocals, Value.category]; done) | rfl
set_option maxRecDepth 65536 in
set_option maxHeartbeats 40000000 in
theorem rmDom (l : Launch) (Z : State) (a0 : Array Value) (hw : ∀ d ∈ tables_1, d.before a0 Z = true) (ws : List Jvm.Cond) (a0_ : Addr) (a1_ : Addr) (r0 r1 : Int32) (h0 : Heap) (n0 : Nat) (Z0 : n0 ≤ h0.size) (F0 : Fld Z h0 a0_ "com/example/tranquility/tranquility/Level" "rank" "I" (.int r0)) (F1 : Fld Z h0 a1_ "com/example/tranquility/tranquility/Level" "rank" "I" (.int r1)) :
    MetFree l (⟨"com/example/tranquility/tranquility/Level", "dominates", "(Lcom/example/tranquility/tranquility/Level;)Z"⟩ : MethodName) (head1 (Jvm.Cond.code (⟨"com/example/tranquility/tranquility/Level", "dominates", "(Lcom/example/tranquility/tranquility/Level;)Z"⟩ : MethodName) prog_25_method_4_code 2 (some .boolean) :: ws) ({ frames := 0, cells := 0, slots := 0, locals := 0 } : Room)) (fun a U => a = #[(.ref a0_), (.ref a1_)] ∧ Z.Warmed39 U.vm ∧ U.heap = h0) (fun _ _ _ _ _ => True) (fun _ U o U' => ∃ v L, o = .returned v ∧ QDom Z a0_ a1_ r0 r1 h0 n0 v U'.heap L ∧ FrameEnd U o U' L ({ frames := 0, cells := 0, slots := 0, locals := 0 } : Room).cells ({ frames := 0, cells := 0, slots := 0, locals := 0 } : Room).slots) := by
  refine MetFree.of_bodySF (plainFor_of_name pn_0) hisR ?_
  intro p e s m args below meth c s₁ Bd hml0 hP hK
  obtain ⟨rfl, hZ, hh⟩ := hP
  have hx := Bd.exec
  have hby := Bd.bytes
  have hml : c.maxLocals = 2 := hml0
  have hown : s.vm.findClass "com/example/tranquility/tranquility/Level" = some m.cls := findClass_of_methodNamed Bd.named
  have hnm := (name_of_methodNamed Bd.named Bd.method).1
  have X0 : Stand p l e ({ frames := 0, cells := 0, slots := 0, locals := 0 } : Room) s m #[(.ref a0_), (.ref a1_)] below meth c s₁ [] 0 0 := Stand.of_body Bd
  have e0 : s₁.heap = h0 := by rw [← hh, Bd.state]; rfl
  have N0 := Fr.nil n0
  have S0 : ∀ t, Steps p.tables e below (s₁.setTop (mkF m 0 #[rv a0_, rv a1_] [])) t → Steps p.tables e below (s₁.setTop (entryFrame m #[(.ref a0_), (.ref a1_)] 2)) t := fun t k => castTop (ef_rmDom m a0_ a1_) k
  obtain ⟨T1, X1, e1, st1⟩ := getF X0 hx hZ hown (host := "") (Or.inl (hw _ (List.mem_of_getElem? (i := 40) rfl))) Via.refl e0 F0 (g := (mkF m 1 #[rv a0_, rv a1_] [(.ref a0_)])) rfl rfl (hb hby d8_1)
  obtain ⟨T2, X2, e2, st2⟩ := getF X1 hx hZ hown (host := "") (Or.inl (hw _ (List.mem_of_getElem? (i := 40) rfl))) Via.refl e1 F1 (g := (mkF m 5 #[rv a0_, rv a1_] [(.ref a1_), (.int r0)])) rfl rfl (hb hby d8_5)
  have S3 : ∀ t, Steps p.tables e below (T2.setTop (mkF m 8 #[rv a0_, rv a1_] [(.int r1), (.int r0)])) t → Steps p.tables e below (s₁.setTop (entryFrame m #[(.ref a0_), (.ref a1_)] 2)) t := by
    intro t k
    refine S0 t ?_
    show Steps p.tables e below (s₁.setTop (mkF m 0 #[rv a0_, rv a1_] [])) _
    refine XS.aloadN X0.here hx rfl (hb hby d8_0) rfl rfl ?_
    show Steps p.tables e below (s₁.setTop (mkF m 1 #[rv a0_, rv a1_] [(.ref a0_)])) _
    refine st1 _ ?_
    show Steps p.tables e below (T1.setTop (mkF m 4 #[rv a0_, rv a1_] [(.int r0)])) _
    refine XS.aloadN X1.here hx rfl (hb hby d8_4) rfl rfl ?_
    show Steps p.tables e below (T1.setTop (mkF m 5 #[rv a0_, rv a1_] [(.ref a1_), (.int r0)])) _
    refine st2 _ ?_
    exact k
  by_cases hc4 : r0 < r1
  · skip
    obtain ⟨fs, hr, hrun, hended, hW, hsame⟩ := X2.leave (v := some (.int (0 : Int32))) (fun h => by rw [Bd.returns] at h; cases h)
    refine ⟨_, _, S3 _ ?_, hrun, hended, _, _, rfl, ?_, ⟨_, rfl⟩, hW, hsame.mono (by decide) (by decide)⟩
    · skip
      show Steps p.tables e below (T2.setTop (mkF m 8 #[rv a0_, rv a1_] [(.int r1), (.int r0)])) _
      refine XS.icmpYes X2.here hx rfl (pc0 := 8) (pc' := 15) rfl (hb hby d8_8) rfl (tlt hc4).1 (by decide) (by decide) ?_
      show Steps p.tables e below (T2.setTop (mkF m 15 #[rv a0_, rv a1_] [])) _
      refine XS.iconst X2.here hx rfl (hb hby d8_15) ?_
      show Steps p.tables e below (T2.setTop (mkF m 16 #[rv a0_, rv a1_] [(.int (0 : Int32))])) _
      exact retN X2 hx (t := .boolean) Bd.returns (by simp) (hb hby d8_16) hr
    · show QDom Z a0_ a1_ r0 r1 h0 n0 _ T2.heap _
      rw [e2]
      exact ⟨(by unfold own_dom; rw [if_pos hc4]), N0, rfl⟩
  · skip
    obtain ⟨fs, hr, hrun, hended, hW, hsame⟩ := X2.leave (v := some (.int (1 : Int32))) (fun h => by rw [Bd.returns] at h; cases h)
    refine ⟨_, _, S3 _ ?_, hrun, hended, _, _, rfl, ?_, ⟨_, rfl⟩, hW, hsame.mono (by decide) (by decide)⟩
    · skip
      show Steps p.tables e below (T2.setTop (mkF m 8 #[rv a0_, rv a1_] [(.int r1), (.int r0)])) _
      refine XS.icmpNo X2.here hx rfl (hb hby d8_8) rfl (flt hc4).1 ?_
      show Steps p.tables e below (T2.setTop (mkF m 11 #[rv a0_, rv a1_] [])) _
      refine XS.iconst X2.here hx rfl (hb hby d8_11) ?_
      show Steps p.tables e below (T2.setTop (mkF m 12 #[rv a0_, rv a1_] [(.int (1 : Int32))])) _
      refine XS.goto X2.here hx rfl (pc0 := 12) (pc' := 16) rfl (hb hby d8_12) (by decide) (by decide) ?_
      show Steps p.tables e below (T2.setTop (mkF m 16 #[rv a0_, rv a1_] [(.int (1 : Int32))])) _
      exact retN X2 hx (t := .boolean) Bd.returns (by simp) (hb hby d8_16) hr
    · show QDom Z a0_ a1_ r0 r1 h0 n0 _ T2.heap _
      rw [e2]
      exact ⟨(by unfold own_dom; rw [if_neg hc4]), N0, rfl⟩
theorem pd_0 : parseMethodDescriptor "([C)V" = some ⟨[(.array .char)], none⟩ := by decide +kernel
theorem pd_1 : parseMethodDescriptor "(Ljava/lang/String;I)V" = some ⟨[(.object "java/lang/String"), .int], none⟩ := by decide +kernel
theorem pd_2 : parseMethodDescriptor "(Lcom/example/tranquility/tranquility/Level;)Z" = some ⟨[(.object "com/example/tranquility/tranquility/Level")], some .boolean⟩ := by decide +kernel
theorem pn_1 : plainName "com/example/tranquility/tranquility/LevelDominatesPinLaw" = true := by first | (simp [plainName, overriddenIn]; done) | decide +kernel
def Q0 (Z : State) (u0 : Int32) (u1 : Int32) (u2 : Int32) (u3 : Int32) (G1 : Int32) (h0 : Heap) (n0 : Nat) (v : Option Value) (h : Heap) (L : List Loc) : Prop := v = some (.int 1) ∧ Fr n0 L
theorem ef_rm0 (m : MethodId) (u0 : Int32) (u1 : Int32) (u2 : Int32) (u3 : Int32) : entryFrame m #[(.int u0), (.int u1), (.int u2), (.int u3)] maxLocals = mkF m 0 #[iv u0, iv u1, iv u2, iv u3, .unset, .unset, .unset, .unset, .unset, .unset, .unset, .unset, .unset, .unset, .unset, .unset, .unset, .unset] [] := by first | (simp [entryFrame, mkF, argsToLocals, Value.category, maxLocals]; done) | rfl
set_option maxRecDepth 65536 in
set_option maxHeartbeats 40000000 in
theorem rm0 (l : Launch) (Z : State) (a0 : Array Value) (hw : ∀ d ∈ tables_1, d.before a0 Z = true) (ws : List Jvm.Cond) (u0 : Int32) (u1 : Int32) (u2 : Int32) (u3 : Int32) (G1 : Int32) (h0 : Heap) (n0 : Nat) (Z0 : n0 ≤ h0.size) (O2 : Sta Z Z.heap "java/lang/String" "COMPACT_STRINGS" "Z" (.int G1)) (P3 : ¬ (G1 = (0 : Int32))) (X00 : Old Z n0 h0) :
    MetFree l x (head1 (Jvm.Cond.code x code maxLocals ret :: ws) room_1) (fun a U => a = #[(.int u0), (.int u1), (.int u2), (.int u3)] ∧ Z.Warmed39 U.vm ∧ U.heap = h0) (fun _ _ _ _ _ => True) (fun _ U o U' => ∃ v L, o = .returned v ∧ Q0 Z u0 u1 u2 u3 G1 h0 n0 v U'.heap L ∧ FrameEnd U o U' L room_1.cells room_1.slots) := by
  refine MetFree.of_bodySF (plainFor_of_name pn_1) hisR ?_
  intro p e s m args below meth c s₁ Bd hml0 hP hK
  obtain ⟨rfl, hZ, hh⟩ := hP
  have hx := Bd.exec
  have hby := Bd.bytes
  have hml : c.maxLocals = 18 := hml0
  have hown : s.vm.findClass "com/example/tranquility/tranquility/LevelDominatesPinLaw" = some m.cls := findClass_of_methodNamed Bd.named
  have hnm := (name_of_methodNamed Bd.named Bd.method).1
  have X0 : Stand p l e room_1 s m #[(.int u0), (.int u1), (.int u2), (.int u3)] below meth c s₁ [] 0 0 := Stand.of_body Bd
  have e0 : s₁.heap = h0 := by rw [← hh, Bd.state]; rfl
  have N0 := Fr.nil n0
  have S0 : ∀ t, Steps p.tables e below (s₁.setTop (mkF m 0 #[iv u0, iv u1, iv u2, iv u3, .unset, .unset, .unset, .unset, .unset, .unset, .unset, .unset, .unset, .unset, .unset, .unset, .unset, .unset] [])) t → Steps p.tables e below (s₁.setTop (entryFrame m #[(.int u0), (.int u1), (.int u2), (.int u3)] maxLocals)) t := fun t k => castTop (ef_rm0 m u0 u1 u2 u3) k
  have hws : ∀ d ∈ StrChars.Road.words, d.before a0 Z = true := fun d hd => hw d ((by decide +kernel : ∀ d ∈ StrChars.Road.words, d ∈ tables_1) d hd)
  obtain ⟨T1, h1, k1, X1, e1, E1, A1, st1⟩ := newP X0 hx hZ (hw _ (List.mem_of_getElem? (i := 1) rfl)) e0 (g := (mkF m 13 #[iv u0, iv u1, iv u2, iv u3, iv (u0 &&& (2147483647 : Int32)), iv (u1 &&& (2147483647 : Int32)), .unset, .unset, .unset, .unset, .unset, .unset, .unset, .unset, .unset, .unset, .unset, .unset] [(.int (1 : Int32))])) rfl (hb hby at_13) rfl (by decide) (cap := 1) (by decide) (by decide) (by decide) (by decide)
  obtain ⟨b1, g1⟩ : ∃ z, z = h0.size := ⟨_, rfl⟩
  rw [← g1] at A1 st1
  have ge_b1 : n0 ≤ b1 := Nat.le_trans Z0 (Nat.le_of_eq g1.symm)
  have Od2 := X00.ext E1
  have V1 : Arv Z h1 b1 k1 .char (1 : Int32) [(.int (0 : Int32))] (.int (0 : Int32)) := (Arv.new A1 (by decide)).pad (pad_rep [] (.int (0 : Int32)) 1)
  have Z1 : n0 ≤ h1.size := Nat.le_trans Z0 E1.1
  obtain ⟨cl3, Ar3, qa3, Sa3, Na3, Ha3, Ga3⟩ := id V1
  have hin3 : ¬ ((0 : Int32) < 0 ∨ cl3.slots.size ≤ ((0 : Int32)).toNatClampNeg) := inb_of Sa3 ⟨by decide, by decide⟩
  obtain ⟨T4, h4, X4, e4, W4, st4⟩ := stC X1 hx hZ e1 Ar3 (j := (0 : Int32)) hin3 (g := (mkF m 26 #[iv u0, iv u1, iv u2, iv u3, iv (u0 &&& (2147483647 : Int32)), iv (u1 &&& (2147483647 : Int32)), rv b1, .unset, .unset, .unset, .unset, .unset, .unset, .unset, .unset, .unset, .unset, .unset] [(.int ((u2 &&& (255 : Int32)).toUInt32.toUInt16.toUInt32.toInt32)), (.int (0 : Int32)), (.ref b1)])) rfl rfl (hb hby at_26)
  have V4 : Arv Z h4 b1 k1 .char (1 : Int32) [(.int (nar .char ((u2 &&& (255 : Int32)).toUInt32.toUInt16.toUInt32.toInt32)))] (.int (0 : Int32)) := Arv.set Ar3 qa3 Sa3 Na3 Ha3 Ga3 (fits_nar_char _) W4 0 rfl (Nat.le_of_ble_eq_true rfl)
  have N4 := Fr.snoc X4 N0 ge_b1
  have Z4 : n0 ≤ h4.size := Nat.le_trans Z1 (Keep.of_wr W4).1
  have Od5 := Od2.wr W4 ge_b1
  obtain ⟨T7, h7, k7, X7, e7, E7, A7, st7⟩ := newP X4 hx hZ (hw _ (List.mem_of_getElem? (i := 1) rfl)) e4 (g := (mkF m 28 #[iv u0, iv u1, iv u2, iv u3, iv (u0 &&& (2147483647 : Int32)), iv (u1 &&& (2147483647 : Int32)), rv b1, .unset, .unset, .unset, .unset, .unset, .unset, .unset, .unset, .unset, .unset, .unset] [(.int (1 : Int32))])) rfl (hb hby at_28) rfl (by decide) (cap := 1) (by decide) (by decide) (by decide) (by decide)
  obtain ⟨b7, g7⟩ : ∃ z, z = h4.size := ⟨_, rfl⟩
  rw [← g7] at A7 st7
  have ge_b7 : n0 ≤ b7 := Nat.le_trans Z4 (Nat.le_of_eq g7.symm)
  have ne_b1_b7 : b1 ≠ b7 := Nat.ne_of_lt (Nat.lt_of_lt_of_le (V4).lt (Nat.le_of_eq g7.symm))
  have Od8 := Od5.ext E7
  have f9 := V4.ext E7
  have V7 : Arv Z h7 b7 k7 .char (1 : Int32) [(.int (0 : Int32))] (.int (0 : Int32)) := (Arv.new A7 (by decide)).pad (pad_rep [] (.int (0 : Int32)) 1)
  have Z7 : n0 ≤ h7.size := Nat.le_trans Z4 E7.1
  obtain ⟨cl10, Ar10, qa10, Sa10, Na10, Ha10, Ga10⟩ := id V7
  have hin10 : ¬ ((0 : Int32) < 0 ∨ cl10.slots.size ≤ ((0 : Int32)).toNatClampNeg) := inb_of Sa10 ⟨by decide, by decide⟩
  obtain ⟨T11, h11, X11, e11, W11, st11⟩ := stC X7 hx hZ e7 Ar10 (j := (0 : Int32)) hin10 (g := (mkF m 41 #[iv u0, iv u1, iv u2, iv u3, iv (u0 &&& (2147483647 : Int32)), iv (u1 &&& (2147483647 : Int32)), rv b1, rv b7, .unset, .unset, .unset, .unset, .unset, .unset, .unset, .unset, .unset, .unset] [(.int ((u3 &&& (255 : Int32)).toUInt32.toUInt16.toUInt32.toInt32)), (.int (0 : Int32)), (.ref b7)])) rfl rfl (hb hby at_41)
  have V11 : Arv Z h11 b7 k7 .char (1 : Int32) [(.int (nar .char ((u3 &&& (255 : Int32)).toUInt32.toUInt16.toUInt32.toInt32)))] (.int (0 : Int32)) := Arv.set Ar10 qa10 Sa10 Na10 Ha10 Ga10 (fits_nar_char _) W11 0 rfl (Nat.le_of_ble_eq_true rfl)
  have N11 := Fr.snoc X11 N4 ge_b7
  have Z11 : n0 ≤ h11.size := Nat.le_trans Z7 (Keep.of_wr W11).1
  have Od12 := Od8.wr W11 ge_b7
  have f13 := f9.other W11 ne_b1_b7
  obtain ⟨T15, h15, X15, e15, E15, A15, D15, -, st15⟩ := newO X11 hx hZ hown (hw _ (List.mem_of_getElem? (i := 2) rfl)) (hw _ (List.mem_of_getElem? (i := 3) rfl)) (hw _ (List.mem_of_getElem? (i := 4) rfl)) e11 (g := (mkF m 42 #[iv u0, iv u1, iv u2, iv u3, iv (u0 &&& (2147483647 : Int32)), iv (u1 &&& (2147483647 : Int32)), rv b1, rv b7, .unset, .unset, .unset, .unset, .unset, .unset, .unset, .unset, .unset, .unset] [])) rfl (hb hby at_42) (by decide) (by decide)
  obtain ⟨b15, g15⟩ : ∃ z, z = h11.size := ⟨_, rfl⟩
  rw [← g15] at A15 D15 st15
  have ge_b15 : n0 ≤ b15 := Nat.le_trans Z11 (Nat.le_of_eq g15.symm)
  have ne_b1_b15 : b1 ≠ b15 := Nat.ne_of_lt (Nat.lt_of_lt_of_le (f13).lt (Nat.le_of_eq g15.symm))
  have ne_b7_b15 : b7 ≠ b15 := Nat.ne_of_lt (Nat.lt_of_lt_of_le (V11).lt (Nat.le_of_eq g15.symm))
  have Od16 := Od12.ext E15
  have f17 := f13.ext E15
  have f18 := V11.ext E15
  have F15_name : Fld Z h15 b15 "com/example/tranquility/tranquility/Level" "name" "Ljava/lang/String;" .null := D15 (Or.inr (hw _ (List.mem_of_getElem? (i := 39) rfl))) (ty := (.object "java/lang/String")) (by decide)
  have F15_rank : Fld Z h15 b15 "com/example/tranquility/tranquility/Level" "rank" "I" (.int (0 : Int32)) := D15 (Or.inr (hw _ (List.mem_of_getElem? (i := 41) rfl))) (ty := .int) (by decide)
  have Z15 : n0 ≤ h15.size := Nat.le_trans Z11 E15.1
  obtain ⟨T19, h19, X19, e19, E19, A19, D19, -, st19⟩ := newO X15 hx hZ hown (hw _ (List.mem_of_getElem? (i := 5) rfl)) (hw _ (List.mem_of_getElem? (i := 6) rfl)) (hw _ (List.mem_of_getElem? (i := 7) rfl)) e15 (g := (mkF m 46 #[iv u0, iv u1, iv u2, iv u3, iv (u0 &&& (2147483647 : Int32)), iv (u1 &&& (2147483647 : Int32)), rv b1, rv b7, .unset, .unset, .unset, .unset, .unset, .unset, .unset, .unset, .unset, .unset] [(.ref b15), (.ref b15)])) rfl (hb hby at_46) (by decide) (by decide)
  obtain ⟨b19, g19⟩ : ∃ z, z = h15.size := ⟨_, rfl⟩
  rw [← g19] at A19 D19 st19
  have ge_b19 : n0 ≤ b19 := Nat.le_trans Z15 (Nat.le_of_eq g19.symm)
  have ne_b1_b19 : b1 ≠ b19 := Nat.ne_of_lt (Nat.lt_of_lt_of_le (f17).lt (Nat.le_of_eq g19.symm))
  have ne_b15_b19 : b15 ≠ b19 := Nat.ne_of_lt (Nat.lt_of_lt_of_le (A15).lt (Nat.le_of_eq g19.symm))
  have ne_b7_b19 : b7 ≠ b19 := Nat.ne_of_lt (Nat.lt_of_lt_of_le (f18).lt (Nat.le_of_eq g19.symm))
  have Od20 := Od16.ext E19
  have f21 := f17.ext E19
  have f22 := f18.ext E19
  have f23 := A15.ext E19
  have f24 := F15_name.ext E19
  have f25 := F15_rank.ext E19
  have F19_coder : Fld Z h19 b19 "java/lang/String" "coder" "B" (.int (0 : Int32)) := D19 (Or.inr (hw _ (List.mem_of_getElem? (i := 31) rfl))) (ty := .byte) (by decide)
  have F19_value : Fld Z h19 b19 "java/lang/String" "value" "[B" .null := D19 (Or.inr (hw _ (List.mem_of_getElem? (i := 33) rfl))) (ty := (.array .byte)) (by decide)
  have Z19 : n0 ≤ h19.size := Nat.le_trans Z15 E19.1
  obtain ⟨_, _, ⟨T26, L26, k26, n26⟩, -, X26, ⟨Lc26, hQ26, l26, y26, z26⟩, st26⟩ := X19.specialBack hx (y := (⟨"java/lang/String", "<init>", "([C)V"⟩ : MethodName)) rfl hown (mvT hZ (hw _ (List.mem_of_getElem? (i := 8) rfl))) (mvT hZ (hw _ (List.mem_of_getElem? (i := 9) rfl))) (mvT hZ (hw _ (List.mem_of_getElem? (i := 10) rfl))) (by decide) (StrChars.Road.backV (W := 3) hZ hws (kI := 4) (hw _ (List.mem_of_getElem? (i := 6) rfl)) (cs := [(nar .char ((u2 &&& (255 : Int32)).toUInt32.toUInt16.toUInt32.toInt32))]) (bs := [((nar .char ((u2 &&& (255 : Int32)).toUInt32.toUInt16.toUInt32.toInt32))).toInt8.toInt32]) (n := 1) ge_b19 Z19 A19 F19_value F19_coder f21 (O2.ext Od20.2) P3 rfl rfl (by decide) (by decide) (own_lat u2) rfl (by decide) (by decide)) (g := (mkF m 52 #[iv u0, iv u1, iv u2, iv u3, iv (u0 &&& (2147483647 : Int32)), iv (u1 &&& (2147483647 : Int32)), rv b1, rv b7, .unset, .unset, .unset, .unset, .unset, .unset, .unset, .unset, .unset, .unset] [(.ref b1), (.ref b19), (.ref b19), (.ref b15), (.ref b15)])) rfl (by rw [hml]; rfl) (Steps.refl _) (a := b19) (argsL := [(.ref b1)]) (rest := [(.ref b19), (.ref b15), (.ref b15)]) (lenOf pd_0 rfl) rfl (by show 2 * 0 + _ ≤ _; exact Nat.le_of_eq rfl) (hb hby at_52) (fun _ _ => ⟨rfl, e19, (by decide : 4 + 1 ≤ _), (by decide : 8 + 1 ≤ _)⟩)
  dsimp only [Pt.U, Pt.locs, Pt.cells, Pt.slots] at X26 l26 y26 z26 st26 hQ26
  subst l26 y26 z26
  obtain ⟨rfl, Nq26, Kq26, -⟩ := hQ26
  have N26 := Fr.app N11 Nq26
  have Z26 : n0 ≤ T26.heap.size := Nat.le_trans Z19 Kq26.1
  have Od27 := Od20.keep Kq26 (allS ge_b19 all0)
  have f28 := f21.keep Kq26 (ninS ne_b1_b19 nin0)
  have f29 := f22.keep Kq26 (ninS ne_b7_b19 nin0)
  have f30 := f23.keep Kq26
  have f31 := f24.keep Kq26 (ninS ne_b15_b19 nin0)
  have f32 := f25.keep Kq26 (ninS ne_b15_b19 nin0)
  have f33 := A19.keep Kq26
  obtain ⟨_, _, ⟨T36, L36, k36, n36⟩, -, X36, ⟨Lc36, hQ36, l36, y36, z36⟩, st36⟩ := X26.specialBack hx (y := (⟨"com/example/tranquility/tranquility/Level", "<init>", "(Ljava/lang/String;I)V"⟩ : MethodName)) rfl hown (mvT hZ (hw _ (List.mem_of_getElem? (i := 34) rfl))) (mvT hZ (hw _ (List.mem_of_getElem? (i := 35) rfl))) (mvT hZ (hw _ (List.mem_of_getElem? (i := 36) rfl))) (by decide) (backOf (W := 1) (rmLvI l Z a0 hw [] b15 b19 (u0 &&& (2147483647 : Int32)) T26.heap n0 Z26 f30 f31 f32 ge_b15) hZ (hw _ (List.mem_of_getElem? (i := 36) rfl)) (hw _ (List.mem_of_getElem? (i := 4) rfl)) (by decide) (by decide)) (g := (mkF m 57 #[iv u0, iv u1, iv u2, iv u3, iv (u0 &&& (2147483647 : Int32)), iv (u1 &&& (2147483647 : Int32)), rv b1, rv b7, .unset, .unset, .unset, .unset, .unset, .unset, .unset, .unset, .unset, .unset] [(.int (u0 &&& (2147483647 : Int32))), (.ref b19), (.ref b15), (.ref b15)])) rfl (by rw [hml]; rfl) (Steps.refl _) (a := b15) (argsL := [(.ref b19), (.int (u0 &&& (2147483647 : Int32)))]) (rest := [(.ref b15)]) (lenOf pd_1 rfl) rfl (by show 2 * 0 + _ ≤ _; exact Nat.le_of_eq rfl) (hb hby at_57) (fun _ _ => ⟨rfl, rfl, (by decide : 5 + 0 ≤ _), (by decide : 9 + 0 ≤ _)⟩)
  dsimp only [Pt.U, Pt.locs, Pt.cells, Pt.slots] at X36 l36 y36 z36 st36 hQ36
  subst l36 y36 z36
  obtain ⟨rfl, Nq36, Kq36, Fq36⟩ := hQ36
  have N36 := Fr.app N26 Nq36
  have Z36 : n0 ≤ T36.heap.size := Nat.le_trans Z26 Kq36.1
  have Od37 := Od27.keep Kq36 (allS ge_b15 all0)
  have f38 := f28.keep Kq36 (ninS ne_b1_b15 nin0)
  have f39 := f29.keep Kq36 (ninS ne_b7_b15 nin0)
  have f40 := f30.keep Kq36
  obtain ⟨T43, h43, X43, e43, E43, A43, D43, -, st43⟩ := newO X36 hx hZ hown (hw _ (List.mem_of_getElem? (i := 2) rfl)) (hw _ (List.mem_of_getElem? (i := 3) rfl)) (hw _ (List.mem_of_getElem? (i := 4) rfl)) rfl (g := (mkF m 62 #[iv u0, iv u1, iv u2, iv u3, iv (u0 &&& (2147483647 : Int32)), iv (u1 &&& (2147483647 : Int32)), rv b1, rv b7, rv b15, .unset, .unset, .unset, .unset, .unset, .unset, .unset, .unset, .unset] [])) rfl (hb hby at_62) (by decide) (by decide)
  obtain ⟨b43, g43⟩ : ∃ z, z = T36.heap.size := ⟨_, rfl⟩
  rw [← g43] at A43 D43 st43
  have ge_b43 : n0 ≤ b43 := Nat.le_trans Z36 (Nat.le_of_eq g43.symm)
  have ne_b1_b43 : b1 ≠ b43 := Nat.ne_of_lt (Nat.lt_of_lt_of_le (f38).lt (Nat.le_of_eq g43.symm))
  have ne_b15_b43 : b15 ≠ b43 := Nat.ne_of_lt (Nat.lt_of_lt_of_le (f40).lt (Nat.le_of_eq g43.symm))
  have ne_b7_b43 : b7 ≠ b43 := Nat.ne_of_lt (Nat.lt_of_lt_of_le (f39).lt (Nat.le_of_eq g43.symm))
  have Od44 := Od37.ext E43
  have f45 := f38.ext E43
  have f46 := f39.ext E43
  have f47 := f40.ext E43
  have f48 := Fq36.ext E43
  have F43_name : Fld Z h43 b43 "com/example/tranquility/tranquility/Level" "name" "Ljava/lang/String;" .null := D43 (Or.inr (hw _ (List.mem_of_getElem? (i := 39) rfl))) (ty := (.object "java/lang/String")) (by decide)
  have F43_rank : Fld Z h43 b43 "com/example/tranquility/tranquility/Level" "rank" "I" (.int (0 : Int32)) := D43 (Or.inr (hw _ (List.mem_of_getElem? (i := 41) rfl))) (ty := .int) (by decide)
  have Z43 : n0 ≤ h43.size := Nat.le_trans Z36 E43.1
  obtain ⟨T49, h49, X49, e49, E49, A49, D49, -, st49⟩ := newO X43 hx hZ hown (hw _ (List.mem_of_getElem? (i := 5) rfl)) (hw _ (List.mem_of_getElem? (i := 6) rfl)) (hw _ (List.mem_of_getElem? (i := 7) rfl)) e43 (g := (mkF m 66 #[iv u0, iv u1, iv u2, iv u3, iv (u0 &&& (2147483647 : Int32)), iv (u1 &&& (2147483647 : Int32)), rv b1, rv b7, rv b15, .unset, .unset, .unset, .unset, .unset, .unset, .unset, .unset, .unset] [(.ref b43), (.ref b43)])) rfl (hb hby at_66) (by decide) (by decide)
  obtain ⟨b49, g49⟩ : ∃ z, z = h43.size := ⟨_, rfl⟩
  rw [← g49] at A49 D49 st49
  have ge_b49 : n0 ≤ b49 := Nat.le_trans Z43 (Nat.le_of_eq g49.symm)
  have ne_b1_b49 : b1 ≠ b49 := Nat.ne_of_lt (Nat.lt_of_lt_of_le (f45).lt (Nat.le_of_eq g49.symm))
  have ne_b15_b49 : b15 ≠ b49 := Nat.ne_of_lt (Nat.lt_of_lt_of_le (f47).lt (Nat.le_of_eq g49.symm))
  have ne_b43_b49 : b43 ≠ b49 := Nat.ne_of_lt (Nat.lt_of_lt_of_le (A43).lt (Nat.le_of_eq g49.symm))
  have ne_b7_b49 : b7 ≠ b49 := Nat.ne_of_lt (Nat.lt_of_lt_of_le (f46).lt (Nat.le_of_eq g49.symm))
  have Od50 := Od44.ext E49
  have f51 := f45.ext E49
  have f52 := f46.ext E49
  have f53 := f47.ext E49
  have f54 := f48.ext E49
  have f55 := A43.ext E49
  have f56 := F43_name.ext E49
  have f57 := F43_rank.ext E49
  have F49_coder : Fld Z h49 b49 "java/lang/String" "coder" "B" (.int (0 : Int32)) := D49 (Or.inr (hw _ (List.mem_of_getElem? (i := 31) rfl))) (ty := .byte) (by decide)
  have F49_value : Fld Z h49 b49 "java/lang/String" "value" "[B" .null := D49 (Or.inr (hw _ (List.mem_of_getElem? (i := 33) rfl))) (ty := (.array .byte)) (by decide)
  have Z49 : n0 ≤ h49.size := Nat.le_trans Z43 E49.1
  obtain ⟨_, _, ⟨T58, L58, k58, n58⟩, -, X58, ⟨Lc58, hQ58, l58, y58, z58⟩, st58⟩ := X49.specialBack hx (y := (⟨"java/lang/String", "<init>", "([C)V"⟩ : MethodName)) rfl hown (mvT hZ (hw _ (List.mem_of_getElem? (i := 8) rfl))) (mvT hZ (hw _ (List.mem_of_getElem? (i := 9) rfl))) (mvT hZ (hw _ (List.mem_of_getElem? (i := 10) rfl))) (by decide) (StrChars.Road.backV (W := 3) hZ hws (kI := 4) (hw _ (List.mem_of_getElem? (i := 6) rfl)) (cs := [(nar .char ((u3 &&& (255 : Int32)).toUInt32.toUInt16.toUInt32.toInt32))]) (bs := [((nar .char ((u3 &&& (255 : Int32)).toUInt32.toUInt16.toUInt32.toInt32))).toInt8.toInt32]) (n := 1) ge_b49 Z49 A49 F49_value F49_coder f52 (O2.ext Od50.2) P3 rfl rfl (by decide) (by decide) (own_lat u3) rfl (by decide) (by decide)) (g := (mkF m 72 #[iv u0, iv u1, iv u2, iv u3, iv (u0 &&& (2147483647 : Int32)), iv (u1 &&& (2147483647 : Int32)), rv b1, rv b7, rv b15, .unset, .unset, .unset, .unset, .unset, .unset, .unset, .unset, .unset] [(.ref b7), (.ref b49), (.ref b49), (.ref b43), (.ref b43)])) rfl (by rw [hml]; rfl) (Steps.refl _) (a := b49) (argsL := [(.ref b7)]) (rest := [(.ref b49), (.ref b43), (.ref b43)]) (lenOf pd_0 rfl) rfl (by show 2 * 0 + _ ≤ _; exact Nat.le_of_eq rfl) (hb hby at_72) (fun _ _ => ⟨rfl, e49, (by decide : 7 + 1 ≤ _), (by decide : 15 + 1 ≤ _)⟩)
  dsimp only [Pt.U, Pt.locs, Pt.cells, Pt.slots] at X58 l58 y58 z58 st58 hQ58
  subst l58 y58 z58
  obtain ⟨rfl, Nq58, Kq58, -⟩ := hQ58
  have N58 := Fr.app N36 Nq58
  have Z58 : n0 ≤ T58.heap.size := Nat.le_trans Z49 Kq58.1
  have Od59 := Od50.keep Kq58 (allS ge_b49 all0)
  have f60 := f51.keep Kq58 (ninS ne_b1_b49 nin0)
  have f61 := f52.keep Kq58 (ninS ne_b7_b49 nin0)
  have f62 := f53.keep Kq58
  have f63 := f54.keep Kq58 (ninS ne_b15_b49 nin0)
  have f64 := f55.keep Kq58
  have f65 := f56.keep Kq58 (ninS ne_b43_b49 nin0)
  have f66 := f57.keep Kq58 (ninS ne_b43_b49 nin0)
  have f67 := A49.keep Kq58
  obtain ⟨_, _, ⟨T70, L70, k70, n70⟩, -, X70, ⟨Lc70, hQ70, l70, y70, z70⟩, st70⟩ := X58.specialBack hx (y := (⟨"com/example/tranquility/tranquility/Level", "<init>", "(Ljava/lang/String;I)V"⟩ : MethodName)) rfl hown (mvT hZ (hw _ (List.mem_of_getElem? (i := 34) rfl))) (mvT hZ (hw _ (List.mem_of_getElem? (i := 35) rfl))) (mvT hZ (hw _ (List.mem_of_getElem? (i := 36) rfl))) (by decide) (backOf (W := 1) (rmLvI l Z a0 hw [] b43 b49 (u1 &&& (2147483647 : Int32)) T58.heap n0 Z58 f64 f65 f66 ge_b43) hZ (hw _ (List.mem_of_getElem? (i := 36) rfl)) (hw _ (List.mem_of_getElem? (i := 4) rfl)) (by decide) (by decide)) (g := (mkF m 77 #[iv u0, iv u1, iv u2, iv u3, iv (u0 &&& (2147483647 : Int32)), iv (u1 &&& (2147483647 : Int32)), rv b1, rv b7, rv b15, .unset, .unset, .unset, .unset, .unset, .unset, .unset, .unset, .unset] [(.int (u1 &&& (2147483647 : Int32))), (.ref b49), (.ref b43), (.ref b43)])) rfl (by rw [hml]; rfl) (Steps.refl _) (a := b43) (argsL := [(.ref b49), (.int (u1 &&& (2147483647 : Int32)))]) (rest := [(.ref b43)]) (lenOf pd_1 rfl) rfl (by show 2 * 0 + _ ≤ _; exact Nat.le_of_eq rfl) (hb hby at_77) (fun _ _ => ⟨rfl, rfl, (by decide : 8 + 0 ≤ _), (by decide : 16 + 0 ≤ _)⟩)
  dsimp only [Pt.U, Pt.locs, Pt.cells, Pt.slots] at X70 l70 y70 z70 st70 hQ70
  subst l70 y70 z70
  obtain ⟨rfl, Nq70, Kq70, Fq70⟩ := hQ70
  have N70 := Fr.app N58 Nq70
  have Z70 : n0 ≤ T70.heap.size := Nat.le_trans Z58 Kq70.1
  have Od71 := Od59.keep Kq70 (allS ge_b43 all0)
  have f72 := f60.keep Kq70 (ninS ne_b1_b43 nin0)
  have f73 := f61.keep Kq70 (ninS ne_b7_b43 nin0)
  have f74 := f62.keep Kq70
  have f75 := f63.keep Kq70 (ninS ne_b15_b43 nin0)
  have f76 := f64.keep Kq70
  obtain ⟨T79, h79, X79, e79, E79, A79, D79, -, st79⟩ := newO X70 hx hZ hown (hw _ (List.mem_of_getElem? (i := 2) rfl)) (hw _ (List.mem_of_getElem? (i := 3) rfl)) (hw _ (List.mem_of_getElem? (i := 4) rfl)) rfl (g := (mkF m 82 #[iv u0, iv u1, iv u2, iv u3, iv (u0 &&& (2147483647 : Int32)), iv (u1 &&& (2147483647 : Int32)), rv b1, rv b7, rv b15, rv b43, .unset, .unset, .unset, .unset, .unset, .unset, .unset, .unset] [])) rfl (hb hby at_82) (by decide) (by decide)
  obtain ⟨b79, g79⟩ : ∃ z, z = T70.heap.size := ⟨_, rfl⟩
  rw [← g79] at A79 D79 st79
  have ge_b79 : n0 ≤ b79 := Nat.le_trans Z70 (Nat.le_of_eq g79.symm)
  have ne_b1_b79 : b1 ≠ b79 := Nat.ne_of_lt (Nat.lt_of_lt_of_le (f72).lt (Nat.le_of_eq g79.symm))
  have ne_b15_b79 : b15 ≠ b79 := Nat.ne_of_lt (Nat.lt_of_lt_of_le (f74).lt (Nat.le_of_eq g79.symm))
  have ne_b43_b79 : b43 ≠ b79 := Nat.ne_of_lt (Nat.lt_of_lt_of_le (f76).lt (Nat.le_of_eq g79.symm))
  have ne_b7_b79 : b7 ≠ b79 := Nat.ne_of_lt (Nat.lt_of_lt_of_le (f73).lt (Nat.le_of_eq g79.symm))
  have Od80 := Od71.ext E79
  have f81 := f72.ext E79
  have f82 := f73.ext E79
  have f83 := f74.ext E79
  have f84 := f75.ext E79
  have f85 := f76.ext E79
  have f86 := Fq70.ext E79
  have F79_name : Fld Z h79 b79 "com/example/tranquility/tranquility/Level" "name" "Ljava/lang/String;" .null := D79 (Or.inr (hw _ (List.mem_of_getElem? (i := 39) rfl))) (ty := (.object "java/lang/String")) (by decide)
  have F79_rank : Fld Z h79 b79 "com/example/tranquility/tranquility/Level" "rank" "I" (.int (0 : Int32)) := D79 (Or.inr (hw _ (List.mem_of_getElem? (i := 41) rfl))) (ty := .int) (by decide)
  have Z79 : n0 ≤ h79.size := Nat.le_trans Z70 E79.1
  obtain ⟨T87, h87, X87, e87, E87, A87, D87, -, st87⟩ := newO X79 hx hZ hown (hw _ (List.mem_of_getElem? (i := 5) rfl)) (hw _ (List.mem_of_getElem? (i := 6) rfl)) (hw _ (List.mem_of_getElem? (i := 7) rfl)) e79 (g := (mkF m 86 #[iv u0, iv u1, iv u2, iv u3, iv (u0 &&& (2147483647 : Int32)), iv (u1 &&& (2147483647 : Int32)), rv b1, rv b7, rv b15, rv b43, .unset, .unset, .unset, .unset, .unset, .unset, .unset, .unset] [(.ref b79), (.ref b79)])) rfl (hb hby at_86) (by decide) (by decide)
  obtain ⟨b87, g87⟩ : ∃ z, z = h79.size := ⟨_, rfl⟩
  rw [← g87] at A87 D87 st87
  have ge_b87 : n0 ≤ b87 := Nat.le_trans Z79 (Nat.le_of_eq g87.symm)
  have ne_b1_b87 : b1 ≠ b87 := Nat.ne_of_lt (Nat.lt_of_lt_of_le (f81).lt (Nat.le_of_eq g87.symm))
  have ne_b15_b87 : b15 ≠ b87 := Nat.ne_of_lt (Nat.lt_of_lt_of_le (f83).lt (Nat.le_of_eq g87.symm))
  have ne_b43_b87 : b43 ≠ b87 := Nat.ne_of_lt (Nat.lt_of_lt_of_le (f85).lt (Nat.le_of_eq g87.symm))
  have ne_b7_b87 : b7 ≠ b87 := Nat.ne_of_lt (Nat.lt_of_lt_of_le (f82).lt (Nat.le_of_eq g87.symm))
  have ne_b79_b87 : b79 ≠ b87 := Nat.ne_of_lt (Nat.lt_of_lt_of_le (A79).lt (Nat.le_of_eq g87.symm))
  have Od88 := Od80.ext E87
  have f89 := f81.ext E87
  have f90 := f82.ext E87
  have f91 := f83.ext E87
  have f92 := f84.ext E87
  have f93 := f85.ext E87
  have f94 := f86.ext E87
  have f95 := A79.ext E87
  have f96 := F79_name.ext E87
  have f97 := F79_rank.ext E87
  have F87_coder : Fld Z h87 b87 "java/lang/String" "coder" "B" (.int (0 : Int32)) := D87 (Or.inr (hw _ (List.mem_of_getElem? (i := 31) rfl))) (ty := .byte) (by decide)
  have F87_value : Fld Z h87 b87 "java/lang/String" "value" "[B" .null := D87 (Or.inr (hw _ (List.mem_of_getElem? (i := 33) rfl))) (ty := (.array .byte)) (by decide)
  have Z87 : n0 ≤ h87.size := Nat.le_trans Z79 E87.1
  obtain ⟨_, _, ⟨T98, L98, k98, n98⟩, -, X98, ⟨Lc98, hQ98, l98, y98, z98⟩, st98⟩ := X87.specialBack hx (y := (⟨"java/lang/String", "<init>", "([C)V"⟩ : MethodName)) rfl hown (mvT hZ (hw _ (List.mem_of_getElem? (i := 8) rfl))) (mvT hZ (hw _ (List.mem_of_getElem? (i := 9) rfl))) (mvT hZ (hw _ (List.mem_of_getElem? (i := 10) rfl))) (by decide) (StrChars.Road.backV (W := 3) hZ hws (kI := 4) (hw _ (List.mem_of_getElem? (i := 6) rfl)) (cs := [(nar .char ((u3 &&& (255 : Int32)).toUInt32.toUInt16.toUInt32.toInt32))]) (bs := [((nar .char ((u3 &&& (255 : Int32)).toUInt32.toUInt16.toUInt32.toInt32))).toInt8.toInt32]) (n := 1) ge_b87 Z87 A87 F87_value F87_coder f90 (O2.ext Od88.2) P3 rfl rfl (by decide) (by decide) (own_lat u3) rfl (by decide) (by decide)) (g := (mkF m 92 #[iv u0, iv u1, iv u2, iv u3, iv (u0 &&& (2147483647 : Int32)), iv (u1 &&& (2147483647 : Int32)), rv b1, rv b7, rv b15, rv b43, .unset, .unset, .unset, .unset, .unset, .unset, .unset, .unset] [(.ref b7), (.ref b87), (.ref b87), (.ref b79), (.ref b79)])) rfl (by rw [hml]; rfl) (Steps.refl _) (a := b87) (argsL := [(.ref b7)]) (rest := [(.ref b87), (.ref b79), (.ref b79)]) (lenOf pd_0 rfl) rfl (by show 2 * 0 + _ ≤ _; exact Nat.le_of_eq rfl) (hb hby at_92) (fun _ _ => ⟨rfl, e87, (by decide : 10 + 1 ≤ _), (by decide : 22 + 1 ≤ _)⟩)
  dsimp only [Pt.U, Pt.locs, Pt.cells, Pt.slots] at X98 l98 y98 z98 st98 hQ98
  subst l98 y98 z98
  obtain ⟨rfl, Nq98, Kq98, -⟩ := hQ98
  have N98 := Fr.app N70 Nq98
  have Z98 : n0 ≤ T98.heap.size := Nat.le_trans Z87 Kq98.1
  have Od99 := Od88.keep Kq98 (allS ge_b87 all0)
  have f100 := f89.keep Kq98 (ninS ne_b1_b87 nin0)
  have f101 := f90.keep Kq98 (ninS ne_b7_b87 nin0)
  have f102 := f91.keep Kq98
  have f103 := f92.keep Kq98 (ninS ne_b15_b87 nin0)
  have f104 := f93.keep Kq98
  have f105 := f94.keep Kq98 (ninS ne_b43_b87 nin0)
  have f106 := f95.keep Kq98
  have f107 := f96.keep Kq98 (ninS ne_b79_b87 nin0)
  have f108 := f97.keep Kq98 (ninS ne_b79_b87 nin0)
  have f109 := A87.keep Kq98
  obtain ⟨_, _, ⟨T112, L112, k112, n112⟩, -, X112, ⟨Lc112, hQ112, l112, y112, z112⟩, st112⟩ := X98.specialBack hx (y := (⟨"com/example/tranquility/tranquility/Level", "<init>", "(Ljava/lang/String;I)V"⟩ : MethodName)) rfl hown (mvT hZ (hw _ (List.mem_of_getElem? (i := 34) rfl))) (mvT hZ (hw _ (List.mem_of_getElem? (i := 35) rfl))) (mvT hZ (hw _ (List.mem_of_getElem? (i := 36) rfl))) (by decide) (backOf (W := 1) (rmLvI l Z a0 hw [] b79 b87 (u0 &&& (2147483647 : Int32)) T98.heap n0 Z98 f106 f107 f108 ge_b79) hZ (hw _ (List.mem_of_getElem? (i := 36) rfl)) (hw _ (List.mem_of_getElem? (i := 4) rfl)) (by decide) (by decide)) (g := (mkF m 97 #[iv u0, iv u1, iv u2, iv u3, iv (u0 &&& (2147483647 : Int32)), iv (u1 &&& (2147483647 : Int32)), rv b1, rv b7, rv b15, rv b43, .unset, .unset, .unset, .unset, .unset, .unset, .unset, .unset] [(.int (u0 &&& (2147483647 : Int32))), (.ref b87), (.ref b79), (.ref b79)])) rfl (by rw [hml]; rfl) (Steps.refl _) (a := b79) (argsL := [(.ref b87), (.int (u0 &&& (2147483647 : Int32)))]) (rest := [(.ref b79)]) (lenOf pd_1 rfl) rfl (by show 2 * 0 + _ ≤ _; exact Nat.le_of_eq rfl) (hb hby at_97) (fun _ _ => ⟨rfl, rfl, (by decide : 11 + 0 ≤ _), (by decide : 23 + 0 ≤ _)⟩)
  dsimp only [Pt.U, Pt.locs, Pt.cells, Pt.slots] at X112 l112 y112 z112 st112 hQ112
  subst l112 y112 z112
  obtain ⟨rfl, Nq112, Kq112, Fq112⟩ := hQ112
  have N112 := Fr.app N98 Nq112
  have Z112 : n0 ≤ T112.heap.size := Nat.le_trans Z98 Kq112.1
  have Od113 := Od99.keep Kq112 (allS ge_b79 all0)
  have f114 := f100.keep Kq112 (ninS ne_b1_b79 nin0)
  have f115 := f101.keep Kq112 (ninS ne_b7_b79 nin0)
  have f116 := f102.keep Kq112
  have f117 := f103.keep Kq112 (ninS ne_b15_b79 nin0)
  have f118 := f104.keep Kq112
  have f119 := f105.keep Kq112 (ninS ne_b43_b79 nin0)
  have f120 := f106.keep Kq112
  obtain ⟨cq123, kq123, q123a, q123b, q123c⟩ := isOf hZ rfl f116
  obtain ⟨_, _, ⟨T123, L123, k123, n123⟩, -, X123, ⟨Lc123, hQ123, l123, y123, z123⟩, st123⟩ := X112.virtualBack hx (y := (⟨"com/example/tranquility/tranquility/Level", "dominates", "(Lcom/example/tranquility/tranquility/Level;)Z"⟩ : MethodName)) (z := (⟨"com/example/tranquility/tranquility/Level", "dominates", "(Lcom/example/tranquility/tranquility/Level;)Z"⟩ : MethodName)) hown (mvT hZ (hw _ (List.mem_of_getElem? (i := 42) rfl))) (mvT hZ (hw _ (List.mem_of_getElem? (i := 43) rfl))) (notFace_of_selects (args := #[]) (mvT hZ (hw _ (List.mem_of_getElem? (i := 45) rfl)))) (mvT hZ (hw _ (List.mem_of_getElem? (i := 45) rfl))) (mvT hZ (hw _ (List.mem_of_getElem? (i := 44) rfl))) (by decide) (backOf (W := 0) (rmDom l Z a0 hw [] b15 b43 (u0 &&& (2147483647 : Int32)) (u1 &&& (2147483647 : Int32)) T112.heap n0 Z112 f117 f119) hZ (hw _ (List.mem_of_getElem? (i := 46) rfl)) (hw _ (List.mem_of_getElem? (i := 4) rfl)) (by decide) (by decide)) q123a q123c (g := (mkF m 106 #[iv u0, iv u1, iv u2, iv u3, iv (u0 &&& (2147483647 : Int32)), iv (u1 &&& (2147483647 : Int32)), rv b1, rv b7, rv b15, rv b43, rv b79, .unset, .unset, .unset, .unset, .unset, .unset, .unset] [(.ref b43), (.ref b15)])) rfl (by rw [hml]; rfl) (Steps.refl _) (argsL := [(.ref b43)]) (rest := []) (lenOf pd_2 rfl) rfl (by show 2 * 0 + _ ≤ _; exact Nat.le_of_eq rfl) (hb hby at_106) (fun _ _ => ⟨rfl, rfl, (by decide : 11 + 0 ≤ _), (by decide : 23 + 0 ≤ _)⟩)
  dsimp only [Pt.U, Pt.locs, Pt.cells, Pt.slots] at X123 l123 y123 z123 st123 hQ123
  subst l123 y123 z123
  obtain ⟨rfl, Nq123, eq123⟩ := hQ123
  have N123 := Fr.app N112 Nq123
  obtain ⟨cq124, kq124, q124a, q124b, q124c⟩ := isOf hZ eq123 f118
  obtain ⟨_, _, ⟨T124, L124, k124, n124⟩, -, X124, ⟨Lc124, hQ124, l124, y124, z124⟩, st124⟩ := X123.virtualBack hx (y := (⟨"com/example/tranquility/tranquility/Level", "dominates", "(Lcom/example/tranquility/tranquility/Level;)Z"⟩ : MethodName)) (z := (⟨"com/example/tranquility/tranquility/Level", "dominates", "(Lcom/example/tranquility/tranquility/Level;)Z"⟩ : MethodName)) hown (mvT hZ (hw _ (List.mem_of_getElem? (i := 42) rfl))) (mvT hZ (hw _ (List.mem_of_getElem? (i := 43) rfl))) (notFace_of_selects (args := #[]) (mvT hZ (hw _ (List.mem_of_getElem? (i := 45) rfl)))) (mvT hZ (hw _ (List.mem_of_getElem? (i := 45) rfl))) (mvT hZ (hw _ (List.mem_of_getElem? (i := 44) rfl))) (by decide) (backOf (W := 0) (rmDom l Z a0 hw [] b43 b15 (u1 &&& (2147483647 : Int32)) (u0 &&& (2147483647 : Int32)) T112.heap n0 Z112 f119 f117) hZ (hw _ (List.mem_of_getElem? (i := 46) rfl)) (hw _ (List.mem_of_getElem? (i := 4) rfl)) (by decide) (by decide)) q124a q124c (g := (mkF m 115 #[iv u0, iv u1, iv u2, iv u3, iv (u0 &&& (2147483647 : Int32)), iv (u1 &&& (2147483647 : Int32)), rv b1, rv b7, rv b15, rv b43, rv b79, iv (own_dom (u0 &&& (2147483647 : Int32)) (u1 &&& (2147483647 : Int32))), .unset, .unset, .unset, .unset, .unset, .unset] [(.ref b15), (.ref b43)])) rfl (by rw [hml]; rfl) (Steps.refl _) (argsL := [(.ref b15)]) (rest := []) (lenOf pd_2 rfl) rfl (by show 2 * 0 + _ ≤ _; exact Nat.le_of_eq rfl) (hb hby at_115) (fun _ _ => ⟨rfl, eq123, (by decide : 11 + 0 ≤ _), (by decide : 23 + 0 ≤ _)⟩)
  dsimp only [Pt.U, Pt.locs, Pt.cells, Pt.slots] at X124 l124 y124 z124 st124 hQ124
  subst l124 y124 z124
  obtain ⟨rfl, Nq124, eq124⟩ := hQ124
  have N124 := Fr.app N123 Nq124
  obtain ⟨cq125, kq125, q125a, q125b, q125c⟩ := isOf hZ eq124 f116
  obtain ⟨_, _, ⟨T125, L125, k125, n125⟩, -, X125, ⟨Lc125, hQ125, l125, y125, z125⟩, st125⟩ := X124.virtualBack hx (y := (⟨"com/example/tranquility/tranquility/Level", "dominates", "(Lcom/example/tranquility/tranquility/Level;)Z"⟩ : MethodName)) (z := (⟨"com/example/tranquility/tranquility/Level", "dominates", "(Lcom/example/tranquility/tranquility/Level;)Z"⟩ : MethodName)) hown (mvT hZ (hw _ (List.mem_of_getElem? (i := 42) rfl))) (mvT hZ (hw _ (List.mem_of_getElem? (i := 43) rfl))) (notFace_of_selects (args := #[]) (mvT hZ (hw _ (List.mem_of_getElem? (i := 45) rfl)))) (mvT hZ (hw _ (List.mem_of_getElem? (i := 45) rfl))) (mvT hZ (hw _ (List.mem_of_getElem? (i := 44) rfl))) (by decide) (backOf (W := 0) (rmDom l Z a0 hw [] b15 b15 (u0 &&& (2147483647 : Int32)) (u0 &&& (2147483647 : Int32)) T112.heap n0 Z112 f117 f117) hZ (hw _ (List.mem_of_getElem? (i := 46) rfl)) (hw _ (List.mem_of_getElem? (i := 4) rfl)) (by decide) (by decide)) q125a q125c (g := (mkF m 124 #[iv u0, iv u1, iv u2, iv u3, iv (u0 &&& (2147483647 : Int32)), iv (u1 &&& (2147483647 : Int32)), rv b1, rv b7, rv b15, rv b43, rv b79, iv (own_dom (u0 &&& (2147483647 : Int32)) (u1 &&& (2147483647 : Int32))), iv (own_dom (u1 &&& (2147483647 : Int32)) (u0 &&& (2147483647 : Int32))), .unset, .unset, .unset, .unset, .unset] [(.ref b15), (.ref b15)])) rfl (by rw [hml]; rfl) (Steps.refl _) (argsL := [(.ref b15)]) (rest := []) (lenOf pd_2 rfl) rfl (by show 2 * 0 + _ ≤ _; exact Nat.le_of_eq rfl) (hb hby at_124) (fun _ _ => ⟨rfl, eq124, (by decide : 11 + 0 ≤ _), (by decide : 23 + 0 ≤ _)⟩)
  dsimp only [Pt.U, Pt.locs, Pt.cells, Pt.slots] at X125 l125 y125 z125 st125 hQ125
  subst l125 y125 z125
  obtain ⟨rfl, Nq125, eq125⟩ := hQ125
  have N125 := Fr.app N124 Nq125
  obtain ⟨cq126, kq126, q126a, q126b, q126c⟩ := isOf hZ eq125 f116
  obtain ⟨_, _, ⟨T126, L126, k126, n126⟩, -, X126, ⟨Lc126, hQ126, l126, y126, z126⟩, st126⟩ := X125.virtualBack hx (y := (⟨"com/example/tranquility/tranquility/Level", "dominates", "(Lcom/example/tranquility/tranquility/Level;)Z"⟩ : MethodName)) (z := (⟨"com/example/tranquility/tranquility/Level", "dominates", "(Lcom/example/tranquility/tranquility/Level;)Z"⟩ : MethodName)) hown (mvT hZ (hw _ (List.mem_of_getElem? (i := 42) rfl))) (mvT hZ (hw _ (List.mem_of_getElem? (i := 43) rfl))) (notFace_of_selects (args := #[]) (mvT hZ (hw _ (List.mem_of_getElem? (i := 45) rfl)))) (mvT hZ (hw _ (List.mem_of_getElem? (i := 45) rfl))) (mvT hZ (hw _ (List.mem_of_getElem? (i := 44) rfl))) (by decide) (backOf (W := 0) (rmDom l Z a0 hw [] b15 b79 (u0 &&& (2147483647 : Int32)) (u0 &&& (2147483647 : Int32)) T112.heap n0 Z112 f117 Fq112) hZ (hw _ (List.mem_of_getElem? (i := 46) rfl)) (hw _ (List.mem_of_getElem? (i := 4) rfl)) (by decide) (by decide)) q126a q126c (g := (mkF m 133 #[iv u0, iv u1, iv u2, iv u3, iv (u0 &&& (2147483647 : Int32)), iv (u1 &&& (2147483647 : Int32)), rv b1, rv b7, rv b15, rv b43, rv b79, iv (own_dom (u0 &&& (2147483647 : Int32)) (u1 &&& (2147483647 : Int32))), iv (own_dom (u1 &&& (2147483647 : Int32)) (u0 &&& (2147483647 : Int32))), iv (own_dom (u0 &&& (2147483647 : Int32)) (u0 &&& (2147483647 : Int32))), .unset, .unset, .unset, .unset] [(.ref b79), (.ref b15)])) rfl (by rw [hml]; rfl) (Steps.refl _) (argsL := [(.ref b79)]) (rest := []) (lenOf pd_2 rfl) rfl (by show 2 * 0 + _ ≤ _; exact Nat.le_of_eq rfl) (hb hby at_133) (fun _ _ => ⟨rfl, eq125, (by decide : 11 + 0 ≤ _), (by decide : 23 + 0 ≤ _)⟩)
  dsimp only [Pt.U, Pt.locs, Pt.cells, Pt.slots] at X126 l126 y126 z126 st126 hQ126
  subst l126 y126 z126
  obtain ⟨rfl, Nq126, eq126⟩ := hQ126
  have N126 := Fr.app N125 Nq126
  obtain ⟨cq127, kq127, q127a, q127b, q127c⟩ := isOf hZ eq126 f120
  obtain ⟨_, _, ⟨T127, L127, k127, n127⟩, -, X127, ⟨Lc127, hQ127, l127, y127, z127⟩, st127⟩ := X126.virtualBack hx (y := (⟨"com/example/tranquility/tranquility/Level", "dominates", "(Lcom/example/tranquility/tranquility/Level;)Z"⟩ : MethodName)) (z := (⟨"com/example/tranquility/tranquility/Level", "dominates", "(Lcom/example/tranquility/tranquility/Level;)Z"⟩ : MethodName)) hown (mvT hZ (hw _ (List.mem_of_getElem? (i := 42) rfl))) (mvT hZ (hw _ (List.mem_of_getElem? (i := 43) rfl))) (notFace_of_selects (args := #[]) (mvT hZ (hw _ (List.mem_of_getElem? (i := 45) rfl)))) (mvT hZ (hw _ (List.mem_of_getElem? (i := 45) rfl))) (mvT hZ (hw _ (List.mem_of_getElem? (i := 44) rfl))) (by decide) (backOf (W := 0) (rmDom l Z a0 hw [] b79 b15 (u0 &&& (2147483647 : Int32)) (u0 &&& (2147483647 : Int32)) T112.heap n0 Z112 Fq112 f117) hZ (hw _ (List.mem_of_getElem? (i := 46) rfl)) (hw _ (List.mem_of_getElem? (i := 4) rfl)) (by decide) (by decide)) q127a q127c (g := (mkF m 142 #[iv u0, iv u1, iv u2, iv u3, iv (u0 &&& (2147483647 : Int32)), iv (u1 &&& (2147483647 : Int32)), rv b1, rv b7, rv b15, rv b43, rv b79, iv (own_dom (u0 &&& (2147483647 : Int32)) (u1 &&& (2147483647 : Int32))), iv (own_dom (u1 &&& (2147483647 : Int32)) (u0 &&& (2147483647 : Int32))), iv (own_dom (u0 &&& (2147483647 : Int32)) (u0 &&& (2147483647 : Int32))), iv (own_dom (u0 &&& (2147483647 : Int32)) (u0 &&& (2147483647 : Int32))), .unset, .unset, .unset] [(.ref b15), (.ref b79)])) rfl (by rw [hml]; rfl) (Steps.refl _) (argsL := [(.ref b15)]) (rest := []) (lenOf pd_2 rfl) rfl (by show 2 * 0 + _ ≤ _; exact Nat.le_of_eq rfl) (hb hby at_142) (fun _ _ => ⟨rfl, eq126, (by decide : 11 + 0 ≤ _), (by decide : 23 + 0 ≤ _)⟩)
  dsimp only [Pt.U, Pt.locs, Pt.cells, Pt.slots] at X127 l127 y127 z127 st127 hQ127
  subst l127 y127 z127
  obtain ⟨rfl, Nq127, eq127⟩ := hQ127
  have N127 := Fr.app N126 Nq127
  have S128 : ∀ t, Steps p.tables e below (T127.setTop (mkF m 151 #[iv u0, iv u1, iv u2, iv u3, iv (u0 &&& (2147483647 : Int32)), iv (u1 &&& (2147483647 : Int32)), rv b1, rv b7, rv b15, rv b43, rv b79, iv (own_dom (u0 &&& (2147483647 : Int32)) (u1 &&& (2147483647 : Int32))), iv (own_dom (u1 &&& (2147483647 : Int32)) (u0 &&& (2147483647 : Int32))), iv (own_dom (u0 &&& (2147483647 : Int32)) (u0 &&& (2147483647 : Int32))), iv (own_dom (u0 &&& (2147483647 : Int32)) (u0 &&& (2147483647 : Int32))), iv (own_dom (u0 &&& (2147483647 : Int32)) (u0 &&& (2147483647 : Int32))), .unset, .unset] [(.int (u1 &&& (2147483647 : Int32))), (.int (u0 &&& (2147483647 : Int32)))])) t → Steps p.tables e below (s₁.setTop (entryFrame m #[(.int u0), (.int u1), (.int u2), (.int u3)] maxLocals)) t := by
    intro t k
    refine S0 t ?_
    show Steps p.tables e below (s₁.setTop (mkF m 0 #[iv u0, iv u1, iv u2, iv u3, .unset, .unset, .unset, .unset, .unset, .unset, .unset, .unset, .unset, .unset, .unset, .unset, .unset, .unset] [])) _
    refine XS.iloadN X0.here hx rfl (hb hby at_0) rfl ?_
    show Steps p.tables e below (s₁.setTop (mkF m 1 #[iv u0, iv u1, iv u2, iv u3, .unset, .unset, .unset, .unset, .unset, .unset, .unset, .unset, .unset, .unset, .unset, .unset, .unset, .unset] [(.int u0)])) _
    refine X0.ldcInt hx hown (mvT hZ (hw _ (List.mem_of_getElem? (i := 0) rfl))) (g := (mkF m 1 #[iv u0, iv u1, iv u2, iv u3, .unset, .unset, .unset, .unset, .unset, .unset, .unset, .unset, .unset, .unset, .unset, .unset, .unset, .unset] [(.int u0)])) rfl (hb hby at_1) _ ?_
    show Steps p.tables e below (s₁.setTop (mkF m 3 #[iv u0, iv u1, iv u2, iv u3, .unset, .unset, .unset, .unset, .unset, .unset, .unset, .unset, .unset, .unset, .unset, .unset, .unset, .unset] [(.int (2147483647 : Int32)), (.int u0)])) _
    refine XS.iand X0.here hx rfl (hb hby at_3) rfl ?_
    show Steps p.tables e below (s₁.setTop (mkF m 4 #[iv u0, iv u1, iv u2, iv u3, .unset, .unset, .unset, .unset, .unset, .unset, .unset, .unset, .unset, .unset, .unset, .unset, .unset, .unset] [(.int (u0 &&& (2147483647 : Int32)))])) _
    refine XS.istore X0.here hx rfl (hb hby at_4) rfl (l' := #[iv u0, iv u1, iv u2, iv u3, iv (u0 &&& (2147483647 : Int32)), .unset, .unset, .unset, .unset, .unset, .unset, .unset, .unset, .unset, .unset, .unset, .unset, .unset]) rfl ?_
    show Steps p.tables e below (s₁.setTop (mkF m 6 #[iv u0, iv u1, iv u2, iv u3, iv (u0 &&& (2147483647 : Int32)), .unset, .unset, .unset, .unset, .unset, .unset, .unset, .unset, .unset, .unset, .unset, .unset, .unset] [])) _
    refine XS.iloadN X0.here hx rfl (hb hby at_6) rfl ?_
    show Steps p.tables e below (s₁.setTop (mkF m 7 #[iv u0, iv u1, iv u2, iv u3, iv (u0 &&& (2147483647 : Int32)), .unset, .unset, .unset, .unset, .unset, .unset, .unset, .unset, .unset, .unset, .unset, .unset, .unset] [(.int u1)])) _
    refine X0.ldcInt hx hown (mvT hZ (hw _ (List.mem_of_getElem? (i := 0) rfl))) (g := (mkF m 7 #[iv u0, iv u1, iv u2, iv u3, iv (u0 &&& (2147483647 : Int32)), .unset, .unset, .unset, .unset, .unset, .unset, .unset, .unset, .unset, .unset, .unset, .unset, .unset] [(.int u1)])) rfl (hb hby at_7) _ ?_
    show Steps p.tables e below (s₁.setTop (mkF m 9 #[iv u0, iv u1, iv u2, iv u3, iv (u0 &&& (2147483647 : Int32)), .unset, .unset, .unset, .unset, .unset, .unset, .unset, .unset, .unset, .unset, .unset, .unset, .unset] [(.int (2147483647 : Int32)), (.int u1)])) _
    refine XS.iand X0.here hx rfl (hb hby at_9) rfl ?_
    show Steps p.tables e below (s₁.setTop (mkF m 10 #[iv u0, iv u1, iv u2, iv u3, iv (u0 &&& (2147483647 : Int32)), .unset, .unset, .unset, .unset, .unset, .unset, .unset, .unset, .unset, .unset, .unset, .unset, .unset] [(.int (u1 &&& (2147483647 : Int32)))])) _
    refine XS.istore X0.here hx rfl (hb hby at_10) rfl (l' := #[iv u0, iv u1, iv u2, iv u3, iv (u0 &&& (2147483647 : Int32)), iv (u1 &&& (2147483647 : Int32)), .unset, .unset, .unset, .unset, .unset, .unset, .unset, .unset, .unset, .unset, .unset, .unset]) rfl ?_
    show Steps p.tables e below (s₁.setTop (mkF m 12 #[iv u0, iv u1, iv u2, iv u3, iv (u0 &&& (2147483647 : Int32)), iv (u1 &&& (2147483647 : Int32)), .unset, .unset, .unset, .unset, .unset, .unset, .unset, .unset, .unset, .unset, .unset, .unset] [])) _
    refine XS.iconst X0.here hx rfl (hb hby at_12) ?_
    show Steps p.tables e below (s₁.setTop (mkF m 13 #[iv u0, iv u1, iv u2, iv u3, iv (u0 &&& (2147483647 : Int32)), iv (u1 &&& (2147483647 : Int32)), .unset, .unset, .unset, .unset, .unset, .unset, .unset, .unset, .unset, .unset, .unset, .unset] [(.int (1 : Int32))])) _
    refine st1 _ ?_
    show Steps p.tables e below (T1.setTop (mkF m 15 #[iv u0, iv u1, iv u2, iv u3, iv (u0 &&& (2147483647 : Int32)), iv (u1 &&& (2147483647 : Int32)), .unset, .unset, .unset, .unset, .unset, .unset, .unset, .unset, .unset, .unset, .unset, .unset] [(.ref b1)])) _
    refine XS.astore X1.here hx rfl (hb hby at_15) rfl rfl (l' := #[iv u0, iv u1, iv u2, iv u3, iv (u0 &&& (2147483647 : Int32)), iv (u1 &&& (2147483647 : Int32)), rv b1, .unset, .unset, .unset, .unset, .unset, .unset, .unset, .unset, .unset, .unset, .unset]) rfl ?_
    show Steps p.tables e below (T1.setTop (mkF m 17 #[iv u0, iv u1, iv u2, iv u3, iv (u0 &&& (2147483647 : Int32)), iv (u1 &&& (2147483647 : Int32)), rv b1, .unset, .unset, .unset, .unset, .unset, .unset, .unset, .unset, .unset, .unset, .unset] [])) _
    refine XS.aload X1.here hx rfl (hb hby at_17) rfl rfl ?_
    show Steps p.tables e below (T1.setTop (mkF m 19 #[iv u0, iv u1, iv u2, iv u3, iv (u0 &&& (2147483647 : Int32)), iv (u1 &&& (2147483647 : Int32)), rv b1, .unset, .unset, .unset, .unset, .unset, .unset, .unset, .unset, .unset, .unset, .unset] [(.ref b1)])) _
    refine XS.iconst X1.here hx rfl (hb hby at_19) ?_
    show Steps p.tables e below (T1.setTop (mkF m 20 #[iv u0, iv u1, iv u2, iv u3, iv (u0 &&& (2147483647 : Int32)), iv (u1 &&& (2147483647 : Int32)), rv b1, .unset, .unset, .unset, .unset, .unset, .unset, .unset, .unset, .unset, .unset, .unset] [(.int (0 : Int32)), (.ref b1)])) _
    refine XS.iloadN X1.here hx rfl (hb hby at_20) rfl ?_
    show Steps p.tables e below (T1.setTop (mkF m 21 #[iv u0, iv u1, iv u2, iv u3, iv (u0 &&& (2147483647 : Int32)), iv (u1 &&& (2147483647 : Int32)), rv b1, .unset, .unset, .unset, .unset, .unset, .unset, .unset, .unset, .unset, .unset, .unset] [(.int u2), (.int (0 : Int32)), (.ref b1)])) _
    refine XS.sipush X1.here hx rfl (hb hby at_21) ?_
    show Steps p.tables e below (T1.setTop (mkF m 24 #[iv u0, iv u1, iv u2, iv u3, iv (u0 &&& (2147483647 : Int32)), iv (u1 &&& (2147483647 : Int32)), rv b1, .unset, .unset, .unset, .unset, .unset, .unset, .unset, .unset, .unset, .unset, .unset] [(.int (255 : Int32)), (.int u2), (.int (0 : Int32)), (.ref b1)])) _
    refine XS.iand X1.here hx rfl (hb hby at_24) rfl ?_
    show Steps p.tables e below (T1.setTop (mkF m 25 #[iv u0, iv u1, iv u2, iv u3, iv (u0 &&& (2147483647 : Int32)), iv (u1 &&& (2147483647 : Int32)), rv b1, .unset, .unset, .unset, .unset, .unset, .unset, .unset, .unset, .unset, .unset, .unset] [(.int (u2 &&& (255 : Int32))), (.int (0 : Int32)), (.ref b1)])) _
    refine XS.i2c X1.here hx rfl (hb hby at_25) rfl ?_
    show Steps p.tables e below (T1.setTop (mkF m 26 #[iv u0, iv u1, iv u2, iv u3, iv (u0 &&& (2147483647 : Int32)), iv (u1 &&& (2147483647 : Int32)), rv b1, .unset, .unset, .unset, .unset, .unset, .unset, .unset, .unset, .unset, .unset, .unset] [(.int ((u2 &&& (255 : Int32)).toUInt32.toUInt16.toUInt32.toInt32)), (.int (0 : Int32)), (.ref b1)])) _
    refine st4 _ ?_
    show Steps p.tables e below (T4.setTop (mkF m 27 #[iv u0, iv u1, iv u2, iv u3, iv (u0 &&& (2147483647 : Int32)), iv (u1 &&& (2147483647 : Int32)), rv b1, .unset, .unset, .unset, .unset, .unset, .unset, .unset, .unset, .unset, .unset, .unset] [])) _
    refine XS.iconst X4.here hx rfl (hb hby at_27) ?_
    show Steps p.tables e below (T4.setTop (mkF m 28 #[iv u0, iv u1, iv u2, iv u3, iv (u0 &&& (2147483647 : Int32)), iv (u1 &&& (2147483647 : Int32)), rv b1, .unset, .unset, .unset, .unset, .unset, .unset, .unset, .unset, .unset, .unset, .unset] [(.int (1 : Int32))])) _
    refine st7 _ ?_
    show Steps p.tables e below (T7.setTop (mkF m 30 #[iv u0, iv u1, iv u2, iv u3, iv (u0 &&& (2147483647 : Int32)), iv (u1 &&& (2147483647 : Int32)), rv b1, .unset, .unset, .unset, .unset, .unset, .unset, .unset, .unset, .unset, .unset, .unset] [(.ref b7)])) _
    refine XS.astore X7.here hx rfl (hb hby at_30) rfl rfl (l' := #[iv u0, iv u1, iv u2, iv u3, iv (u0 &&& (2147483647 : Int32)), iv (u1 &&& (2147483647 : Int32)), rv b1, rv b7, .unset, .unset, .unset, .unset, .unset, .unset, .unset, .unset, .unset, .unset]) rfl ?_
    show Steps p.tables e below (T7.setTop (mkF m 32 #[iv u0, iv u1, iv u2, iv u3, iv (u0 &&& (2147483647 : Int32)), iv (u1 &&& (2147483647 : Int32)), rv b1, rv b7, .unset, .unset, .unset, .unset, .unset, .unset, .unset, .unset, .unset, .unset] [])) _
    refine XS.aload X7.here hx rfl (hb hby at_32) rfl rfl ?_
    show Steps p.tables e below (T7.setTop (mkF m 34 #[iv u0, iv u1, iv u2, iv u3, iv (u0 &&& (2147483647 : Int32)), iv (u1 &&& (2147483647 : Int32)), rv b1, rv b7, .unset, .unset, .unset, .unset, .unset, .unset, .unset, .unset, .unset, .unset] [(.ref b7)])) _
    refine XS.iconst X7.here hx rfl (hb hby at_34) ?_
    show Steps p.tables e below (T7.setTop (mkF m 35 #[iv u0, iv u1, iv u2, iv u3, iv (u0 &&& (2147483647 : Int32)), iv (u1 &&& (2147483647 : Int32)), rv b1, rv b7, .unset, .unset, .unset, .unset, .unset, .unset, .unset, .unset, .unset, .unset] [(.int (0 : Int32)), (.ref b7)])) _
    refine XS.iloadN X7.here hx rfl (hb hby at_35) rfl ?_
    show Steps p.tables e below (T7.setTop (mkF m 36 #[iv u0, iv u1, iv u2, iv u3, iv (u0 &&& (2147483647 : Int32)), iv (u1 &&& (2147483647 : Int32)), rv b1, rv b7, .unset, .unset, .unset, .unset, .unset, .unset, .unset, .unset, .unset, .unset] [(.int u3), (.int (0 : Int32)), (.ref b7)])) _
    refine XS.sipush X7.here hx rfl (hb hby at_36) ?_
    show Steps p.tables e below (T7.setTop (mkF m 39 #[iv u0, iv u1, iv u2, iv u3, iv (u0 &&& (2147483647 : Int32)), iv (u1 &&& (2147483647 : Int32)), rv b1, rv b7, .unset, .unset, .unset, .unset, .unset, .unset, .unset, .unset, .unset, .unset] [(.int (255 : Int32)), (.int u3), (.int (0 : Int32)), (.ref b7)])) _
    refine XS.iand X7.here hx rfl (hb hby at_39) rfl ?_
    show Steps p.tables e below (T7.setTop (mkF m 40 #[iv u0, iv u1, iv u2, iv u3, iv (u0 &&& (2147483647 : Int32)), iv (u1 &&& (2147483647 : Int32)), rv b1, rv b7, .unset, .unset, .unset, .unset, .unset, .unset, .unset, .unset, .unset, .unset] [(.int (u3 &&& (255 : Int32))), (.int (0 : Int32)), (.ref b7)])) _
    refine XS.i2c X7.here hx rfl (hb hby at_40) rfl ?_
    show Steps p.tables e below (T7.setTop (mkF m 41 #[iv u0, iv u1, iv u2, iv u3, iv (u0 &&& (2147483647 : Int32)), iv (u1 &&& (2147483647 : Int32)), rv b1, rv b7, .unset, .unset, .unset, .unset, .unset, .unset, .unset, .unset, .unset, .unset] [(.int ((u3 &&& (255 : Int32)).toUInt32.toUInt16.toUInt32.toInt32)), (.int (0 : Int32)), (.ref b7)])) _
    refine st11 _ ?_
    show Steps p.tables e below (T11.setTop (mkF m 42 #[iv u0, iv u1, iv u2, iv u3, iv (u0 &&& (2147483647 : Int32)), iv (u1 &&& (2147483647 : Int32)), rv b1, rv b7, .unset, .unset, .unset, .unset, .unset, .unset, .unset, .unset, .unset, .unset] [])) _
    refine st15 _ ?_
    show Steps p.tables e below (T15.setTop (mkF m 45 #[iv u0, iv u1, iv u2, iv u3, iv (u0 &&& (2147483647 : Int32)), iv (u1 &&& (2147483647 : Int32)), rv b1, rv b7, .unset, .unset, .unset, .unset, .unset, .unset, .unset, .unset, .unset, .unset] [(.ref b15)])) _
    refine XS.dup X15.here hx rfl (hb hby at_45) rfl rfl ?_
    show Steps p.tables e below (T15.setTop (mkF m 46 #[iv u0, iv u1, iv u2, iv u3, iv (u0 &&& (2147483647 : Int32)), iv (u1 &&& (2147483647 : Int32)), rv b1, rv b7, .unset, .unset, .unset, .unset, .unset, .unset, .unset, .unset, .unset, .unset] [(.ref b15), (.ref b15)])) _
    refine st19 _ ?_
    show Steps p.tables e below (T19.setTop (mkF m 49 #[iv u0, iv u1, iv u2, iv u3, iv (u0 &&& (2147483647 : Int32)), iv (u1 &&& (2147483647 : Int32)), rv b1, rv b7, .unset, .unset, .unset, .unset, .unset, .unset, .unset, .unset, .unset, .unset] [(.ref b19), (.ref b15), (.ref b15)])) _
    refine XS.dup X19.here hx rfl (hb hby at_49) rfl rfl ?_
    show Steps p.tables e below (T19.setTop (mkF m 50 #[iv u0, iv u1, iv u2, iv u3, iv (u0 &&& (2147483647 : Int32)), iv (u1 &&& (2147483647 : Int32)), rv b1, rv b7, .unset, .unset, .unset, .unset, .unset, .unset, .unset, .unset, .unset, .unset] [(.ref b19), (.ref b19), (.ref b15), (.ref b15)])) _
    refine XS.aload X19.here hx rfl (hb hby at_50) rfl rfl ?_
    show Steps p.tables e below (T19.setTop (mkF m 52 #[iv u0, iv u1, iv u2, iv u3, iv (u0 &&& (2147483647 : Int32)), iv (u1 &&& (2147483647 : Int32)), rv b1, rv b7, .unset, .unset, .unset, .unset, .unset, .unset, .unset, .unset, .unset, .unset] [(.ref b1), (.ref b19), (.ref b19), (.ref b15), (.ref b15)])) _
    refine st26.trans ?_
    show Steps p.tables e below (T26.setTop (mkF m 55 #[iv u0, iv u1, iv u2, iv u3, iv (u0 &&& (2147483647 : Int32)), iv (u1 &&& (2147483647 : Int32)), rv b1, rv b7, .unset, .unset, .unset, .unset, .unset, .unset, .unset, .unset, .unset, .unset] [(.ref b19), (.ref b15), (.ref b15)])) _
    refine XS.iload X26.here hx rfl (hb hby at_55) rfl ?_
    show Steps p.tables e below (T26.setTop (mkF m 57 #[iv u0, iv u1, iv u2, iv u3, iv (u0 &&& (2147483647 : Int32)), iv (u1 &&& (2147483647 : Int32)), rv b1, rv b7, .unset, .unset, .unset, .unset, .unset, .unset, .unset, .unset, .unset, .unset] [(.int (u0 &&& (2147483647 : Int32))), (.ref b19), (.ref b15), (.ref b15)])) _
    refine st36.trans ?_
    show Steps p.tables e below (T36.setTop (mkF m 60 #[iv u0, iv u1, iv u2, iv u3, iv (u0 &&& (2147483647 : Int32)), iv (u1 &&& (2147483647 : Int32)), rv b1, rv b7, .unset, .unset, .unset, .unset, .unset, .unset, .unset, .unset, .unset, .unset] [(.ref b15)])) _
    refine XS.astore X36.here hx rfl (hb hby at_60) rfl rfl (l' := #[iv u0, iv u1, iv u2, iv u3, iv (u0 &&& (2147483647 : Int32)), iv (u1 &&& (2147483647 : Int32)), rv b1, rv b7, rv b15, .unset, .unset, .unset, .unset, .unset, .unset, .unset, .unset, .unset]) rfl ?_
    show Steps p.tables e below (T36.setTop (mkF m 62 #[iv u0, iv u1, iv u2, iv u3, iv (u0 &&& (2147483647 : Int32)), iv (u1 &&& (2147483647 : Int32)), rv b1, rv b7, rv b15, .unset, .unset, .unset, .unset, .unset, .unset, .unset, .unset, .unset] [])) _
    refine st43 _ ?_
    show Steps p.tables e below (T43.setTop (mkF m 65 #[iv u0, iv u1, iv u2, iv u3, iv (u0 &&& (2147483647 : Int32)), iv (u1 &&& (2147483647 : Int32)), rv b1, rv b7, rv b15, .unset, .unset, .unset, .unset, .unset, .unset, .unset, .unset, .unset] [(.ref b43)])) _
    refine XS.dup X43.here hx rfl (hb hby at_65) rfl rfl ?_
    show Steps p.tables e below (T43.setTop (mkF m 66 #[iv u0, iv u1, iv u2, iv u3, iv (u0 &&& (2147483647 : Int32)), iv (u1 &&& (2147483647 : Int32)), rv b1, rv b7, rv b15, .unset, .unset, .unset, .unset, .unset, .unset, .unset, .unset, .unset] [(.ref b43), (.ref b43)])) _
    refine st49 _ ?_
    show Steps p.tables e below (T49.setTop (mkF m 69 #[iv u0, iv u1, iv u2, iv u3, iv (u0 &&& (2147483647 : Int32)), iv (u1 &&& (2147483647 : Int32)), rv b1, rv b7, rv b15, .unset, .unset, .unset, .unset, .unset, .unset, .unset, .unset, .unset] [(.ref b49), (.ref b43), (.ref b43)])) _
    refine XS.dup X49.here hx rfl (hb hby at_69) rfl rfl ?_
    show Steps p.tables e below (T49.setTop (mkF m 70 #[iv u0, iv u1, iv u2, iv u3, iv (u0 &&& (2147483647 : Int32)), iv (u1 &&& (2147483647 : Int32)), rv b1, rv b7, rv b15, .unset, .unset, .unset, .unset, .unset, .unset, .unset, .unset, .unset] [(.ref b49), (.ref b49), (.ref b43), (.ref b43)])) _
    refine XS.aload X49.here hx rfl (hb hby at_70) rfl rfl ?_
    show Steps p.tables e below (T49.setTop (mkF m 72 #[iv u0, iv u1, iv u2, iv u3, iv (u0 &&& (2147483647 : Int32)), iv (u1 &&& (2147483647 : Int32)), rv b1, rv b7, rv b15, .unset, .unset, .unset, .unset, .unset, .unset, .unset, .unset, .unset] [(.ref b7), (.ref b49), (.ref b49), (.ref b43), (.ref b43)])) _
    refine st58.trans ?_
    show Steps p.tables e below (T58.setTop (mkF m 75 #[iv u0, iv u1, iv u2, iv u3, iv (u0 &&& (2147483647 : Int32)), iv (u1 &&& (2147483647 : Int32)), rv b1, rv b7, rv b15, .unset, .unset, .unset, .unset, .unset, .unset, .unset, .unset, .unset] [(.ref b49), (.ref b43), (.ref b43)])) _
    refine XS.iload X58.here hx rfl (hb hby at_75) rfl ?_
    show Steps p.tables e below (T58.setTop (mkF m 77 #[iv u0, iv u1, iv u2, iv u3, iv (u0 &&& (2147483647 : Int32)), iv (u1 &&& (2147483647 : Int32)), rv b1, rv b7, rv b15, .unset, .unset, .unset, .unset, .unset, .unset, .unset, .unset, .unset] [(.int (u1 &&& (2147483647 : Int32))), (.ref b49), (.ref b43), (.ref b43)])) _
    refine st70.trans ?_
    show Steps p.tables e below (T70.setTop (mkF m 80 #[iv u0, iv u1, iv u2, iv u3, iv (u0 &&& (2147483647 : Int32)), iv (u1 &&& (2147483647 : Int32)), rv b1, rv b7, rv b15, .unset, .unset, .unset, .unset, .unset, .unset, .unset, .unset, .unset] [(.ref b43)])) _
    refine XS.astore X70.here hx rfl (hb hby at_80) rfl rfl (l' := #[iv u0, iv u1, iv u2, iv u3, iv (u0 &&& (2147483647 : Int32)), iv (u1 &&& (2147483647 : Int32)), rv b1, rv b7, rv b15, rv b43, .unset, .unset, .unset, .unset, .unset, .unset, .unset, .unset]) rfl ?_
    show Steps p.tables e below (T70.setTop (mkF m 82 #[iv u0, iv u1, iv u2, iv u3, iv (u0 &&& (2147483647 : Int32)), iv (u1 &&& (2147483647 : Int32)), rv b1, rv b7, rv b15, rv b43, .unset, .unset, .unset, .unset, .unset, .unset, .unset, .unset] [])) _
    refine st79 _ ?_
    show Steps p.tables e below (T79.setTop (mkF m 85 #[iv u0, iv u1, iv u2, iv u3, iv (u0 &&& (2147483647 : Int32)), iv (u1 &&& (2147483647 : Int32)), rv b1, rv b7, rv b15, rv b43, .unset, .unset, .unset, .unset, .unset, .unset, .unset, .unset] [(.ref b79)])) _
    refine XS.dup X79.here hx rfl (hb hby at_85) rfl rfl ?_
    show Steps p.tables e below (T79.setTop (mkF m 86 #[iv u0, iv u1, iv u2, iv u3, iv (u0 &&& (2147483647 : Int32)), iv (u1 &&& (2147483647 : Int32)), rv b1, rv b7, rv b15, rv b43, .unset, .unset, .unset, .unset, .unset, .unset, .unset, .unset] [(.ref b79), (.ref b79)])) _
    refine st87 _ ?_
    show Steps p.tables e below (T87.setTop (mkF m 89 #[iv u0, iv u1, iv u2, iv u3, iv (u0 &&& (2147483647 : Int32)), iv (u1 &&& (2147483647 : Int32)), rv b1, rv b7, rv b15, rv b43, .unset, .unset, .unset, .unset, .unset, .unset, .unset, .unset] [(.ref b87), (.ref b79), (.ref b79)])) _
    refine XS.dup X87.here hx rfl (hb hby at_89) rfl rfl ?_
    show Steps p.tables e below (T87.setTop (mkF m 90 #[iv u0, iv u1, iv u2, iv u3, iv (u0 &&& (2147483647 : Int32)), iv (u1 &&& (2147483647 : Int32)), rv b1, rv b7, rv b15, rv b43, .unset, .unset, .unset, .unset, .unset, .unset, .unset, .unset] [(.ref b87), (.ref b87), (.ref b79), (.ref b79)])) _
    refine XS.aload X87.here hx rfl (hb hby at_90) rfl rfl ?_
    show Steps p.tables e below (T87.setTop (mkF m 92 #[iv u0, iv u1, iv u2, iv u3, iv (u0 &&& (2147483647 : Int32)), iv (u1 &&& (2147483647 : Int32)), rv b1, rv b7, rv b15, rv b43, .unset, .unset, .unset, .unset, .unset, .unset, .unset, .unset] [(.ref b7), (.ref b87), (.ref b87), (.ref b79), (.ref b79)])) _
    refine st98.trans ?_
    show Steps p.tables e below (T98.setTop (mkF m 95 #[iv u0, iv u1, iv u2, iv u3, iv (u0 &&& (2147483647 : Int32)), iv (u1 &&& (2147483647 : Int32)), rv b1, rv b7, rv b15, rv b43, .unset, .unset, .unset, .unset, .unset, .unset, .unset, .unset] [(.ref b87), (.ref b79), (.ref b79)])) _
    refine XS.iload X98.here hx rfl (hb hby at_95) rfl ?_
    show Steps p.tables e below (T98.setTop (mkF m 97 #[iv u0, iv u1, iv u2, iv u3, iv (u0 &&& (2147483647 : Int32)), iv (u1 &&& (2147483647 : Int32)), rv b1, rv b7, rv b15, rv b43, .unset, .unset, .unset, .unset, .unset, .unset, .unset, .unset] [(.int (u0 &&& (2147483647 : Int32))), (.ref b87), (.ref b79), (.ref b79)])) _
    refine st112.trans ?_
    show Steps p.tables e below (T112.setTop (mkF m 100 #[iv u0, iv u1, iv u2, iv u3, iv (u0 &&& (2147483647 : Int32)), iv (u1 &&& (2147483647 : Int32)), rv b1, rv b7, rv b15, rv b43, .unset, .unset, .unset, .unset, .unset, .unset, .unset, .unset] [(.ref b79)])) _
    refine XS.astore X112.here hx rfl (hb hby at_100) rfl rfl (l' := #[iv u0, iv u1, iv u2, iv u3, iv (u0 &&& (2147483647 : Int32)), iv (u1 &&& (2147483647 : Int32)), rv b1, rv b7, rv b15, rv b43, rv b79, .unset, .unset, .unset, .unset, .unset, .unset, .unset]) rfl ?_
    show Steps p.tables e below (T112.setTop (mkF m 102 #[iv u0, iv u1, iv u2, iv u3, iv (u0 &&& (2147483647 : Int32)), iv (u1 &&& (2147483647 : Int32)), rv b1, rv b7, rv b15, rv b43, rv b79, .unset, .unset, .unset, .unset, .unset, .unset, .unset] [])) _
    refine XS.aload X112.here hx rfl (hb hby at_102) rfl rfl ?_
    show Steps p.tables e below (T112.setTop (mkF m 104 #[iv u0, iv u1, iv u2, iv u3, iv (u0 &&& (2147483647 : Int32)), iv (u1 &&& (2147483647 : Int32)), rv b1, rv b7, rv b15, rv b43, rv b79, .unset, .unset, .unset, .unset, .unset, .unset, .unset] [(.ref b15)])) _
    refine XS.aload X112.here hx rfl (hb hby at_104) rfl rfl ?_
    show Steps p.tables e below (T112.setTop (mkF m 106 #[iv u0, iv u1, iv u2, iv u3, iv (u0 &&& (2147483647 : Int32)), iv (u1 &&& (2147483647 : Int32)), rv b1, rv b7, rv b15, rv b43, rv b79, .unset, .unset, .unset, .unset, .unset, .unset, .unset] [(.ref b43), (.ref b15)])) _
    refine st123.trans ?_
    show Steps p.tables e below (T123.setTop (mkF m 109 #[iv u0, iv u1, iv u2, iv u3, iv (u0 &&& (2147483647 : Int32)), iv (u1 &&& (2147483647 : Int32)), rv b1, rv b7, rv b15, rv b43, rv b79, .unset, .unset, .unset, .unset, .unset, .unset, .unset] [(.int (own_dom (u0 &&& (2147483647 : Int32)) (u1 &&& (2147483647 : Int32))))])) _
    refine XS.istore X123.here hx rfl (hb hby at_109) rfl (l' := #[iv u0, iv u1, iv u2, iv u3, iv (u0 &&& (2147483647 : Int32)), iv (u1 &&& (2147483647 : Int32)), rv b1, rv b7, rv b15, rv b43, rv b79, iv (own_dom (u0 &&& (2147483647 : Int32)) (u1 &&& (2147483647 : Int32))), .unset, .unset, .unset, .unset, .unset, .unset]) rfl ?_
    show Steps p.tables e below (T123.setTop (mkF m 111 #[iv u0, iv u1, iv u2, iv u3, iv (u0 &&& (2147483647 : Int32)), iv (u1 &&& (2147483647 : Int32)), rv b1, rv b7, rv b15, rv b43, rv b79, iv (own_dom (u0 &&& (2147483647 : Int32)) (u1 &&& (2147483647 : Int32))), .unset, .unset, .unset, .unset, .unset, .unset] [])) _
    refine XS.aload X123.here hx rfl (hb hby at_111) rfl rfl ?_
    show Steps p.tables e below (T123.setTop (mkF m 113 #[iv u0, iv u1, iv u2, iv u3, iv (u0 &&& (2147483647 : Int32)), iv (u1 &&& (2147483647 : Int32)), rv b1, rv b7, rv b15, rv b43, rv b79, iv (own_dom (u0 &&& (2147483647 : Int32)) (u1 &&& (2147483647 : Int32))), .unset, .unset, .unset, .unset, .unset, .unset] [(.ref b43)])) _
    refine XS.aload X123.here hx rfl (hb hby at_113) rfl rfl ?_
    show Steps p.tables e below (T123.setTop (mkF m 115 #[iv u0, iv u1, iv u2, iv u3, iv (u0 &&& (2147483647 : Int32)), iv (u1 &&& (2147483647 : Int32)), rv b1, rv b7, rv b15, rv b43, rv b79, iv (own_dom (u0 &&& (2147483647 : Int32)) (u1 &&& (2147483647 : Int32))), .unset, .unset, .unset, .unset, .unset, .unset] [(.ref b15), (.ref b43)])) _
    refine st124.trans ?_
    show Steps p.tables e below (T124.setTop (mkF m 118 #[iv u0, iv u1, iv u2, iv u3, iv (u0 &&& (2147483647 : Int32)), iv (u1 &&& (2147483647 : Int32)), rv b1, rv b7, rv b15, rv b43, rv b79, iv (own_dom (u0 &&& (2147483647 : Int32)) (u1 &&& (2147483647 : Int32))), .unset, .unset, .unset, .unset, .unset, .unset] [(.int (own_dom (u1 &&& (2147483647 : Int32)) (u0 &&& (2147483647 : Int32))))])) _
    refine XS.istore X124.here hx rfl (hb hby at_118) rfl (l' := #[iv u0, iv u1, iv u2, iv u3, iv (u0 &&& (2147483647 : Int32)), iv (u1 &&& (2147483647 : Int32)), rv b1, rv b7, rv b15, rv b43, rv b79, iv (own_dom (u0 &&& (2147483647 : Int32)) (u1 &&& (2147483647 : Int32))), iv (own_dom (u1 &&& (2147483647 : Int32)) (u0 &&& (2147483647 : Int32))), .unset, .unset, .unset, .unset, .unset]) rfl ?_
    show Steps p.tables e below (T124.setTop (mkF m 120 #[iv u0, iv u1, iv u2, iv u3, iv (u0 &&& (2147483647 : Int32)), iv (u1 &&& (2147483647 : Int32)), rv b1, rv b7, rv b15, rv b43, rv b79, iv (own_dom (u0 &&& (2147483647 : Int32)) (u1 &&& (2147483647 : Int32))), iv (own_dom (u1 &&& (2147483647 : Int32)) (u0 &&& (2147483647 : Int32))), .unset, .unset, .unset, .unset, .unset] [])) _
    refine XS.aload X124.here hx rfl (hb hby at_120) rfl rfl ?_
    show Steps p.tables e below (T124.setTop (mkF m 122 #[iv u0, iv u1, iv u2, iv u3, iv (u0 &&& (2147483647 : Int32)), iv (u1 &&& (2147483647 : Int32)), rv b1, rv b7, rv b15, rv b43, rv b79, iv (own_dom (u0 &&& (2147483647 : Int32)) (u1 &&& (2147483647 : Int32))), iv (own_dom (u1 &&& (2147483647 : Int32)) (u0 &&& (2147483647 : Int32))), .unset, .unset, .unset, .unset, .unset] [(.ref b15)])) _
    refine XS.aload X124.here hx rfl (hb hby at_122) rfl rfl ?_
    show Steps p.tables e below (T124.setTop (mkF m 124 #[iv u0, iv u1, iv u2, iv u3, iv (u0 &&& (2147483647 : Int32)), iv (u1 &&& (2147483647 : Int32)), rv b1, rv b7, rv b15, rv b43, rv b79, iv (own_dom (u0 &&& (2147483647 : Int32)) (u1 &&& (2147483647 : Int32))), iv (own_dom (u1 &&& (2147483647 : Int32)) (u0 &&& (2147483647 : Int32))), .unset, .unset, .unset, .unset, .unset] [(.ref b15), (.ref b15)])) _
    refine st125.trans ?_
    show Steps p.tables e below (T125.setTop (mkF m 127 #[iv u0, iv u1, iv u2, iv u3, iv (u0 &&& (2147483647 : Int32)), iv (u1 &&& (2147483647 : Int32)), rv b1, rv b7, rv b15, rv b43, rv b79, iv (own_dom (u0 &&& (2147483647 : Int32)) (u1 &&& (2147483647 : Int32))), iv (own_dom (u1 &&& (2147483647 : Int32)) (u0 &&& (2147483647 : Int32))), .unset, .unset, .unset, .unset, .unset] [(.int (own_dom (u0 &&& (2147483647 : Int32)) (u0 &&& (2147483647 : Int32))))])) _
    refine XS.istore X125.here hx rfl (hb hby at_127) rfl (l' := #[iv u0, iv u1, iv u2, iv u3, iv (u0 &&& (2147483647 : Int32)), iv (u1 &&& (2147483647 : Int32)), rv b1, rv b7, rv b15, rv b43, rv b79, iv (own_dom (u0 &&& (2147483647 : Int32)) (u1 &&& (2147483647 : Int32))), iv (own_dom (u1 &&& (2147483647 : Int32)) (u0 &&& (2147483647 : Int32))), iv (own_dom (u0 &&& (2147483647 : Int32)) (u0 &&& (2147483647 : Int32))), .unset, .unset, .unset, .unset]) rfl ?_
    show Steps p.tables e below (T125.setTop (mkF m 129 #[iv u0, iv u1, iv u2, iv u3, iv (u0 &&& (2147483647 : Int32)), iv (u1 &&& (2147483647 : Int32)), rv b1, rv b7, rv b15, rv b43, rv b79, iv (own_dom (u0 &&& (2147483647 : Int32)) (u1 &&& (2147483647 : Int32))), iv (own_dom (u1 &&& (2147483647 : Int32)) (u0 &&& (2147483647 : Int32))), iv (own_dom (u0 &&& (2147483647 : Int32)) (u0 &&& (2147483647 : Int32))), .unset, .unset, .unset, .unset] [])) _
    refine XS.aload X125.here hx rfl (hb hby at_129) rfl rfl ?_
    show Steps p.tables e below (T125.setTop (mkF m 131 #[iv u0, iv u1, iv u2, iv u3, iv (u0 &&& (2147483647 : Int32)), iv (u1 &&& (2147483647 : Int32)), rv b1, rv b7, rv b15, rv b43, rv b79, iv (own_dom (u0 &&& (2147483647 : Int32)) (u1 &&& (2147483647 : Int32))), iv (own_dom (u1 &&& (2147483647 : Int32)) (u0 &&& (2147483647 : Int32))), iv (own_dom (u0 &&& (2147483647 : Int32)) (u0 &&& (2147483647 : Int32))), .unset, .unset, .unset, .unset] [(.ref b15)])) _
    refine XS.aload X125.here hx rfl (hb hby at_131) rfl rfl ?_
    show Steps p.tables e below (T125.setTop (mkF m 133 #[iv u0, iv u1, iv u2, iv u3, iv (u0 &&& (2147483647 : Int32)), iv (u1 &&& (2147483647 : Int32)), rv b1, rv b7, rv b15, rv b43, rv b79, iv (own_dom (u0 &&& (2147483647 : Int32)) (u1 &&& (2147483647 : Int32))), iv (own_dom (u1 &&& (2147483647 : Int32)) (u0 &&& (2147483647 : Int32))), iv (own_dom (u0 &&& (2147483647 : Int32)) (u0 &&& (2147483647 : Int32))), .unset, .unset, .unset, .unset] [(.ref b79), (.ref b15)])) _
    refine st126.trans ?_
    show Steps p.tables e below (T126.setTop (mkF m 136 #[iv u0, iv u1, iv u2, iv u3, iv (u0 &&& (2147483647 : Int32)), iv (u1 &&& (2147483647 : Int32)), rv b1, rv b7, rv b15, rv b43, rv b79, iv (own_dom (u0 &&& (2147483647 : Int32)) (u1 &&& (2147483647 : Int32))), iv (own_dom (u1 &&& (2147483647 : Int32)) (u0 &&& (2147483647 : Int32))), iv (own_dom (u0 &&& (2147483647 : Int32)) (u0 &&& (2147483647 : Int32))), .unset, .unset, .unset, .unset] [(.int (own_dom (u0 &&& (2147483647 : Int32)) (u0 &&& (2147483647 : Int32))))])) _
    refine XS.istore X126.here hx rfl (hb hby at_136) rfl (l' := #[iv u0, iv u1, iv u2, iv u3, iv (u0 &&& (2147483647 : Int32)), iv (u1 &&& (2147483647 : Int32)), rv b1, rv b7, rv b15, rv b43, rv b79, iv (own_dom (u0 &&& (2147483647 : Int32)) (u1 &&& (2147483647 : Int32))), iv (own_dom (u1 &&& (2147483647 : Int32)) (u0 &&& (2147483647 : Int32))), iv (own_dom (u0 &&& (2147483647 : Int32)) (u0 &&& (2147483647 : Int32))), iv (own_dom (u0 &&& (2147483647 : Int32)) (u0 &&& (2147483647 : Int32))), .unset, .unset, .unset]) rfl ?_
    show Steps p.tables e below (T126.setTop (mkF m 138 #[iv u0, iv u1, iv u2, iv u3, iv (u0 &&& (2147483647 : Int32)), iv (u1 &&& (2147483647 : Int32)), rv b1, rv b7, rv b15, rv b43, rv b79, iv (own_dom (u0 &&& (2147483647 : Int32)) (u1 &&& (2147483647 : Int32))), iv (own_dom (u1 &&& (2147483647 : Int32)) (u0 &&& (2147483647 : Int32))), iv (own_dom (u0 &&& (2147483647 : Int32)) (u0 &&& (2147483647 : Int32))), iv (own_dom (u0 &&& (2147483647 : Int32)) (u0 &&& (2147483647 : Int32))), .unset, .unset, .unset] [])) _
    refine XS.aload X126.here hx rfl (hb hby at_138) rfl rfl ?_
    show Steps p.tables e below (T126.setTop (mkF m 140 #[iv u0, iv u1, iv u2, iv u3, iv (u0 &&& (2147483647 : Int32)), iv (u1 &&& (2147483647 : Int32)), rv b1, rv b7, rv b15, rv b43, rv b79, iv (own_dom (u0 &&& (2147483647 : Int32)) (u1 &&& (2147483647 : Int32))), iv (own_dom (u1 &&& (2147483647 : Int32)) (u0 &&& (2147483647 : Int32))), iv (own_dom (u0 &&& (2147483647 : Int32)) (u0 &&& (2147483647 : Int32))), iv (own_dom (u0 &&& (2147483647 : Int32)) (u0 &&& (2147483647 : Int32))), .unset, .unset, .unset] [(.ref b79)])) _
    refine XS.aload X126.here hx rfl (hb hby at_140) rfl rfl ?_
    show Steps p.tables e below (T126.setTop (mkF m 142 #[iv u0, iv u1, iv u2, iv u3, iv (u0 &&& (2147483647 : Int32)), iv (u1 &&& (2147483647 : Int32)), rv b1, rv b7, rv b15, rv b43, rv b79, iv (own_dom (u0 &&& (2147483647 : Int32)) (u1 &&& (2147483647 : Int32))), iv (own_dom (u1 &&& (2147483647 : Int32)) (u0 &&& (2147483647 : Int32))), iv (own_dom (u0 &&& (2147483647 : Int32)) (u0 &&& (2147483647 : Int32))), iv (own_dom (u0 &&& (2147483647 : Int32)) (u0 &&& (2147483647 : Int32))), .unset, .unset, .unset] [(.ref b15), (.ref b79)])) _
    refine st127.trans ?_
    show Steps p.tables e below (T127.setTop (mkF m 145 #[iv u0, iv u1, iv u2, iv u3, iv (u0 &&& (2147483647 : Int32)), iv (u1 &&& (2147483647 : Int32)), rv b1, rv b7, rv b15, rv b43, rv b79, iv (own_dom (u0 &&& (2147483647 : Int32)) (u1 &&& (2147483647 : Int32))), iv (own_dom (u1 &&& (2147483647 : Int32)) (u0 &&& (2147483647 : Int32))), iv (own_dom (u0 &&& (2147483647 : Int32)) (u0 &&& (2147483647 : Int32))), iv (own_dom (u0 &&& (2147483647 : Int32)) (u0 &&& (2147483647 : Int32))), .unset, .unset, .unset] [(.int (own_dom (u0 &&& (2147483647 : Int32)) (u0 &&& (2147483647 : Int32))))])) _
    refine XS.istore X127.here hx rfl (hb hby at_145) rfl (l' := #[iv u0, iv u1, iv u2, iv u3, iv (u0 &&& (2147483647 : Int32)), iv (u1 &&& (2147483647 : Int32)), rv b1, rv b7, rv b15, rv b43, rv b79, iv (own_dom (u0 &&& (2147483647 : Int32)) (u1 &&& (2147483647 : Int32))), iv (own_dom (u1 &&& (2147483647 : Int32)) (u0 &&& (2147483647 : Int32))), iv (own_dom (u0 &&& (2147483647 : Int32)) (u0 &&& (2147483647 : Int32))), iv (own_dom (u0 &&& (2147483647 : Int32)) (u0 &&& (2147483647 : Int32))), iv (own_dom (u0 &&& (2147483647 : Int32)) (u0 &&& (2147483647 : Int32))), .unset, .unset]) rfl ?_
    show Steps p.tables e below (T127.setTop (mkF m 147 #[iv u0, iv u1, iv u2, iv u3, iv (u0 &&& (2147483647 : Int32)), iv (u1 &&& (2147483647 : Int32)), rv b1, rv b7, rv b15, rv b43, rv b79, iv (own_dom (u0 &&& (2147483647 : Int32)) (u1 &&& (2147483647 : Int32))), iv (own_dom (u1 &&& (2147483647 : Int32)) (u0 &&& (2147483647 : Int32))), iv (own_dom (u0 &&& (2147483647 : Int32)) (u0 &&& (2147483647 : Int32))), iv (own_dom (u0 &&& (2147483647 : Int32)) (u0 &&& (2147483647 : Int32))), iv (own_dom (u0 &&& (2147483647 : Int32)) (u0 &&& (2147483647 : Int32))), .unset, .unset] [])) _
    refine XS.iload X127.here hx rfl (hb hby at_147) rfl ?_
    show Steps p.tables e below (T127.setTop (mkF m 149 #[iv u0, iv u1, iv u2, iv u3, iv (u0 &&& (2147483647 : Int32)), iv (u1 &&& (2147483647 : Int32)), rv b1, rv b7, rv b15, rv b43, rv b79, iv (own_dom (u0 &&& (2147483647 : Int32)) (u1 &&& (2147483647 : Int32))), iv (own_dom (u1 &&& (2147483647 : Int32)) (u0 &&& (2147483647 : Int32))), iv (own_dom (u0 &&& (2147483647 : Int32)) (u0 &&& (2147483647 : Int32))), iv (own_dom (u0 &&& (2147483647 : Int32)) (u0 &&& (2147483647 : Int32))), iv (own_dom (u0 &&& (2147483647 : Int32)) (u0 &&& (2147483647 : Int32))), .unset, .unset] [(.int (u0 &&& (2147483647 : Int32)))])) _
    refine XS.iload X127.here hx rfl (hb hby at_149) rfl ?_
    exact k
  obtain ⟨rb, e_rb⟩ : ∃ z : Int32, z = (if (u0 &&& (2147483647 : Int32)) < (u1 &&& (2147483647 : Int32)) then (0 : Int32) else (1 : Int32)) := ⟨_, rfl⟩
  have S130 : ∀ t, Steps p.tables e below (T127.setTop (mkF m 159 #[iv u0, iv u1, iv u2, iv u3, iv (u0 &&& (2147483647 : Int32)), iv (u1 &&& (2147483647 : Int32)), rv b1, rv b7, rv b15, rv b43, rv b79, iv (own_dom (u0 &&& (2147483647 : Int32)) (u1 &&& (2147483647 : Int32))), iv (own_dom (u1 &&& (2147483647 : Int32)) (u0 &&& (2147483647 : Int32))), iv (own_dom (u0 &&& (2147483647 : Int32)) (u0 &&& (2147483647 : Int32))), iv (own_dom (u0 &&& (2147483647 : Int32)) (u0 &&& (2147483647 : Int32))), iv (own_dom (u0 &&& (2147483647 : Int32)) (u0 &&& (2147483647 : Int32))), .unset, .unset] [(.int rb)])) t → Steps p.tables e below (s₁.setTop (entryFrame m #[(.int u0), (.int u1), (.int u2), (.int u3)] maxLocals)) t := by
    intro t k
    refine S128 t ?_
    by_cases hd129 : (u0 &&& (2147483647 : Int32)) < (u1 &&& (2147483647 : Int32))
    · skip
      rw [show rb = (0 : Int32) from by rw [e_rb, if_pos hd129]] at k
      show Steps p.tables e below (T127.setTop (mkF m 151 #[iv u0, iv u1, iv u2, iv u3, iv (u0 &&& (2147483647 : Int32)), iv (u1 &&& (2147483647 : Int32)), rv b1, rv b7, rv b15, rv b43, rv b79, iv (own_dom (u0 &&& (2147483647 : Int32)) (u1 &&& (2147483647 : Int32))), iv (own_dom (u1 &&& (2147483647 : Int32)) (u0 &&& (2147483647 : Int32))), iv (own_dom (u0 &&& (2147483647 : Int32)) (u0 &&& (2147483647 : Int32))), iv (own_dom (u0 &&& (2147483647 : Int32)) (u0 &&& (2147483647 : Int32))), iv (own_dom (u0 &&& (2147483647 : Int32)) (u0 &&& (2147483647 : Int32))), .unset, .unset] [(.int (u1 &&& (2147483647 : Int32))), (.int (u0 &&& (2147483647 : Int32)))])) _
      refine XS.icmpYes X127.here hx rfl (pc0 := 151) (pc' := 158) rfl (hb hby at_151) rfl (tlt hd129).1 (by decide) (by decide) ?_
      show Steps p.tables e below (T127.setTop (mkF m 158 #[iv u0, iv u1, iv u2, iv u3, iv (u0 &&& (2147483647 : Int32)), iv (u1 &&& (2147483647 : Int32)), rv b1, rv b7, rv b15, rv b43, rv b79, iv (own_dom (u0 &&& (2147483647 : Int32)) (u1 &&& (2147483647 : Int32))), iv (own_dom (u1 &&& (2147483647 : Int32)) (u0 &&& (2147483647 : Int32))), iv (own_dom (u0 &&& (2147483647 : Int32)) (u0 &&& (2147483647 : Int32))), iv (own_dom (u0 &&& (2147483647 : Int32)) (u0 &&& (2147483647 : Int32))), iv (own_dom (u0 &&& (2147483647 : Int32)) (u0 &&& (2147483647 : Int32))), .unset, .unset] [])) _
      refine XS.iconst X127.here hx rfl (hb hby at_158) ?_
      exact k
    · skip
      rw [show rb = (1 : Int32) from by rw [e_rb, if_neg hd129]] at k
      show Steps p.tables e below (T127.setTop (mkF m 151 #[iv u0, iv u1, iv u2, iv u3, iv (u0 &&& (2147483647 : Int32)), iv (u1 &&& (2147483647 : Int32)), rv b1, rv b7, rv b15, rv b43, rv b79, iv (own_dom (u0 &&& (2147483647 : Int32)) (u1 &&& (2147483647 : Int32))), iv (own_dom (u1 &&& (2147483647 : Int32)) (u0 &&& (2147483647 : Int32))), iv (own_dom (u0 &&& (2147483647 : Int32)) (u0 &&& (2147483647 : Int32))), iv (own_dom (u0 &&& (2147483647 : Int32)) (u0 &&& (2147483647 : Int32))), iv (own_dom (u0 &&& (2147483647 : Int32)) (u0 &&& (2147483647 : Int32))), .unset, .unset] [(.int (u1 &&& (2147483647 : Int32))), (.int (u0 &&& (2147483647 : Int32)))])) _
      refine XS.icmpNo X127.here hx rfl (hb hby at_151) rfl (flt hd129).1 ?_
      show Steps p.tables e below (T127.setTop (mkF m 154 #[iv u0, iv u1, iv u2, iv u3, iv (u0 &&& (2147483647 : Int32)), iv (u1 &&& (2147483647 : Int32)), rv b1, rv b7, rv b15, rv b43, rv b79, iv (own_dom (u0 &&& (2147483647 : Int32)) (u1 &&& (2147483647 : Int32))), iv (own_dom (u1 &&& (2147483647 : Int32)) (u0 &&& (2147483647 : Int32))), iv (own_dom (u0 &&& (2147483647 : Int32)) (u0 &&& (2147483647 : Int32))), iv (own_dom (u0 &&& (2147483647 : Int32)) (u0 &&& (2147483647 : Int32))), iv (own_dom (u0 &&& (2147483647 : Int32)) (u0 &&& (2147483647 : Int32))), .unset, .unset] [])) _
      refine XS.iconst X127.here hx rfl (hb hby at_154) ?_
      show Steps p.tables e below (T127.setTop (mkF m 155 #[iv u0, iv u1, iv u2, iv u3, iv (u0 &&& (2147483647 : Int32)), iv (u1 &&& (2147483647 : Int32)), rv b1, rv b7, rv b15, rv b43, rv b79, iv (own_dom (u0 &&& (2147483647 : Int32)) (u1 &&& (2147483647 : Int32))), iv (own_dom (u1 &&& (2147483647 : Int32)) (u0 &&& (2147483647 : Int32))), iv (own_dom (u0 &&& (2147483647 : Int32)) (u0 &&& (2147483647 : Int32))), iv (own_dom (u0 &&& (2147483647 : Int32)) (u0 &&& (2147483647 : Int32))), iv (own_dom (u0 &&& (2147483647 : Int32)) (u0 &&& (2147483647 : Int32))), .unset, .unset] [(.int (1 : Int32))])) _
      refine XS.goto X127.here hx rfl (pc0 := 155) (pc' := 159) rfl (hb hby at_155) (by decide) (by decide) ?_
      exact k
  have S131 : ∀ t, Steps p.tables e below (T127.setTop (mkF m 165 #[iv u0, iv u1, iv u2, iv u3, iv (u0 &&& (2147483647 : Int32)), iv (u1 &&& (2147483647 : Int32)), rv b1, rv b7, rv b15, rv b43, rv b79, iv (own_dom (u0 &&& (2147483647 : Int32)) (u1 &&& (2147483647 : Int32))), iv (own_dom (u1 &&& (2147483647 : Int32)) (u0 &&& (2147483647 : Int32))), iv (own_dom (u0 &&& (2147483647 : Int32)) (u0 &&& (2147483647 : Int32))), iv (own_dom (u0 &&& (2147483647 : Int32)) (u0 &&& (2147483647 : Int32))), iv (own_dom (u0 &&& (2147483647 : Int32)) (u0 &&& (2147483647 : Int32))), iv rb, .unset] [(.int (u0 &&& (2147483647 : Int32))), (.int (u1 &&& (2147483647 : Int32)))])) t → Steps p.tables e below (s₁.setTop (entryFrame m #[(.int u0), (.int u1), (.int u2), (.int u3)] maxLocals)) t := by
    intro t k
    refine S130 t ?_
    show Steps p.tables e below (T127.setTop (mkF m 159 #[iv u0, iv u1, iv u2, iv u3, iv (u0 &&& (2147483647 : Int32)), iv (u1 &&& (2147483647 : Int32)), rv b1, rv b7, rv b15, rv b43, rv b79, iv (own_dom (u0 &&& (2147483647 : Int32)) (u1 &&& (2147483647 : Int32))), iv (own_dom (u1 &&& (2147483647 : Int32)) (u0 &&& (2147483647 : Int32))), iv (own_dom (u0 &&& (2147483647 : Int32)) (u0 &&& (2147483647 : Int32))), iv (own_dom (u0 &&& (2147483647 : Int32)) (u0 &&& (2147483647 : Int32))), iv (own_dom (u0 &&& (2147483647 : Int32)) (u0 &&& (2147483647 : Int32))), .unset, .unset] [(.int rb)])) _
    refine XS.istore X127.here hx rfl (hb hby at_159) rfl (l' := #[iv u0, iv u1, iv u2, iv u3, iv (u0 &&& (2147483647 : Int32)), iv (u1 &&& (2147483647 : Int32)), rv b1, rv b7, rv b15, rv b43, rv b79, iv (own_dom (u0 &&& (2147483647 : Int32)) (u1 &&& (2147483647 : Int32))), iv (own_dom (u1 &&& (2147483647 : Int32)) (u0 &&& (2147483647 : Int32))), iv (own_dom (u0 &&& (2147483647 : Int32)) (u0 &&& (2147483647 : Int32))), iv (own_dom (u0 &&& (2147483647 : Int32)) (u0 &&& (2147483647 : Int32))), iv (own_dom (u0 &&& (2147483647 : Int32)) (u0 &&& (2147483647 : Int32))), iv rb, .unset]) rfl ?_
    show Steps p.tables e below (T127.setTop (mkF m 161 #[iv u0, iv u1, iv u2, iv u3, iv (u0 &&& (2147483647 : Int32)), iv (u1 &&& (2147483647 : Int32)), rv b1, rv b7, rv b15, rv b43, rv b79, iv (own_dom (u0 &&& (2147483647 : Int32)) (u1 &&& (2147483647 : Int32))), iv (own_dom (u1 &&& (2147483647 : Int32)) (u0 &&& (2147483647 : Int32))), iv (own_dom (u0 &&& (2147483647 : Int32)) (u0 &&& (2147483647 : Int32))), iv (own_dom (u0 &&& (2147483647 : Int32)) (u0 &&& (2147483647 : Int32))), iv (own_dom (u0 &&& (2147483647 : Int32)) (u0 &&& (2147483647 : Int32))), iv rb, .unset] [])) _
    refine XS.iload X127.here hx rfl (hb hby at_161) rfl ?_
    show Steps p.tables e below (T127.setTop (mkF m 163 #[iv u0, iv u1, iv u2, iv u3, iv (u0 &&& (2147483647 : Int32)), iv (u1 &&& (2147483647 : Int32)), rv b1, rv b7, rv b15, rv b43, rv b79, iv (own_dom (u0 &&& (2147483647 : Int32)) (u1 &&& (2147483647 : Int32))), iv (own_dom (u1 &&& (2147483647 : Int32)) (u0 &&& (2147483647 : Int32))), iv (own_dom (u0 &&& (2147483647 : Int32)) (u0 &&& (2147483647 : Int32))), iv (own_dom (u0 &&& (2147483647 : Int32)) (u0 &&& (2147483647 : Int32))), iv (own_dom (u0 &&& (2147483647 : Int32)) (u0 &&& (2147483647 : Int32))), iv rb, .unset] [(.int (u1 &&& (2147483647 : Int32)))])) _
    refine XS.iload X127.here hx rfl (hb hby at_163) rfl ?_
    exact k
  obtain ⟨rc, e_rc⟩ : ∃ z : Int32, z = (if (u1 &&& (2147483647 : Int32)) < (u0 &&& (2147483647 : Int32)) then (0 : Int32) else (1 : Int32)) := ⟨_, rfl⟩
  have S133 : ∀ t, Steps p.tables e below (T127.setTop (mkF m 173 #[iv u0, iv u1, iv u2, iv u3, iv (u0 &&& (2147483647 : Int32)), iv (u1 &&& (2147483647 : Int32)), rv b1, rv b7, rv b15, rv b43, rv b79, iv (own_dom (u0 &&& (2147483647 : Int32)) (u1 &&& (2147483647 : Int32))), iv (own_dom (u1 &&& (2147483647 : Int32)) (u0 &&& (2147483647 : Int32))), iv (own_dom (u0 &&& (2147483647 : Int32)) (u0 &&& (2147483647 : Int32))), iv (own_dom (u0 &&& (2147483647 : Int32)) (u0 &&& (2147483647 : Int32))), iv (own_dom (u0 &&& (2147483647 : Int32)) (u0 &&& (2147483647 : Int32))), iv rb, .unset] [(.int rc)])) t → Steps p.tables e below (s₁.setTop (entryFrame m #[(.int u0), (.int u1), (.int u2), (.int u3)] maxLocals)) t := by
    intro t k
    refine S131 t ?_
    by_cases hd132 : (u1 &&& (2147483647 : Int32)) < (u0 &&& (2147483647 : Int32))
    · skip
      rw [show rc = (0 : Int32) from by rw [e_rc, if_pos hd132]] at k
      show Steps p.tables e below (T127.setTop (mkF m 165 #[iv u0, iv u1, iv u2, iv u3, iv (u0 &&& (2147483647 : Int32)), iv (u1 &&& (2147483647 : Int32)), rv b1, rv b7, rv b15, rv b43, rv b79, iv (own_dom (u0 &&& (2147483647 : Int32)) (u1 &&& (2147483647 : Int32))), iv (own_dom (u1 &&& (2147483647 : Int32)) (u0 &&& (2147483647 : Int32))), iv (own_dom (u0 &&& (2147483647 : Int32)) (u0 &&& (2147483647 : Int32))), iv (own_dom (u0 &&& (2147483647 : Int32)) (u0 &&& (2147483647 : Int32))), iv (own_dom (u0 &&& (2147483647 : Int32)) (u0 &&& (2147483647 : Int32))), iv rb, .unset] [(.int (u0 &&& (2147483647 : Int32))), (.int (u1 &&& (2147483647 : Int32)))])) _
      refine XS.icmpYes X127.here hx rfl (pc0 := 165) (pc' := 172) rfl (hb hby at_165) rfl (tlt hd132).1 (by decide) (by decide) ?_
      show Steps p.tables e below (T127.setTop (mkF m 172 #[iv u0, iv u1, iv u2, iv u3, iv (u0 &&& (2147483647 : Int32)), iv (u1 &&& (2147483647 : Int32)), rv b1, rv b7, rv b15, rv b43, rv b79, iv (own_dom (u0 &&& (2147483647 : Int32)) (u1 &&& (2147483647 : Int32))), iv (own_dom (u1 &&& (2147483647 : Int32)) (u0 &&& (2147483647 : Int32))), iv (own_dom (u0 &&& (2147483647 : Int32)) (u0 &&& (2147483647 : Int32))), iv (own_dom (u0 &&& (2147483647 : Int32)) (u0 &&& (2147483647 : Int32))), iv (own_dom (u0 &&& (2147483647 : Int32)) (u0 &&& (2147483647 : Int32))), iv rb, .unset] [])) _
      refine XS.iconst X127.here hx rfl (hb hby at_172) ?_
      exact k
    · skip
      rw [show rc = (1 : Int32) from by rw [e_rc, if_neg hd132]] at k
      show Steps p.tables e below (T127.setTop (mkF m 165 #[iv u0, iv u1, iv u2, iv u3, iv (u0 &&& (2147483647 : Int32)), iv (u1 &&& (2147483647 : Int32)), rv b1, rv b7, rv b15, rv b43, rv b79, iv (own_dom (u0 &&& (2147483647 : Int32)) (u1 &&& (2147483647 : Int32))), iv (own_dom (u1 &&& (2147483647 : Int32)) (u0 &&& (2147483647 : Int32))), iv (own_dom (u0 &&& (2147483647 : Int32)) (u0 &&& (2147483647 : Int32))), iv (own_dom (u0 &&& (2147483647 : Int32)) (u0 &&& (2147483647 : Int32))), iv (own_dom (u0 &&& (2147483647 : Int32)) (u0 &&& (2147483647 : Int32))), iv rb, .unset] [(.int (u0 &&& (2147483647 : Int32))), (.int (u1 &&& (2147483647 : Int32)))])) _
      refine XS.icmpNo X127.here hx rfl (hb hby at_165) rfl (flt hd132).1 ?_
      show Steps p.tables e below (T127.setTop (mkF m 168 #[iv u0, iv u1, iv u2, iv u3, iv (u0 &&& (2147483647 : Int32)), iv (u1 &&& (2147483647 : Int32)), rv b1, rv b7, rv b15, rv b43, rv b79, iv (own_dom (u0 &&& (2147483647 : Int32)) (u1 &&& (2147483647 : Int32))), iv (own_dom (u1 &&& (2147483647 : Int32)) (u0 &&& (2147483647 : Int32))), iv (own_dom (u0 &&& (2147483647 : Int32)) (u0 &&& (2147483647 : Int32))), iv (own_dom (u0 &&& (2147483647 : Int32)) (u0 &&& (2147483647 : Int32))), iv (own_dom (u0 &&& (2147483647 : Int32)) (u0 &&& (2147483647 : Int32))), iv rb, .unset] [])) _
      refine XS.iconst X127.here hx rfl (hb hby at_168) ?_
      show Steps p.tables e below (T127.setTop (mkF m 169 #[iv u0, iv u1, iv u2, iv u3, iv (u0 &&& (2147483647 : Int32)), iv (u1 &&& (2147483647 : Int32)), rv b1, rv b7, rv b15, rv b43, rv b79, iv (own_dom (u0 &&& (2147483647 : Int32)) (u1 &&& (2147483647 : Int32))), iv (own_dom (u1 &&& (2147483647 : Int32)) (u0 &&& (2147483647 : Int32))), iv (own_dom (u0 &&& (2147483647 : Int32)) (u0 &&& (2147483647 : Int32))), iv (own_dom (u0 &&& (2147483647 : Int32)) (u0 &&& (2147483647 : Int32))), iv (own_dom (u0 &&& (2147483647 : Int32)) (u0 &&& (2147483647 : Int32))), iv rb, .unset] [(.int (1 : Int32))])) _
      refine XS.goto X127.here hx rfl (pc0 := 169) (pc' := 173) rfl (hb hby at_169) (by decide) (by decide) ?_
      exact k
  obtain ⟨fs, hr, hrun, hended, hW, hsame⟩ := X127.leave (v := some (.int (1 : Int32))) (fun h => by rw [Bd.returns] at h; cases h)
  refine ⟨_, _, S133 _ ?_, hrun, hended, _, _, rfl, ?_, ⟨_, rfl⟩, hW, hsame.mono (by decide) (by decide)⟩
  · skip
    show Steps p.tables e below (T127.setTop (mkF m 173 #[iv u0, iv u1, iv u2, iv u3, iv (u0 &&& (2147483647 : Int32)), iv (u1 &&& (2147483647 : Int32)), rv b1, rv b7, rv b15, rv b43, rv b79, iv (own_dom (u0 &&& (2147483647 : Int32)) (u1 &&& (2147483647 : Int32))), iv (own_dom (u1 &&& (2147483647 : Int32)) (u0 &&& (2147483647 : Int32))), iv (own_dom (u0 &&& (2147483647 : Int32)) (u0 &&& (2147483647 : Int32))), iv (own_dom (u0 &&& (2147483647 : Int32)) (u0 &&& (2147483647 : Int32))), iv (own_dom (u0 &&& (2147483647 : Int32)) (u0 &&& (2147483647 : Int32))), iv rb, .unset] [(.int rc)])) _
    refine XS.istore X127.here hx rfl (hb hby at_173) rfl (l' := #[iv u0, iv u1, iv u2, iv u3, iv (u0 &&& (2147483647 : Int32)), iv (u1 &&& (2147483647 : Int32)), rv b1, rv b7, rv b15, rv b43, rv b79, iv (own_dom (u0 &&& (2147483647 : Int32)) (u1 &&& (2147483647 : Int32))), iv (own_dom (u1 &&& (2147483647 : Int32)) (u0 &&& (2147483647 : Int32))), iv (own_dom (u0 &&& (2147483647 : Int32)) (u0 &&& (2147483647 : Int32))), iv (own_dom (u0 &&& (2147483647 : Int32)) (u0 &&& (2147483647 : Int32))), iv (own_dom (u0 &&& (2147483647 : Int32)) (u0 &&& (2147483647 : Int32))), iv rb, iv rc]) rfl ?_
    show Steps p.tables e below (T127.setTop (mkF m 175 #[iv u0, iv u1, iv u2, iv u3, iv (u0 &&& (2147483647 : Int32)), iv (u1 &&& (2147483647 : Int32)), rv b1, rv b7, rv b15, rv b43, rv b79, iv (own_dom (u0 &&& (2147483647 : Int32)) (u1 &&& (2147483647 : Int32))), iv (own_dom (u1 &&& (2147483647 : Int32)) (u0 &&& (2147483647 : Int32))), iv (own_dom (u0 &&& (2147483647 : Int32)) (u0 &&& (2147483647 : Int32))), iv (own_dom (u0 &&& (2147483647 : Int32)) (u0 &&& (2147483647 : Int32))), iv (own_dom (u0 &&& (2147483647 : Int32)) (u0 &&& (2147483647 : Int32))), iv rb, iv rc] [])) _
    refine XS.iload X127.here hx rfl (hb hby at_175) rfl ?_
    show Steps p.tables e below (T127.setTop (mkF m 177 #[iv u0, iv u1, iv u2, iv u3, iv (u0 &&& (2147483647 : Int32)), iv (u1 &&& (2147483647 : Int32)), rv b1, rv b7, rv b15, rv b43, rv b79, iv (own_dom (u0 &&& (2147483647 : Int32)) (u1 &&& (2147483647 : Int32))), iv (own_dom (u1 &&& (2147483647 : Int32)) (u0 &&& (2147483647 : Int32))), iv (own_dom (u0 &&& (2147483647 : Int32)) (u0 &&& (2147483647 : Int32))), iv (own_dom (u0 &&& (2147483647 : Int32)) (u0 &&& (2147483647 : Int32))), iv (own_dom (u0 &&& (2147483647 : Int32)) (u0 &&& (2147483647 : Int32))), iv rb, iv rc] [(.int (own_dom (u0 &&& (2147483647 : Int32)) (u1 &&& (2147483647 : Int32))))])) _
    refine XS.iload X127.here hx rfl (hb hby at_177) rfl ?_
    show Steps p.tables e below (T127.setTop (mkF m 179 #[iv u0, iv u1, iv u2, iv u3, iv (u0 &&& (2147483647 : Int32)), iv (u1 &&& (2147483647 : Int32)), rv b1, rv b7, rv b15, rv b43, rv b79, iv (own_dom (u0 &&& (2147483647 : Int32)) (u1 &&& (2147483647 : Int32))), iv (own_dom (u1 &&& (2147483647 : Int32)) (u0 &&& (2147483647 : Int32))), iv (own_dom (u0 &&& (2147483647 : Int32)) (u0 &&& (2147483647 : Int32))), iv (own_dom (u0 &&& (2147483647 : Int32)) (u0 &&& (2147483647 : Int32))), iv (own_dom (u0 &&& (2147483647 : Int32)) (u0 &&& (2147483647 : Int32))), iv rb, iv rc] [(.int rb), (.int (own_dom (u0 &&& (2147483647 : Int32)) (u1 &&& (2147483647 : Int32))))])) _
    refine XS.icmpNo X127.here hx rfl (hb hby at_179) rfl (teq (by rw [e_rb]; rfl)).2 ?_
    show Steps p.tables e below (T127.setTop (mkF m 182 #[iv u0, iv u1, iv u2, iv u3, iv (u0 &&& (2147483647 : Int32)), iv (u1 &&& (2147483647 : Int32)), rv b1, rv b7, rv b15, rv b43, rv b79, iv (own_dom (u0 &&& (2147483647 : Int32)) (u1 &&& (2147483647 : Int32))), iv (own_dom (u1 &&& (2147483647 : Int32)) (u0 &&& (2147483647 : Int32))), iv (own_dom (u0 &&& (2147483647 : Int32)) (u0 &&& (2147483647 : Int32))), iv (own_dom (u0 &&& (2147483647 : Int32)) (u0 &&& (2147483647 : Int32))), iv (own_dom (u0 &&& (2147483647 : Int32)) (u0 &&& (2147483647 : Int32))), iv rb, iv rc] [])) _
    refine XS.iload X127.here hx rfl (hb hby at_182) rfl ?_
    show Steps p.tables e below (T127.setTop (mkF m 184 #[iv u0, iv u1, iv u2, iv u3, iv (u0 &&& (2147483647 : Int32)), iv (u1 &&& (2147483647 : Int32)), rv b1, rv b7, rv b15, rv b43, rv b79, iv (own_dom (u0 &&& (2147483647 : Int32)) (u1 &&& (2147483647 : Int32))), iv (own_dom (u1 &&& (2147483647 : Int32)) (u0 &&& (2147483647 : Int32))), iv (own_dom (u0 &&& (2147483647 : Int32)) (u0 &&& (2147483647 : Int32))), iv (own_dom (u0 &&& (2147483647 : Int32)) (u0 &&& (2147483647 : Int32))), iv (own_dom (u0 &&& (2147483647 : Int32)) (u0 &&& (2147483647 : Int32))), iv rb, iv rc] [(.int (own_dom (u1 &&& (2147483647 : Int32)) (u0 &&& (2147483647 : Int32))))])) _
    refine XS.iload X127.here hx rfl (hb hby at_184) rfl ?_
    show Steps p.tables e below (T127.setTop (mkF m 186 #[iv u0, iv u1, iv u2, iv u3, iv (u0 &&& (2147483647 : Int32)), iv (u1 &&& (2147483647 : Int32)), rv b1, rv b7, rv b15, rv b43, rv b79, iv (own_dom (u0 &&& (2147483647 : Int32)) (u1 &&& (2147483647 : Int32))), iv (own_dom (u1 &&& (2147483647 : Int32)) (u0 &&& (2147483647 : Int32))), iv (own_dom (u0 &&& (2147483647 : Int32)) (u0 &&& (2147483647 : Int32))), iv (own_dom (u0 &&& (2147483647 : Int32)) (u0 &&& (2147483647 : Int32))), iv (own_dom (u0 &&& (2147483647 : Int32)) (u0 &&& (2147483647 : Int32))), iv rb, iv rc] [(.int rc), (.int (own_dom (u1 &&& (2147483647 : Int32)) (u0 &&& (2147483647 : Int32))))])) _
    refine XS.icmpNo X127.here hx rfl (hb hby at_186) rfl (teq (by rw [e_rc]; rfl)).2 ?_
    show Steps p.tables e below (T127.setTop (mkF m 189 #[iv u0, iv u1, iv u2, iv u3, iv (u0 &&& (2147483647 : Int32)), iv (u1 &&& (2147483647 : Int32)), rv b1, rv b7, rv b15, rv b43, rv b79, iv (own_dom (u0 &&& (2147483647 : Int32)) (u1 &&& (2147483647 : Int32))), iv (own_dom (u1 &&& (2147483647 : Int32)) (u0 &&& (2147483647 : Int32))), iv (own_dom (u0 &&& (2147483647 : Int32)) (u0 &&& (2147483647 : Int32))), iv (own_dom (u0 &&& (2147483647 : Int32)) (u0 &&& (2147483647 : Int32))), iv (own_dom (u0 &&& (2147483647 : Int32)) (u0 &&& (2147483647 : Int32))), iv rb, iv rc] [])) _
    refine XS.iload X127.here hx rfl (hb hby at_189) rfl ?_
    show Steps p.tables e below (T127.setTop (mkF m 191 #[iv u0, iv u1, iv u2, iv u3, iv (u0 &&& (2147483647 : Int32)), iv (u1 &&& (2147483647 : Int32)), rv b1, rv b7, rv b15, rv b43, rv b79, iv (own_dom (u0 &&& (2147483647 : Int32)) (u1 &&& (2147483647 : Int32))), iv (own_dom (u1 &&& (2147483647 : Int32)) (u0 &&& (2147483647 : Int32))), iv (own_dom (u0 &&& (2147483647 : Int32)) (u0 &&& (2147483647 : Int32))), iv (own_dom (u0 &&& (2147483647 : Int32)) (u0 &&& (2147483647 : Int32))), iv (own_dom (u0 &&& (2147483647 : Int32)) (u0 &&& (2147483647 : Int32))), iv rb, iv rc] [(.int (own_dom (u0 &&& (2147483647 : Int32)) (u0 &&& (2147483647 : Int32))))])) _
    refine XS.ifNo X127.here hx rfl (hb hby at_191) rfl ((if0 _ _).trans (feq (by rw [own_doms]; decide)).1) ?_
    show Steps p.tables e below (T127.setTop (mkF m 194 #[iv u0, iv u1, iv u2, iv u3, iv (u0 &&& (2147483647 : Int32)), iv (u1 &&& (2147483647 : Int32)), rv b1, rv b7, rv b15, rv b43, rv b79, iv (own_dom (u0 &&& (2147483647 : Int32)) (u1 &&& (2147483647 : Int32))), iv (own_dom (u1 &&& (2147483647 : Int32)) (u0 &&& (2147483647 : Int32))), iv (own_dom (u0 &&& (2147483647 : Int32)) (u0 &&& (2147483647 : Int32))), iv (own_dom (u0 &&& (2147483647 : Int32)) (u0 &&& (2147483647 : Int32))), iv (own_dom (u0 &&& (2147483647 : Int32)) (u0 &&& (2147483647 : Int32))), iv rb, iv rc] [])) _
    refine XS.iload X127.here hx rfl (hb hby at_194) rfl ?_
    show Steps p.tables e below (T127.setTop (mkF m 196 #[iv u0, iv u1, iv u2, iv u3, iv (u0 &&& (2147483647 : Int32)), iv (u1 &&& (2147483647 : Int32)), rv b1, rv b7, rv b15, rv b43, rv b79, iv (own_dom (u0 &&& (2147483647 : Int32)) (u1 &&& (2147483647 : Int32))), iv (own_dom (u1 &&& (2147483647 : Int32)) (u0 &&& (2147483647 : Int32))), iv (own_dom (u0 &&& (2147483647 : Int32)) (u0 &&& (2147483647 : Int32))), iv (own_dom (u0 &&& (2147483647 : Int32)) (u0 &&& (2147483647 : Int32))), iv (own_dom (u0 &&& (2147483647 : Int32)) (u0 &&& (2147483647 : Int32))), iv rb, iv rc] [(.int (own_dom (u0 &&& (2147483647 : Int32)) (u0 &&& (2147483647 : Int32))))])) _
    refine XS.ifNo X127.here hx rfl (hb hby at_196) rfl ((if0 _ _).trans (feq (by rw [own_doms]; decide)).1) ?_
    show Steps p.tables e below (T127.setTop (mkF m 199 #[iv u0, iv u1, iv u2, iv u3, iv (u0 &&& (2147483647 : Int32)), iv (u1 &&& (2147483647 : Int32)), rv b1, rv b7, rv b15, rv b43, rv b79, iv (own_dom (u0 &&& (2147483647 : Int32)) (u1 &&& (2147483647 : Int32))), iv (own_dom (u1 &&& (2147483647 : Int32)) (u0 &&& (2147483647 : Int32))), iv (own_dom (u0 &&& (2147483647 : Int32)) (u0 &&& (2147483647 : Int32))), iv (own_dom (u0 &&& (2147483647 : Int32)) (u0 &&& (2147483647 : Int32))), iv (own_dom (u0 &&& (2147483647 : Int32)) (u0 &&& (2147483647 : Int32))), iv rb, iv rc] [])) _
    refine XS.iload X127.here hx rfl (hb hby at_199) rfl ?_
    show Steps p.tables e below (T127.setTop (mkF m 201 #[iv u0, iv u1, iv u2, iv u3, iv (u0 &&& (2147483647 : Int32)), iv (u1 &&& (2147483647 : Int32)), rv b1, rv b7, rv b15, rv b43, rv b79, iv (own_dom (u0 &&& (2147483647 : Int32)) (u1 &&& (2147483647 : Int32))), iv (own_dom (u1 &&& (2147483647 : Int32)) (u0 &&& (2147483647 : Int32))), iv (own_dom (u0 &&& (2147483647 : Int32)) (u0 &&& (2147483647 : Int32))), iv (own_dom (u0 &&& (2147483647 : Int32)) (u0 &&& (2147483647 : Int32))), iv (own_dom (u0 &&& (2147483647 : Int32)) (u0 &&& (2147483647 : Int32))), iv rb, iv rc] [(.int (own_dom (u0 &&& (2147483647 : Int32)) (u0 &&& (2147483647 : Int32))))])) _
    refine XS.ifNo X127.here hx rfl (hb hby at_201) rfl ((if0 _ _).trans (feq (by rw [own_doms]; decide)).1) ?_
    show Steps p.tables e below (T127.setTop (mkF m 204 #[iv u0, iv u1, iv u2, iv u3, iv (u0 &&& (2147483647 : Int32)), iv (u1 &&& (2147483647 : Int32)), rv b1, rv b7, rv b15, rv b43, rv b79, iv (own_dom (u0 &&& (2147483647 : Int32)) (u1 &&& (2147483647 : Int32))), iv (own_dom (u1 &&& (2147483647 : Int32)) (u0 &&& (2147483647 : Int32))), iv (own_dom (u0 &&& (2147483647 : Int32)) (u0 &&& (2147483647 : Int32))), iv (own_dom (u0 &&& (2147483647 : Int32)) (u0 &&& (2147483647 : Int32))), iv (own_dom (u0 &&& (2147483647 : Int32)) (u0 &&& (2147483647 : Int32))), iv rb, iv rc] [])) _
    refine XS.iconst X127.here hx rfl (hb hby at_204) ?_
    show Steps p.tables e below (T127.setTop (mkF m 205 #[iv u0, iv u1, iv u2, iv u3, iv (u0 &&& (2147483647 : Int32)), iv (u1 &&& (2147483647 : Int32)), rv b1, rv b7, rv b15, rv b43, rv b79, iv (own_dom (u0 &&& (2147483647 : Int32)) (u1 &&& (2147483647 : Int32))), iv (own_dom (u1 &&& (2147483647 : Int32)) (u0 &&& (2147483647 : Int32))), iv (own_dom (u0 &&& (2147483647 : Int32)) (u0 &&& (2147483647 : Int32))), iv (own_dom (u0 &&& (2147483647 : Int32)) (u0 &&& (2147483647 : Int32))), iv (own_dom (u0 &&& (2147483647 : Int32)) (u0 &&& (2147483647 : Int32))), iv rb, iv rc] [(.int (1 : Int32))])) _
    refine XS.goto X127.here hx rfl (pc0 := 205) (pc' := 209) rfl (hb hby at_205) (by decide) (by decide) ?_
    show Steps p.tables e below (T127.setTop (mkF m 209 #[iv u0, iv u1, iv u2, iv u3, iv (u0 &&& (2147483647 : Int32)), iv (u1 &&& (2147483647 : Int32)), rv b1, rv b7, rv b15, rv b43, rv b79, iv (own_dom (u0 &&& (2147483647 : Int32)) (u1 &&& (2147483647 : Int32))), iv (own_dom (u1 &&& (2147483647 : Int32)) (u0 &&& (2147483647 : Int32))), iv (own_dom (u0 &&& (2147483647 : Int32)) (u0 &&& (2147483647 : Int32))), iv (own_dom (u0 &&& (2147483647 : Int32)) (u0 &&& (2147483647 : Int32))), iv (own_dom (u0 &&& (2147483647 : Int32)) (u0 &&& (2147483647 : Int32))), iv rb, iv rc] [(.int (1 : Int32))])) _
    exact retN X127 hx (t := .boolean) Bd.returns (by simp) (hb hby at_209) hr
  · show Q0 Z u0 u1 u2 u3 G1 h0 n0 _ T127.heap _
    rw [eq127]
    exact ⟨rfl, N127⟩
set_option maxRecDepth 65536 in
set_option maxHeartbeats 40000000 in
theorem comes_1 {Post : Tables → Env → Array Value → State → Outcome → State → Prop} (hpost : ∀ tb e args s v u, (limb_1_1.after args s (.returned v) u = true ∧ limb_1_2.after args s (.returned v) u = true ∧ True) → FrameEnd s (.returned v) u (Jvm.fieldLocs frame_1_writes args s ++ Jvm.arrayLocs frame_1_arrays args s ++ Jvm.staticLocs frame_1_statics s) 32 128 → Post tb e args s (.returned v) u) :
    ArmFor flags0 classFile x code maxLocals ret World_1 tables_1 room_1 Calls_1 rest_1 Pre_1 Post := by
  intro l hfl _ _ p e ha hc hk s m args below hf hA hF happ hP
  obtain ⟨hcalls, hrest, hpre⟩ := hP
  obtain ⟨-, -, -, hnamed, -, -, -, hat⟩ := (Spec.applies_iff hf).mp happ
  obtain ⟨hg, hn⟩ := and_e (Cond.before_iff.mp (show (Jvm.Cond.and given_1 narrow_1).before args s = true from hpre))
  obtain ⟨g1, g2⟩ := and_e hg
  obtain ⟨g3, g4⟩ := and_e g2
  obtain ⟨g5, g6⟩ := and_e g4
  obtain ⟨g7, g8⟩ := and_e g6
  obtain ⟨w0, w1, w2, w3, rfl⟩ : ∃ w0 w1 w2 w3 : Value, args = #[w0, w1, w2, w3] := by
    have hs : args.size = 4 := by simpa [Cond.value, given_1] using g1
    obtain ⟨L⟩ := args
    match L, hs with
    | [w0, w1, w2, w3], _ => exact ⟨w0, w1, w2, w3, rfl⟩
  have hw := fun d (hd : d ∈ tables_1) => atoms_spec (ws := Jvm.Cond.code x code maxLocals ret :: tables_1) hat d (List.mem_cons_of_mem _ hd)
  have hfit : Fit s := fun {y c} hc i hi => by
    obtain ⟨ha, rfl⟩ := Array.getElem?_eq_some_iff.mp hc
    have q := List.all_eq_true.mp ((Array.all_eq_true_iff_forall_mem.mp hF) _ (Array.getElem_mem ha)) i (List.mem_range.mpr hi)
    simpa [Array.getElem?_eq_getElem hi] using q
  obtain ⟨hsets, hown0⟩ := atoms_of _ (rest_1_c_eq ▸ (show rest_1_c.before _ s = true from hrest))
  have hr0 := Cond.before_iff.mp hown0
  obtain ⟨i0, ei0⟩ := is_v g3
  obtain rfl : w0 = (.int i0) := Option.some.inj ei0
  obtain ⟨i1, ei1⟩ := is_v g5
  obtain rfl : w1 = (.int i1) := Option.some.inj ei1
  obtain ⟨i2, ei2⟩ := is_v g7
  obtain rfl : w2 = (.int i2) := Option.some.inj ei2
  obtain ⟨i3, ei3⟩ := is_v g8
  obtain rfl : w3 = (.int i3) := Option.some.inj ei3
  have n3 := not_v (Cond.before_iff.mp (hsets _ (List.mem_of_getElem? (i := 2) rfl)))
  obtain ⟨G1, e6⟩ := is_v (Cond.before_iff.mp (hsets _ (List.mem_of_getElem? (i := 1) rfl)))
  have S8 : Sta s s.heap "java/lang/String" "COMPACT_STRINGS" "Z" (.int G1) := Sta.start e6 (Or.inl (hsets _ (List.mem_of_getElem? (i := 0) rfl)))
  have c9 : ¬ (G1 = (0 : Int32)) := gotF (Cond.eq_ints e6 (Term.int_eval (0))) n3
  obtain ⟨n, o, h1, h2, h3, _, L, rfl, ⟨rfl, N⟩, hq⟩ := rm0 l s _ hw tables_1 i0 i1 i2 i3 G1 s.heap s.heap.size (Nat.le_refl _) S8 c9 (Old.start s) p e ha hc hk s m _ below hf ((Spec.applies_iff_loose hf).mp happ).1 ⟨rfl, State.Warmed39.refl s, rfl⟩ trivial
  refine ⟨n, _, h1, h2, h3, hpost _ _ _ _ _ _ ⟨Cond.after_iff.mpr rfl, Cond.after_iff.mpr (eq_i res_at (Term.int_eval (1)) rfl), trivial⟩ ⟨hq.1, hq.2.1, (hq.2.2.sift fun y hy => Or.inr (N y hy)).mono (by decide) (by decide)⟩⟩
theorem main_1_1 : Claimed_1_1 := comes_1 fun _ _ _ _ _ _ h hF => ⟨h.1, hF⟩
theorem main_1_2 : Claimed_1_2 := comes_1 fun _ _ _ _ _ _ h hF => ⟨h.2.1, hF⟩
end Jvm.Pilot.@@N@@
namespace Jvm.Pilot.@@N@@
open Jvm Jvm.ClassFile Sem Op Lib Jvm.Free Jvm.Stand Jvm.Pilot.@@N@@.Jvm.D
/-! MADE BY PROGRAM (witnessworld.py) out of the Statement's table words and the real class files: 20 classes; the members and pool entries that the words name. The judged class is class 1, her method 1. -/
namespace start1
open Jvm.ClassFile
def u (s : String) : CpInfo := .utf8 (stringToUtf16 s)
/-- a pool by its gaps: so many unusable entries, then the entry; so many at the end -/
def gap : Nat → List CpInfo → List CpInfo
  | 0, r => r
  | n + 1, r => .unusable :: gap n r
def poolList (es : List (Nat × CpInfo)) (last : Nat) : List CpInfo := es.foldr (fun e r => gap e.1 (e.2 :: r)) (gap last [])
def pool (es : List (Nat × CpInfo)) (last : Nat) : Array CpInfo := ⟨poolList es last⟩
def fileOf (pool : Array CpInfo) (this : Nat) (attrs : Array Attribute := #[]) (ms : Array MethodInfo := #[]) (fl : Nat := 33) (sup : Nat := 0) (ifs : Array Nat := #[]) (fds : Array FieldInfo := #[]) : ClassFile where
  minorVersion := 0
  majorVersion := 65
  constantPool := pool
  accessFlags := fl
  thisClass := this
  superClass := sup
  interfaces := ifs
  fields := fds
  methods := ms
  attributes := attrs
def plain (name : String) (sup : Option ClassId) : Class where
  name := name
  kind := .ordinary
  loader := none
  accessFlags := 33
  super := sup
  interfaces := #[]
  cf := none
  fields := #[]
  methods := #[]
  instanceTypes := #[]
  staticTypes := #[]
  resolved := #[]
  callSites := []
  init := .initialized
  statics := none
  mirror := none

def pool0 : Array CpInfo := pool [(5, u "<init>"), (0, u "()V"), (1, .class_ 10), (1, u "java/lang/Object")] 113

def k0c0 : Code := { maxStack := 0, maxLocals := 1, code := object_method_1_code, exceptionTable := #[], attributes := #[] }
def k0m0 : Method := { name := "<init>", desc := "()V", sig := { parameters := [], returnType := none }, accessFlags := 1, code := some k0c0 }
/-- java/lang/Object -/
def k0 : Class := { plain "java/lang/Object" none with
  accessFlags := 33
  interfaces := #[]
  cf := some (fileOf pool0 8 #[] #[{ accessFlags := 1, nameIndex := 5, descriptorIndex := 6, attributes := #[] }] 33 0 #[] #[])
  fields := #[]
  methods := #[k0m0]
  instanceTypes := #[]
  staticTypes := #[]
  resolved := Array.replicate 124 none
  statics := none }

def pool1 : Array CpInfo := pool [(2, .class_ 4), (1, u "java/lang/Object"), (0, u "<init>"), (0, u "()V"), (0, .integer 2147483647), (0, .class_ 9), (0, u "com/example/tranquility/tranquility/Level"), (0, .class_ 11), (0, u "java/lang/String"), (0, .methodref 10 13), (0, .nameAndType 5 14), (0, u "([C)V"), (0, .methodref 8 16), (0, .nameAndType 5 17), (0, u "(Ljava/lang/String;I)V"), (0, .methodref 8 19), (0, .nameAndType 20 21), (0, u "dominates"), (0, u "(Lcom/example/tranquility/tranquility/Level;)Z"), (0, .class_ 23), (0, u "com/example/tranquility/tranquility/LevelDominatesPinLaw"), (2, u "law"), (0, u "(IIII)Z")] 5

def k1m0 : Method := { name := "<init>", desc := "()V", sig := { parameters := [], returnType := none }, accessFlags := 1, code := none }
def k1c1 : Code := { maxStack := 5, maxLocals := 18, code := code, exceptionTable := #[], attributes := #[] }
def k1m1 : Method := { name := "law", desc := "(IIII)Z", sig := { parameters := [.int, .int, .int, .int], returnType := some .boolean }, accessFlags := 9, code := some k1c1 }
/-- com/example/tranquility/tranquility/LevelDominatesPinLaw -/
def k1 : Class := { plain "com/example/tranquility/tranquility/LevelDominatesPinLaw" (some 0) with
  accessFlags := 49
  interfaces := #[]
  cf := some (fileOf pool1 22 #[] #[{ accessFlags := 1, nameIndex := 5, descriptorIndex := 6, attributes := #[] }, { accessFlags := 9, nameIndex := 26, descriptorIndex := 27, attributes := #[] }] 49 2 #[] #[])
  fields := #[]
  methods := #[k1m0, k1m1]
  instanceTypes := #[]
  staticTypes := #[]
  resolved := Array.replicate 33 none
  statics := none }

def pool2 : Array CpInfo := pool [(1, .methodref 2 3), (0, .class_ 4), (0, .nameAndType 5 6), (0, u "java/lang/Object"), (0, u "<init>"), (0, u "()V"), (0, .fieldref 8 9), (0, .class_ 10), (0, .nameAndType 11 12), (0, u "com/example/tranquility/tranquility/Level"), (0, u "name"), (0, u "Ljava/lang/String;"), (0, .fieldref 8 14), (0, .nameAndType 15 16), (0, u "rank"), (0, u "I"), (0, u "(Ljava/lang/String;I)V"), (6, u "dominates"), (0, u "(Lcom/example/tranquility/tranquility/Level;)Z")] 4

def k2c0 : Code := { maxStack := 2, maxLocals := 3, code := prog_25_method_1_code, exceptionTable := #[], attributes := #[] }
def k2m0 : Method := { name := "<init>", desc := "(Ljava/lang/String;I)V", sig := { parameters := [(.object "java/lang/String"), .int], returnType := none }, accessFlags := 0, code := some k2c0 }
def k2c1 : Code := { maxStack := 2, maxLocals := 2, code := prog_25_method_4_code, exceptionTable := #[], attributes := #[] }
def k2m1 : Method := { name := "dominates", desc := "(Lcom/example/tranquility/tranquility/Level;)Z", sig := { parameters := [(.object "com/example/tranquility/tranquility/Level")], returnType := some .boolean }, accessFlags := 1, code := some k2c1 }
/-- com/example/tranquility/tranquility/Level -/
def k2 : Class := { plain "com/example/tranquility/tranquility/Level" (some 0) with
  accessFlags := 33
  interfaces := #[]
  cf := some (fileOf pool2 8 #[] #[{ accessFlags := 0, nameIndex := 5, descriptorIndex := 17, attributes := #[] }, { accessFlags := 1, nameIndex := 24, descriptorIndex := 25, attributes := #[] }] 33 2 #[] #[{ accessFlags := 18, nameIndex := 11, descriptorIndex := 12, attributes := #[] }, { accessFlags := 18, nameIndex := 15, descriptorIndex := 16, attributes := #[] }])
  fields := #[{ name := "name", type := (.object "java/lang/String"), accessFlags := 18, slot := 0, constantValue := 0 }, { name := "rank", type := .int, accessFlags := 18, slot := 1, constantValue := 0 }]
  methods := #[k2m0, k2m1]
  instanceTypes := #[(.object "java/lang/String"), .int]
  staticTypes := #[]
  resolved := Array.replicate 30 none
  statics := none }

def pool3 : Array CpInfo := pool [(1, .class_ 2), (0, u "java/io/Serializable"), (0, .class_ 4), (0, u "java/lang/Object")] 2

/-- java/io/Serializable -/
def k3 : Class := { plain "java/io/Serializable" (some 0) with
  accessFlags := 1537
  interfaces := #[]
  cf := some (fileOf pool3 1 #[] #[] 1537 3 #[] #[])
  fields := #[]
  methods := #[]
  instanceTypes := #[]
  staticTypes := #[]
  resolved := Array.replicate 7 none
  statics := none }

def pool4 : Array CpInfo := pool [(1, .class_ 2), (0, u "java/lang/Comparable"), (0, .class_ 4), (0, u "java/lang/Object")] 7

/-- java/lang/Comparable -/
def k4 : Class := { plain "java/lang/Comparable" (some 0) with
  accessFlags := 1537
  interfaces := #[]
  cf := some (fileOf pool4 1 #[] #[] 1537 3 #[] #[])
  fields := #[]
  methods := #[]
  instanceTypes := #[]
  staticTypes := #[]
  resolved := Array.replicate 12 none
  statics := none }

def pool5 : Array CpInfo := pool [(2, .class_ 4), (1, u "java/lang/CharSequence"), (42, .class_ 48), (0, u "java/lang/CharSequence$1CodePointIterator"), (10, .class_ 60), (0, u "java/lang/CharSequence$1CharIterator"), (5, .class_ 67), (0, u "java/lang/Object")] 63

/-- java/lang/CharSequence -/
def k5 : Class := { plain "java/lang/CharSequence" (some 0) with
  accessFlags := 1537
  interfaces := #[]
  cf := some (fileOf pool5 2 #[.nestMembers #[47, 59]] #[] 1537 66 #[] #[])
  fields := #[]
  methods := #[]
  instanceTypes := #[]
  staticTypes := #[]
  resolved := Array.replicate 131 none
  statics := none }

def pool6 : Array CpInfo := pool [(1, .class_ 2), (0, u "java/lang/constant/Constable"), (0, .class_ 4), (0, u "java/lang/Object")] 6

/-- java/lang/constant/Constable -/
def k6 : Class := { plain "java/lang/constant/Constable" (some 0) with
  accessFlags := 1537
  interfaces := #[]
  cf := some (fileOf pool6 1 #[] #[] 1537 3 #[] #[])
  fields := #[]
  methods := #[]
  instanceTypes := #[]
  staticTypes := #[]
  resolved := Array.replicate 11 none
  statics := none }

def pool7 : Array CpInfo := pool [(1, .class_ 2), (0, u "java/lang/constant/ConstantDesc"), (0, .class_ 4), (0, u "java/lang/Object")] 32

/-- java/lang/constant/ConstantDesc -/
def k7 : Class := { plain "java/lang/constant/ConstantDesc" (some 0) with
  accessFlags := 1537
  interfaces := #[]
  cf := some (fileOf pool7 1 #[] #[] 1537 3 #[] #[])
  fields := #[]
  methods := #[]
  instanceTypes := #[]
  staticTypes := #[]
  resolved := Array.replicate 37 none
  statics := none }

def pool8 : Array CpInfo := pool [(1, .methodref 2 3), (0, .class_ 4), (0, .nameAndType 5 6), (0, u "java/lang/Object"), (0, u "<init>"), (0, u "()V"), (2, .fieldref 10 11), (0, .class_ 12), (0, .nameAndType 13 14), (0, u "java/lang/String"), (0, u "value"), (0, u "[B"), (0, .fieldref 10 16), (0, .nameAndType 17 18), (0, u "coder"), (0, u "B"), (2, u "hash"), (0, u "I"), (2, u "hashIsZero"), (0, u "Z"), (0, .methodref 10 28), (0, .nameAndType 5 29), (0, u "([CIILjava/lang/Void;)V"), (8, .fieldref 10 39), (0, .nameAndType 40 26), (0, u "COMPACT_STRINGS"), (1, .class_ 44), (1, u "java/lang/StringUTF16"), (0, u "compress"), (1, .methodref 42 48), (0, .nameAndType 49 50), (0, u "coderFromArrayLen"), (0, u "([BI)B"), (126, .methodref 42 178), (0, .nameAndType 45 179), (0, u "([CII)[B"), (395, .class_ 576), (0, u "java/lang/CharSequence"), (22, u "CASE_INSENSITIVE_ORDER"), (0, u "Ljava/util/Comparator;"), (409, u "([C)V"), (90, u "serialPersistentFields"), (0, u "[Ljava/io/ObjectStreamField;"), (0, .class_ 1104), (0, u "java/lang/String$CaseInsensitiveComparator"), (1, .class_ 1107), (0, u "java/io/Serializable"), (0, .class_ 1109), (0, u "java/lang/Comparable"), (0, .class_ 1111), (0, u "java/lang/constant/Constable"), (0, .class_ 1113), (0, u "java/lang/constant/ConstantDesc"), (2, u "serialVersionUID"), (0, u "J"), (3, u "REPL"), (0, u "C"), (2, u "LATIN1"), (1, u "UTF16")] 323

def k8m0 : Method := { name := "<init>", desc := "()V", sig := { parameters := [], returnType := none }, accessFlags := 1, code := none }
def k8c1 : Code := { maxStack := 5, maxLocals := 2, code := jdk_42_method_3_code, exceptionTable := #[], attributes := #[] }
def k8m1 : Method := { name := "<init>", desc := "([C)V", sig := { parameters := [(.array .char)], returnType := none }, accessFlags := 1, code := some k8c1 }
def k8c2 : Code := { maxStack := 4, maxLocals := 6, code := jdk_42_method_149_code, exceptionTable := #[], attributes := #[] }
def k8m2 : Method := { name := "<init>", desc := "([CIILjava/lang/Void;)V", sig := { parameters := [(.array .char), .int, .int, (.object "java/lang/Void")], returnType := none }, accessFlags := 2, code := some k8c2 }
/-- java/lang/String -/
def k8 : Class := { plain "java/lang/String" (some 0) with
  accessFlags := 49
  interfaces := #[3, 4, 5, 6, 7]
  cf := some (fileOf pool8 10 #[.nestMembers #[1103]] #[{ accessFlags := 1, nameIndex := 5, descriptorIndex := 6, attributes := #[] }, { accessFlags := 1, nameIndex := 5, descriptorIndex := 1010, attributes := #[] }, { accessFlags := 2, nameIndex := 5, descriptorIndex := 29, attributes := #[] }] 49 2 #[1106, 1108, 575, 1110, 1112] #[{ accessFlags := 18, nameIndex := 13, descriptorIndex := 14, attributes := #[] }, { accessFlags := 18, nameIndex := 17, descriptorIndex := 18, attributes := #[] }, { accessFlags := 2, nameIndex := 21, descriptorIndex := 22, attributes := #[] }, { accessFlags := 2, nameIndex := 25, descriptorIndex := 26, attributes := #[] }, { accessFlags := 26, nameIndex := 1116, descriptorIndex := 1117, attributes := #[] }, { accessFlags := 24, nameIndex := 40, descriptorIndex := 26, attributes := #[] }, { accessFlags := 26, nameIndex := 1101, descriptorIndex := 1102, attributes := #[] }, { accessFlags := 26, nameIndex := 1121, descriptorIndex := 1122, attributes := #[] }, { accessFlags := 25, nameIndex := 599, descriptorIndex := 600, attributes := #[] }, { accessFlags := 24, nameIndex := 1125, descriptorIndex := 18, attributes := #[] }, { accessFlags := 24, nameIndex := 1127, descriptorIndex := 18, attributes := #[] }])
  fields := #[{ name := "value", type := (.array .byte), accessFlags := 18, slot := 0, constantValue := 0 }, { name := "coder", type := .byte, accessFlags := 18, slot := 1, constantValue := 0 }, { name := "hash", type := .int, accessFlags := 2, slot := 2, constantValue := 0 }, { name := "hashIsZero", type := .boolean, accessFlags := 2, slot := 3, constantValue := 0 }, { name := "serialVersionUID", type := .long, accessFlags := 26, slot := 0, constantValue := 0 }, { name := "COMPACT_STRINGS", type := .boolean, accessFlags := 24, slot := 1, constantValue := 0 }, { name := "serialPersistentFields", type := (.array (.object "java/io/ObjectStreamField")), accessFlags := 26, slot := 2, constantValue := 0 }, { name := "REPL", type := .char, accessFlags := 26, slot := 3, constantValue := 0 }, { name := "CASE_INSENSITIVE_ORDER", type := (.object "java/util/Comparator"), accessFlags := 25, slot := 4, constantValue := 0 }, { name := "LATIN1", type := .byte, accessFlags := 24, slot := 5, constantValue := 0 }, { name := "UTF16", type := .byte, accessFlags := 24, slot := 6, constantValue := 0 }]
  methods := #[k8m0, k8m1, k8m2]
  instanceTypes := #[(.array .byte), .byte, .int, .boolean]
  staticTypes := #[.long, .boolean, (.array (.object "java/io/ObjectStreamField")), .char, (.object "java/util/Comparator"), .byte, .byte]
  resolved := Array.replicate 1451 none
  statics := some 0 }

def pool9 : Array CpInfo := pool [(6, .class_ 8), (1, u "java/lang/Object"), (0, u "<init>"), (0, u "()V"), (1, .class_ 14), (1, u "java/lang/StringUTF16"), (31, u "$assertionsDisabled"), (0, u "Z"), (13, u "HI_BYTE_SHIFT"), (0, u "I"), (2, u "LO_BYTE_SHIFT"), (49, .methodref 12 116), (0, .nameAndType 117 118), (0, u "compress"), (0, u "([CI[BII)I"), (3, u "([CII)[B"), (138, u "coderFromArrayLen"), (0, u "([BI)B"), (106, .class_ 371), (1, u "java/lang/StringUTF16$LinesSpliterator"), (58, u "MAX_LENGTH"), (196, .class_ 628), (0, u "java/lang/StringUTF16$CodePointsSpliterator"), (0, .class_ 630), (0, u "java/lang/StringUTF16$CharsSpliterator")] 4

def k9m0 : Method := { name := "<init>", desc := "()V", sig := { parameters := [], returnType := none }, accessFlags := 0, code := none }
def k9c1 : Code := { maxStack := 2, maxLocals := 2, code := jdk_52_method_15_code, exceptionTable := #[], attributes := #[] }
def k9m1 : Method := { name := "coderFromArrayLen", desc := "([BI)B", sig := { parameters := [(.array .byte), .int], returnType := some .byte }, accessFlags := 8, code := some k9c1 }
def k9c2 : Code := { maxStack := 5, maxLocals := 6, code := jdk_52_method_16_code, exceptionTable := #[], attributes := #[] }
def k9m2 : Method := { name := "compress", desc := "([CII)[B", sig := { parameters := [(.array .char), .int, .int], returnType := some (.array .byte) }, accessFlags := 9, code := some k9c2 }
def k9c3 : Code := { maxStack := 3, maxLocals := 7, code := jdk_52_method_21_code, exceptionTable := #[], attributes := #[] }
def k9m3 : Method := { name := "compress", desc := "([CI[BII)I", sig := { parameters := [(.array .char), .int, (.array .byte), .int, .int], returnType := some .int }, accessFlags := 9, code := some k9c3 }
/-- java/lang/StringUTF16 -/
def k9 : Class := { plain "java/lang/StringUTF16" (some 0) with
  accessFlags := 48
  interfaces := #[]
  cf := some (fileOf pool9 12 #[.nestMembers #[627, 629, 369]] #[{ accessFlags := 0, nameIndex := 9, descriptorIndex := 10, attributes := #[] }, { accessFlags := 8, nameIndex := 261, descriptorIndex := 262, attributes := #[] }, { accessFlags := 9, nameIndex := 117, descriptorIndex := 122, attributes := #[] }, { accessFlags := 9, nameIndex := 117, descriptorIndex := 118, attributes := #[] }] 48 6 #[] #[{ accessFlags := 26, nameIndex := 61, descriptorIndex := 62, attributes := #[] }, { accessFlags := 26, nameIndex := 65, descriptorIndex := 62, attributes := #[] }, { accessFlags := 24, nameIndex := 430, descriptorIndex := 62, attributes := #[] }, { accessFlags := 4120, nameIndex := 46, descriptorIndex := 47, attributes := #[] }])
  fields := #[{ name := "HI_BYTE_SHIFT", type := .int, accessFlags := 26, slot := 0, constantValue := 0 }, { name := "LO_BYTE_SHIFT", type := .int, accessFlags := 26, slot := 1, constantValue := 0 }, { name := "MAX_LENGTH", type := .int, accessFlags := 24, slot := 2, constantValue := 0 }, { name := "$assertionsDisabled", type := .boolean, accessFlags := 4120, slot := 3, constantValue := 0 }]
  methods := #[k9m0, k9m1, k9m2, k9m3]
  instanceTypes := #[]
  staticTypes := #[.int, .int, .int, .boolean]
  resolved := Array.replicate 635 none
  statics := none }

def pool10 : Array CpInfo := pool [(4, .class_ 6), (1, u "java/lang/Object"), (0, u "<init>"), (0, u "()V"), (5, .class_ 16), (1, u "java/lang/StringLatin1"), (104, u "$assertionsDisabled"), (0, u "Z"), (98, .class_ 223), (1, u "java/lang/StringLatin1$LinesSpliterator"), (166, .class_ 391), (0, u "java/lang/StringLatin1$CharsSpliterator")] 3

def k10m0 : Method := { name := "<init>", desc := "()V", sig := { parameters := [], returnType := none }, accessFlags := 0, code := none }
/-- java/lang/StringLatin1 -/
def k10 : Class := { plain "java/lang/StringLatin1" (some 0) with
  accessFlags := 48
  interfaces := #[]
  cf := some (fileOf pool10 14 #[.nestMembers #[390, 221]] #[{ accessFlags := 0, nameIndex := 7, descriptorIndex := 8, attributes := #[] }] 48 4 #[] #[{ accessFlags := 4120, nameIndex := 121, descriptorIndex := 122, attributes := #[] }])
  fields := #[{ name := "$assertionsDisabled", type := .boolean, accessFlags := 4120, slot := 0, constantValue := 0 }]
  methods := #[k10m0]
  instanceTypes := #[]
  staticTypes := #[.boolean]
  resolved := Array.replicate 395 none
  statics := none }

def pool11 : Array CpInfo := pool [(2, .class_ 4), (1, u "java/lang/Object"), (0, u "<init>"), (0, u "()V"), (17, .class_ 26), (1, u "jdk/internal/util/Preconditions"), (28, .class_ 56), (0, u "jdk/internal/util/Preconditions$4"), (57, .class_ 115), (0, u "jdk/internal/util/Preconditions$1"), (7, u "SIOOBE_FORMATTER"), (0, u "Ljava/util/function/BiFunction;"), (0, .class_ 126), (0, u "jdk/internal/util/Preconditions$2"), (3, u "AIOOBE_FORMATTER"), (0, .class_ 132), (0, u "jdk/internal/util/Preconditions$3"), (3, u "IOOBE_FORMATTER")] 57

def k11m0 : Method := { name := "<init>", desc := "()V", sig := { parameters := [], returnType := none }, accessFlags := 1, code := none }
/-- jdk/internal/util/Preconditions -/
def k11 : Class := { plain "jdk/internal/util/Preconditions" (some 0) with
  accessFlags := 33
  interfaces := #[]
  cf := some (fileOf pool11 24 #[.nestMembers #[55, 131, 125, 114]] #[{ accessFlags := 1, nameIndex := 5, descriptorIndex := 6, attributes := #[] }] 33 2 #[] #[{ accessFlags := 25, nameIndex := 123, descriptorIndex := 124, attributes := #[] }, { accessFlags := 25, nameIndex := 130, descriptorIndex := 124, attributes := #[] }, { accessFlags := 25, nameIndex := 136, descriptorIndex := 124, attributes := #[] }])
  fields := #[{ name := "SIOOBE_FORMATTER", type := (.object "java/util/function/BiFunction"), accessFlags := 25, slot := 0, constantValue := 0 }, { name := "AIOOBE_FORMATTER", type := (.object "java/util/function/BiFunction"), accessFlags := 25, slot := 1, constantValue := 0 }, { name := "IOOBE_FORMATTER", type := (.object "java/util/function/BiFunction"), accessFlags := 25, slot := 2, constantValue := 0 }]
  methods := #[k11m0]
  instanceTypes := #[]
  staticTypes := #[(.object "java/util/function/BiFunction"), (.object "java/util/function/BiFunction"), (.object "java/util/function/BiFunction")]
  resolved := Array.replicate 194 none
  statics := some 1 }

def pool12 : Array CpInfo := pool [(9, u "<init>"), (6, .class_ 18), (1, u "java/lang/Object"), (0, u "()V"), (1, .class_ 23), (1, u "jdk/internal/util/ArraysSupport"), (0, u "LOG2_ARRAY_LONG_INDEX_SCALE"), (0, u "I"), (2, u "U"), (0, u "Ljdk/internal/misc/Unsafe;"), (8, u "BIG_ENDIAN"), (0, u "Z"), (8, u "LOG2_BYTE_BIT_SIZE"), (4, u "LOG2_ARRAY_INT_INDEX_SCALE"), (54, u "JLA"), (0, u "Ljdk/internal/access/JavaLangAccess;"), (11, u "LOG2_ARRAY_BOOLEAN_INDEX_SCALE"), (9, u "LOG2_ARRAY_BYTE_INDEX_SCALE"), (5, u "LOG2_ARRAY_CHAR_INDEX_SCALE"), (5, u "LOG2_ARRAY_SHORT_INDEX_SCALE"), (18, u "LOG2_ARRAY_FLOAT_INDEX_SCALE"), (24, u "LOG2_ARRAY_DOUBLE_INDEX_SCALE"), (89, u "T_BOOLEAN"), (2, u "T_CHAR"), (1, u "T_FLOAT"), (1, u "T_DOUBLE"), (1, u "T_BYTE"), (1, u "T_SHORT"), (1, u "T_INT"), (1, u "T_LONG"), (1, u "SOFT_MAX_ARRAY_LENGTH")] 83

def k12m0 : Method := { name := "<init>", desc := "()V", sig := { parameters := [], returnType := none }, accessFlags := 2, code := none }
/-- jdk/internal/util/ArraysSupport -/
def k12 : Class := { plain "jdk/internal/util/ArraysSupport" (some 0) with
  accessFlags := 33
  interfaces := #[]
  cf := some (fileOf pool12 21 #[] #[{ accessFlags := 2, nameIndex := 9, descriptorIndex := 19, attributes := #[] }] 33 16 #[] #[{ accessFlags := 24, nameIndex := 28, descriptorIndex := 29, attributes := #[] }, { accessFlags := 26, nameIndex := 38, descriptorIndex := 39, attributes := #[] }, { accessFlags := 25, nameIndex := 121, descriptorIndex := 25, attributes := #[] }, { accessFlags := 25, nameIndex := 131, descriptorIndex := 25, attributes := #[] }, { accessFlags := 25, nameIndex := 137, descriptorIndex := 25, attributes := #[] }, { accessFlags := 25, nameIndex := 143, descriptorIndex := 25, attributes := #[] }, { accessFlags := 25, nameIndex := 53, descriptorIndex := 25, attributes := #[] }, { accessFlags := 25, nameIndex := 24, descriptorIndex := 25, attributes := #[] }, { accessFlags := 25, nameIndex := 162, descriptorIndex := 25, attributes := #[] }, { accessFlags := 25, nameIndex := 187, descriptorIndex := 25, attributes := #[] }, { accessFlags := 26, nameIndex := 48, descriptorIndex := 25, attributes := #[] }, { accessFlags := 25, nameIndex := 277, descriptorIndex := 25, attributes := #[] }, { accessFlags := 25, nameIndex := 280, descriptorIndex := 25, attributes := #[] }, { accessFlags := 25, nameIndex := 282, descriptorIndex := 25, attributes := #[] }, { accessFlags := 25, nameIndex := 284, descriptorIndex := 25, attributes := #[] }, { accessFlags := 25, nameIndex := 286, descriptorIndex := 25, attributes := #[] }, { accessFlags := 25, nameIndex := 288, descriptorIndex := 25, attributes := #[] }, { accessFlags := 25, nameIndex := 290, descriptorIndex := 25, attributes := #[] }, { accessFlags := 25, nameIndex := 292, descriptorIndex := 25, attributes := #[] }, { accessFlags := 26, nameIndex := 108, descriptorIndex := 109, attributes := #[] }, { accessFlags := 25, nameIndex := 294, descriptorIndex := 25, attributes := #[] }])
  fields := #[{ name := "U", type := (.object "jdk/internal/misc/Unsafe"), accessFlags := 24, slot := 0, constantValue := 0 }, { name := "BIG_ENDIAN", type := .boolean, accessFlags := 26, slot := 1, constantValue := 0 }, { name := "LOG2_ARRAY_BOOLEAN_INDEX_SCALE", type := .int, accessFlags := 25, slot := 2, constantValue := 0 }, { name := "LOG2_ARRAY_BYTE_INDEX_SCALE", type := .int, accessFlags := 25, slot := 3, constantValue := 0 }, { name := "LOG2_ARRAY_CHAR_INDEX_SCALE", type := .int, accessFlags := 25, slot := 4, constantValue := 0 }, { name := "LOG2_ARRAY_SHORT_INDEX_SCALE", type := .int, accessFlags := 25, slot := 5, constantValue := 0 }, { name := "LOG2_ARRAY_INT_INDEX_SCALE", type := .int, accessFlags := 25, slot := 6, constantValue := 0 }, { name := "LOG2_ARRAY_LONG_INDEX_SCALE", type := .int, accessFlags := 25, slot := 7, constantValue := 0 }, { name := "LOG2_ARRAY_FLOAT_INDEX_SCALE", type := .int, accessFlags := 25, slot := 8, constantValue := 0 }, { name := "LOG2_ARRAY_DOUBLE_INDEX_SCALE", type := .int, accessFlags := 25, slot := 9, constantValue := 0 }, { name := "LOG2_BYTE_BIT_SIZE", type := .int, accessFlags := 26, slot := 10, constantValue := 0 }, { name := "T_BOOLEAN", type := .int, accessFlags := 25, slot := 11, constantValue := 0 }, { name := "T_CHAR", type := .int, accessFlags := 25, slot := 12, constantValue := 0 }, { name := "T_FLOAT", type := .int, accessFlags := 25, slot := 13, constantValue := 0 }, { name := "T_DOUBLE", type := .int, accessFlags := 25, slot := 14, constantValue := 0 }, { name := "T_BYTE", type := .int, accessFlags := 25, slot := 15, constantValue := 0 }, { name := "T_SHORT", type := .int, accessFlags := 25, slot := 16, constantValue := 0 }, { name := "T_INT", type := .int, accessFlags := 25, slot := 17, constantValue := 0 }, { name := "T_LONG", type := .int, accessFlags := 25, slot := 18, constantValue := 0 }, { name := "JLA", type := (.object "jdk/internal/access/JavaLangAccess"), accessFlags := 26, slot := 19, constantValue := 0 }, { name := "SOFT_MAX_ARRAY_LENGTH", type := .int, accessFlags := 25, slot := 20, constantValue := 0 }]
  methods := #[k12m0]
  instanceTypes := #[]
  staticTypes := #[(.object "jdk/internal/misc/Unsafe"), .boolean, .int, .int, .int, .int, .int, .int, .int, .int, .int, .int, .int, .int, .int, .int, .int, .int, .int, (.object "jdk/internal/access/JavaLangAccess"), .int]
  resolved := Array.replicate 378 none
  statics := none }

def pool13 : Array CpInfo := pool [(1, u "java/lang/Cloneable"), (0, .class_ 1), (0, u "java/lang/Object"), (0, .class_ 3)] 3

/-- java/lang/Cloneable -/
def k13 : Class := { plain "java/lang/Cloneable" (some 0) with
  accessFlags := 1537
  interfaces := #[]
  cf := some (fileOf pool13 2 #[] #[] 1537 4 #[] #[])
  fields := #[]
  methods := #[]
  instanceTypes := #[]
  staticTypes := #[]
  resolved := Array.replicate 8 none
  statics := none }

/-- the primitive byte -/
def k14 : Class := { plain "byte" none with kind := .primitive 'B', accessFlags := 0x411 }
/-- [B -/
def k15 : Class := { plain "[B" (some 0) with kind := .array 14 .byte, interfaces := #[13, 3], accessFlags := 1041 }

/-- the primitive char -/
def k16 : Class := { plain "char" none with kind := .primitive 'C', accessFlags := 0x411 }
/-- [C -/
def k17 : Class := { plain "[C" (some 0) with kind := .array 16 .char, interfaces := #[13, 3], accessFlags := 1041 }

/-- the primitive int -/
def k18 : Class := { plain "int" none with kind := .primitive 'I', accessFlags := 0x411 }
/-- [I -/
def k19 : Class := { plain "[I" (some 0) with kind := .array 18 .int, interfaces := #[13, 3], accessFlags := 1041 }

def heap : Heap := #[{ cls := 8, slots := #[.long 0, .int 1, .null, .int 0, .null, .int 0, .int 0], vm := .statics 8 },
  { cls := 11, slots := #[.null, .null, .null], vm := .statics 11 }]
def classes : Array Class := #[k0, k1, k2, k3, k4, k5, k6, k7, k8, k9, k10, k11, k12, k13, k14, k15, k16, k17, k18, k19]
def interned : List (Array UInt16 × Addr) := []
def slotsUsed : Nat := 10
def theMethod : MethodId := ⟨1, 1⟩
def args0 : Array Value := #[.int 1, .int 6, .int 65, .int 66]
def aboutOver (below : List Frame) : State where
  vm := { classes := classes, interned := interned.toArray }
  heap := heap
  slotsUsed := slotsUsed
  threads := #[{ frames := .invoking theMethod args0 :: below }]
def below0 : List Frame := [.native { method := ⟨0, 0⟩, args := #[] }]
def about1 : State := aboutOver below0
def p0 : Program := .bare "" "" ""
def e0 : Env := launch0.env 0 0 0
theorem w_frames : about1.frames = Frame.invoking theMethod args0 :: below0 := rfl
set_option maxRecDepth 65536 in
theorem w_args : argsFit about1.vm theMethod args0 = true := by decide +kernel
set_option maxRecDepth 65536 in
theorem w_heap : heapFits about1 = true := by decide +kernel
set_option maxRecDepth 65536 in
theorem w_runnable : about1.curStatus? = some .runnable := by decide +kernel
set_option maxRecDepth 65536 in
theorem w_alone : about1.alone = true := by decide +kernel
set_option maxRecDepth 65536 in
theorem w_named : about1.methodNamed? x = some theMethod := by decide +kernel
set_option maxRecDepth 65536 in
theorem w_hears : about1.hears theMethod below0 = true := by decide +kernel
set_option maxRecDepth 65536 in
theorem w_ripe : about1.ripe theMethod args0 below0 = true := by decide +kernel
theorem w_running : about1.status = .running := rfl
set_option maxRecDepth 65536 in
theorem w_room : about1.hasRoom e0.platform room_1 = true :=
  launch0.hasRoom_least _ room_1 (by decide +kernel) (by decide +kernel) (by decide +kernel) (by decide +kernel) (by decide +kernel) (by decide +kernel)
theorem allAtoms_all (ts : List Jvm.Cond) (a : Array Jvm.Value) (st : Jvm.State) : (allAtoms ts).before a st = ts.all (fun c => c.before a st) := by
  induction ts with
  | nil => rfl
  | cons c t ih =>
    show (Jvm.Cond.and c (allAtoms t)).before a st = _
    rw [Jvm.Cond.before_and, ih, List.all_cons]
def words1 : List Jvm.Cond := Jvm.Cond.code x code maxLocals ret :: tables_1
/-- a 'code' word, met by the world's own term for the bytes: nothing is compared byte by byte -/
theorem code_word {y : MethodName} {bytes : ByteArray} {mx : Nat} {rt : Option FieldType} {a : Array Value} {s : State} {m : MethodId} {meth : Method} {c : Code} (h1 : s.methodNamed? y = some m) (h2 : s.vm.method? m = some meth) (h3 : meth.code = some c) (h4 : c.code = bytes)
    (h5 : (c.maxLocals == mx && c.exceptionTable.isEmpty && decide (c.maxStack ≤ mostOperands) && decide (meth.sig.returnType = rt) && !meth.locks && decide (parseMethodDescriptor y.desc = some meth.sig)) = true) : (Jvm.Cond.code y bytes mx rt).before a s = true := by
  simp only [Bool.and_eq_true, beq_iff_eq, Bool.not_eq_true', decide_eq_true_eq] at h5
  obtain ⟨⟨⟨⟨⟨g1, g2⟩, g3⟩, g4⟩, g5⟩, g6⟩ := h5
  simp [Cond.before, Cond.holds, Cond.value, h1, h2, h3, h4, g1, g2, g3, g4, g5, g6]
def isCode : Jvm.Cond → Bool
  | .code _ _ _ _ => true
  | _ => false
theorem all_split {L : List Jvm.Cond} {P : Jvm.Cond → Bool} (h1 : L.all (fun c => isCode c || P c) = true) (h2 : ∀ c ∈ L.filter isCode, P c = true) : L.all P = true := by
  refine List.all_eq_true.mpr fun c hc => ?_
  have h := List.all_eq_true.mp h1 c hc
  rcases Bool.eq_false_or_eq_true (isCode c) with hi | hi
  · exact h2 c (List.mem_filter.mpr ⟨hc, hi⟩)
  · simpa [hi] using h
set_option maxRecDepth 65536 in
theorem w_c0 : (Jvm.Cond.code x code maxLocals ret).before args0 about1 = true := code_word (m := ⟨1, 1⟩) (meth := k1m1) (c := k1c1) (by decide +kernel) rfl rfl rfl (by decide +kernel)
set_option maxRecDepth 65536 in
theorem w_c1 : (Jvm.Cond.code ({ cls := "java/lang/String", name := "<init>", desc := "([C)V" } : Jvm.MethodName) jdk_42_method_3_code (2 : Nat) (Option.none : Option Jvm.ClassFile.FieldType)).before args0 about1 = true := code_word (m := ⟨8, 1⟩) (meth := k8m1) (c := k8c1) (by decide +kernel) rfl rfl rfl (by decide +kernel)
set_option maxRecDepth 65536 in
theorem w_c2 : (Jvm.Cond.code ({ cls := "java/lang/String", name := "<init>", desc := "([CIILjava/lang/Void;)V" } : Jvm.MethodName) jdk_42_method_149_code (6 : Nat) (Option.none : Option Jvm.ClassFile.FieldType)).before args0 about1 = true := code_word (m := ⟨8, 2⟩) (meth := k8m2) (c := k8c2) (by decide +kernel) rfl rfl rfl (by decide +kernel)
set_option maxRecDepth 65536 in
theorem w_c3 : (Jvm.Cond.code ({ cls := "java/lang/Object", name := "<init>", desc := "()V" } : Jvm.MethodName) object_method_1_code (1 : Nat) (Option.none : Option Jvm.ClassFile.FieldType)).before args0 about1 = true := code_word (m := ⟨0, 0⟩) (meth := k0m0) (c := k0c0) (by decide +kernel) rfl rfl rfl (by decide +kernel)
set_option maxRecDepth 65536 in
theorem w_c4 : (Jvm.Cond.code ({ cls := "java/lang/StringUTF16", name := "compress", desc := "([CII)[B" } : Jvm.MethodName) jdk_52_method_16_code (6 : Nat) (Option.some (Jvm.ClassFile.FieldType.array Jvm.ClassFile.FieldType.byte))).before args0 about1 = true := code_word (m := ⟨9, 2⟩) (meth := k9m2) (c := k9c2) (by decide +kernel) rfl rfl rfl (by decide +kernel)
set_option maxRecDepth 65536 in
theorem w_c5 : (Jvm.Cond.code ({ cls := "java/lang/StringUTF16", name := "compress", desc := "([CI[BII)I" } : Jvm.MethodName) jdk_52_method_21_code (7 : Nat) (Option.some Jvm.ClassFile.FieldType.int)).before args0 about1 = true := code_word (m := ⟨9, 3⟩) (meth := k9m3) (c := k9c3) (by decide +kernel) rfl rfl rfl (by decide +kernel)
set_option maxRecDepth 65536 in
theorem w_c6 : (Jvm.Cond.code ({ cls := "java/lang/StringUTF16", name := "coderFromArrayLen", desc := "([BI)B" } : Jvm.MethodName) jdk_52_method_15_code (2 : Nat) (Option.some Jvm.ClassFile.FieldType.byte)).before args0 about1 = true := code_word (m := ⟨9, 1⟩) (meth := k9m1) (c := k9c1) (by decide +kernel) rfl rfl rfl (by decide +kernel)
set_option maxRecDepth 65536 in
theorem w_c7 : (Jvm.Cond.code ({ cls := "com/example/tranquility/tranquility/Level", name := "<init>", desc := "(Ljava/lang/String;I)V" } : Jvm.MethodName) prog_25_method_1_code (3 : Nat) (Option.none : Option Jvm.ClassFile.FieldType)).before args0 about1 = true := code_word (m := ⟨2, 0⟩) (meth := k2m0) (c := k2c0) (by decide +kernel) rfl rfl rfl (by decide +kernel)
set_option maxRecDepth 65536 in
theorem w_c8 : (Jvm.Cond.code ({ cls := "com/example/tranquility/tranquility/Level", name := "dominates", desc := "(Lcom/example/tranquility/tranquility/Level;)Z" } : Jvm.MethodName) prog_25_method_4_code (2 : Nat) (Option.some Jvm.ClassFile.FieldType.boolean)).before args0 about1 = true := code_word (m := ⟨2, 1⟩) (meth := k2m1) (c := k2c1) (by decide +kernel) rfl rfl rfl (by decide +kernel)
def codes1 : List Jvm.Cond := [Jvm.Cond.code x code maxLocals ret, Jvm.Cond.code ({ cls := "java/lang/String", name := "<init>", desc := "([C)V" } : Jvm.MethodName) jdk_42_method_3_code (2 : Nat) (Option.none : Option Jvm.ClassFile.FieldType), Jvm.Cond.code ({ cls := "java/lang/String", name := "<init>", desc := "([CIILjava/lang/Void;)V" } : Jvm.MethodName) jdk_42_method_149_code (6 : Nat) (Option.none : Option Jvm.ClassFile.FieldType), Jvm.Cond.code ({ cls := "java/lang/Object", name := "<init>", desc := "()V" } : Jvm.MethodName) object_method_1_code (1 : Nat) (Option.none : Option Jvm.ClassFile.FieldType), Jvm.Cond.code ({ cls := "java/lang/StringUTF16", name := "compress", desc := "([CII)[B" } : Jvm.MethodName) jdk_52_method_16_code (6 : Nat) (Option.some (Jvm.ClassFile.FieldType.array Jvm.ClassFile.FieldType.byte)), Jvm.Cond.code ({ cls := "java/lang/StringUTF16", name := "compress", desc := "([CI[BII)I" } : Jvm.MethodName) jdk_52_method_21_code (7 : Nat) (Option.some Jvm.ClassFile.FieldType.int), Jvm.Cond.code ({ cls := "java/lang/StringUTF16", name := "coderFromArrayLen", desc := "([BI)B" } : Jvm.MethodName) jdk_52_method_15_code (2 : Nat) (Option.some Jvm.ClassFile.FieldType.byte), Jvm.Cond.code ({ cls := "com/example/tranquility/tranquility/Level", name := "<init>", desc := "(Ljava/lang/String;I)V" } : Jvm.MethodName) prog_25_method_1_code (3 : Nat) (Option.none : Option Jvm.ClassFile.FieldType), Jvm.Cond.code ({ cls := "com/example/tranquility/tranquility/Level", name := "dominates", desc := "(Lcom/example/tranquility/tranquility/Level;)Z" } : Jvm.MethodName) prog_25_method_4_code (2 : Nat) (Option.some Jvm.ClassFile.FieldType.boolean)]
set_option maxRecDepth 65536 in
theorem codes_eq : words1.filter isCode = codes1 := rfl
theorem w_codes : ∀ c ∈ words1.filter isCode, c.before args0 about1 = true := by
  rw [codes_eq]
  intro c hc
  simp only [codes1, List.mem_cons, List.not_mem_nil, or_false] at hc
  rcases hc with rfl | rfl | rfl | rfl | rfl | rfl | rfl | rfl | rfl
  · exact w_c0
  · exact w_c1
  · exact w_c2
  · exact w_c3
  · exact w_c4
  · exact w_c5
  · exact w_c6
  · exact w_c7
  · exact w_c8
set_option maxRecDepth 65536 in
theorem w_t1 : (words1.take 24).all (fun c => isCode c || c.before args0 about1) = true := by decide +kernel
set_option maxRecDepth 65536 in
theorem w_t2 : (words1.drop 24).all (fun c => isCode c || c.before args0 about1) = true := by decide +kernel
theorem w_tables : (allAtoms (Jvm.Cond.code x code maxLocals ret :: tables_1)).before args0 about1 = true := by
  rw [allAtoms_all]
  show words1.all (fun c => c.before args0 about1) = true
  refine all_split ?_ w_codes
  rw [← List.take_append_drop 24 words1, List.all_append, w_t1, w_t2]
  rfl
set_option maxRecDepth 65536 in
theorem w_rest : rest_1_c.before args0 about1 = true := by decide +kernel
set_option maxRecDepth 65536 in
theorem w_case : (Jvm.Cond.and given_1 narrow_1).before args0 about1 = true := by decide +kernel
theorem w_applies : (headSpec (Jvm.Cond.code x code maxLocals ret :: tables_1) room_1).applies x e0.platform about1 = true :=
  (Spec.applies_iff w_frames).mpr ⟨w_running, w_runnable, w_alone, w_named, w_hears, w_ripe, w_room, w_tables⟩
theorem atStart : AtStart classFile x code maxLocals ret World_1 tables_1 room_1 Calls_1 rest_1 Pre_1 launch0 p0 e0 about1 theMethod args0 below0 :=
  ⟨lists_1, trivial, launch0.admits_env _ _ _, launch0.least_env, fairChoices_fair.cas, fairChoices_fair.clock, w_frames, w_args, w_heap, w_applies, trivial, w_rest, w_case⟩
end start1
theorem witness_1 : WitnessClaimed_1 := ⟨start1.p0, start1.e0, start1.about1, start1.theMethod, start1.args0, start1.below0, start1.atStart⟩
end Jvm.Pilot.@@N@@
