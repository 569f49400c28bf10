import JvmDerived
import JvmDerived.Pilot.@@N@@Statement
import JvmDerived.Pilot.@@N@@Code
set_option linter.unusedVariables false
set_option linter.unusedSimpArgs false
@@BLOCK:TracedD.lean.txt@@
/- laws to paste: Road.backV, Road.codOf (cut by pick.py; bodies as the Statement names them) -/
namespace Jvm.Pilot.@@N@@
namespace StrChars
open Jvm Sem ClassFile Op Lib Jvm.Stand Jvm.Free.XT Jvm.Free.ALB Jvm.Free.JM Jvm.Free
open Jvm.Lib.Cold (StaticIs)
/-- a char array whose places are chars -/
def Ch (a : Addr) (A : Cell) (U : State) : Prop := Arr .char a A U ∧ Typed .char A
theorem Ch.mv {a : Addr} {A : Cell} {U U' : State} (h : Ch a A U) (hal : U.vm.Alike U'.vm) (hh : U'.heap = U.heap) : Ch a A U' := ⟨h.1.mv hal hh, h.2⟩
theorem Ch.keep {a : Addr} {A : Cell} {U U' : State} (h : Ch a A U) (hal : U.vm.Alike U'.vm) (hk : U'.heap[a]? = some A) : Ch a A U' := ⟨h.1.keep hal hk, h.2⟩
/-- what place i of a char[]'s cell holds -/
def cv (A : Cell) (i : Nat) : Int32 := match A.slots[i]? with | some (.int x) => x | _ => 0
theorem Ch.get {a : Addr} {A : Cell} {U : State} (h : Ch a A U) {i : Nat} (hi : i < A.slots.size) : A.slots[i]? = some (.int (cv A i)) := by
  have e := Array.getElem?_eq_getElem hi
  have f := h.2 i _ e
  unfold cv; rw [e]
  generalize A.slots[i] = v at f
  cases v <;> simp [fits] at f ⊢
/-- the byte that i2b leaves of a char -/
def lo8 (x : Int32) : Int32 := x.toInt8.toInt32
theorem fits_lo8 (y : Int32) : fits .byte (.int (lo8 y)) = true := by
  have h1 := y.toInt8.le_toInt
  have h2 := y.toInt8.toInt_lt
  simp only [lo8, fits, Bool.and_eq_true, decide_eq_true_eq, Int32.le_iff_toInt_le, Int8.toInt_toInt32, show (-128 : Int32).toInt = -128 from by decide, show (127 : Int32).toInt = 127 from by decide]
  omega
/-- A' is A but that each place j of lo .. hi - 1 holds f j -/
def Laid (A A' : Cell) (lo hi : Nat) (f : Nat → Value) : Prop := A'.cls = A.cls ∧ A'.vm = A.vm ∧ A'.slots.size = A.slots.size ∧ ∀ i, A'.slots[i]? = if lo ≤ i ∧ i < hi then some (f i) else A.slots[i]?
theorem Laid.zero (A : Cell) (lo : Nat) (f : Nat → Value) : Laid A A lo (lo + 0) f := ⟨rfl, rfl, rfl, fun i => by rw [if_neg (by omega)]⟩
theorem Laid.step {A Ak : Cell} {lo k : Nat} {f : Nat → Value} {v : Value} (h : Laid A Ak lo k f) (hlo : lo ≤ k) (hk : k < Ak.slots.size) (hv : v = f k) : Laid A (Ak.setSlot k v) lo (k + 1) f := by
  refine ⟨h.1, h.2.1, by simpa [Cell.setSlot] using h.2.2.1, fun i => ?_⟩
  by_cases e : k = i
  · subst e; rw [Cell.slots_setSlot_self v hk, if_pos (by omega), hv]
  · rw [Cell.slots_setSlot_ne v e, h.2.2.2 i]
    by_cases q : lo ≤ i ∧ i < k
    · rw [if_pos q, if_pos (by omega)]
    · rw [if_neg q, if_neg (by omega)]
def U16 : String := "java/lang/StringUTF16"
namespace Cmp5
def yN : MethodName := ⟨"java/lang/StringUTF16", "compress", "([CI[BII)I"⟩
abbrev yB : ByteArray := jdk_52_method_21_code
theorem d0 : decode yB 0 = .ok (.iconst 0, 1) := by decide +kernel
theorem d1 : decode yB 1 = .ok (.istore 5, 2) := by decide +kernel
theorem d3 : decode yB 3 = .ok (.iload 5, 2) := by decide +kernel
theorem d5 : decode yB 5 = .ok (.iload 4, 2) := by decide +kernel
theorem d7 : decode yB 7 = .ok (.if_icmp (.ge) 37, 3) := by decide +kernel
theorem d10 : decode yB 10 = .ok (.aload_n 0, 1) := by decide +kernel
theorem d11 : decode yB 11 = .ok (.iload_n 1, 1) := by decide +kernel
theorem d12 : decode yB 12 = .ok (.caload, 1) := by decide +kernel
theorem d13 : decode yB 13 = .ok (.istore 6, 2) := by decide +kernel
theorem d15 : decode yB 15 = .ok (.iload 6, 2) := by decide +kernel
theorem d17 : decode yB 17 = .ok (.sipush 255, 3) := by decide +kernel
theorem d20 : decode yB 20 = .ok (.if_icmp (.le) 6, 3) := by decide +kernel
theorem d26 : decode yB 26 = .ok (.aload_n 2, 1) := by decide +kernel
theorem d27 : decode yB 27 = .ok (.iload_n 3, 1) := by decide +kernel
theorem d28 : decode yB 28 = .ok (.iload 6, 2) := by decide +kernel
theorem d30 : decode yB 30 = .ok (.i2b, 1) := by decide +kernel
theorem d31 : decode yB 31 = .ok (.bastore, 1) := by decide +kernel
theorem d32 : decode yB 32 = .ok (.iinc 1 1, 3) := by decide +kernel
theorem d35 : decode yB 35 = .ok (.iinc 3 1, 3) := by decide +kernel
theorem d38 : decode yB 38 = .ok (.iinc 5 1, 3) := by decide +kernel
theorem d41 : decode yB 41 = .ok (.goto (-38), 3) := by decide +kernel
theorem d44 : decode yB 44 = .ok (.iload 4, 2) := by decide +kernel
theorem d46 : decode yB 46 = .ok (.ireturn, 1) := by decide +kernel
def site : List Cond := []
def tab : Cond := tabOf yN yB 7 (some .int) site
def P (b : Addr) (A : Cell) (d : Addr) (B : Cell) (o q len : Nat) (args : Array Value) (s : State) : Prop := args = #[.ref b, .int (Int32.ofNat o), .ref d, .int (Int32.ofNat q), .int (Int32.ofNat len)] ∧ Ch b A s ∧ Arr .byte d B s ∧ b ≠ d ∧ o + len ≤ A.slots.size ∧ q + len ≤ B.slots.size ∧ ∀ i, i < len → ¬ 255 < cv A (o + i)
def E (b : Addr) (A : Cell) (d : Addr) (B : Cell) (o q len : Nat) (r : Option Value) (s u : State) : Prop := r = some (.int (Int32.ofNat len)) ∧ ∃ B', Put d B' s u ∧ Laid B B' q (q + len) (fun j => Value.int (lo8 (cv A (o + (j - q)))))
/-- no char of the range above 255: len; the places written hold each char's low byte -/
theorem law (l : Launch) (b : Addr) (A : Cell) (d : Addr) (B : Cell) (o q len : Nat) : Law l yN 5 5 0 0 yB 7 (some .int) site (P b A d B o q len) (E b A d B o q len) (copyLocs d q len) 0 0 := by
  refine Law.of_walk (plainFor_of_name (by decide +kernel)) (by decide +kernel) (by decide +kernel) (by decide) (fun _ _ h => by rw [h.1]; rfl) (fun _ U U' hal hh h => ⟨h.1, h.2.1.mv hal hh, h.2.2.1.mv hal hh, h.2.2.2⟩) (fun r U U' V V' h1 hal h2 h => ⟨h.1, h.2.elim fun B' q => ⟨B', q.1.mv h1 h2, q.2⟩⟩) ?_
  intro p e s m args below meth c s₁ X0 hexec hbytes hml hret hlk hnm hown hh0 W hP
  obtain ⟨rfl, hA, hB, hne, l1, l2, hp⟩ := hP
  have c1 : Steps p.tables e below (s₁.setTop (entryFrame m #[.ref b, .int (Int32.ofNat o), .ref d, .int (Int32.ofNat q), .int (Int32.ofNat len)] 7)) (s₁.setTop (mkF m 0 #[.val (.ref b), .val (.int (Int32.ofNat o)), .val (.ref d), .val (.int (Int32.ofNat q)), .val (.int (Int32.ofNat len)), .unset, .unset] [])) := entry rfl
  have hA0 := hA.1.mv X0.warmed.alike hh0
  have hB0 := hB.mv X0.warmed.alike hh0
  have a31 := hA.1.2.2.2
  have c2 : Steps p.tables e below (s₁.setTop (entryFrame m #[.ref b, .int (Int32.ofNat o), .ref d, .int (Int32.ofNat q), .int (Int32.ofNat len)] 7)) (s₁.setTop (mkF m 3 #[.val (.ref b), .val (.int (Int32.ofNat o)), .val (.ref d), .val (.int (Int32.ofNat q)), .val (.int (Int32.ofNat len)), .val (.int 0), .unset] [])) := c1.trans (by
    refine iconstV X0.here hexec rfl 0 (hb hbytes d0) (by decide) ?_
    refine XS.istore X0.here hexec rfl (hb hbytes d1) rfl rfl ?_
    exact Steps.refl _)
  have loop : ∀ (r i : Nat), i + r = len → ∀ (z : Slot), (z = .unset ∨ ∃ w, z = .val w ∧ w.category = 1) → ∀ (Tl : State) (Bk : Cell), Stand p l e { frames := 0, locals := 0, cells := 0, slots := 0 } s m #[.ref b, .int (Int32.ofNat o), .ref d, .int (Int32.ofNat q), .int (Int32.ofNat len)] below meth c Tl ([] ++ copyLocs d q i) 0 0 → Put d Bk s₁ Tl → Laid B Bk q (q + i) (fun j => Value.int (lo8 (cv A (o + (j - q))))) →
      Steps p.tables e below (s₁.setTop (entryFrame m #[.ref b, .int (Int32.ofNat o), .ref d, .int (Int32.ofNat q), .int (Int32.ofNat len)] 7)) (Tl.setTop (mkF m 3 #[.val (.ref b), .val (.int (Int32.ofNat (o + i))), .val (.ref d), .val (.int (Int32.ofNat (q + i))), .val (.int (Int32.ofNat len)), .val (.int (Int32.ofNat i)), z] [])) → ∃ (T' : State) (B' : Cell) (z' : Slot), Stand p l e { frames := 0, locals := 0, cells := 0, slots := 0 } s m #[.ref b, .int (Int32.ofNat o), .ref d, .int (Int32.ofNat q), .int (Int32.ofNat len)] below meth c T' ([] ++ copyLocs d q len) 0 0 ∧ Put d B' s₁ T' ∧ Laid B B' q (q + len) (fun j => Value.int (lo8 (cv A (o + (j - q))))) ∧
      Steps p.tables e below (s₁.setTop (entryFrame m #[.ref b, .int (Int32.ofNat o), .ref d, .int (Int32.ofNat q), .int (Int32.ofNat len)] 7)) (T'.setTop (mkF m 3 #[.val (.ref b), .val (.int (Int32.ofNat (o + len))), .val (.ref d), .val (.int (Int32.ofNat (q + len))), .val (.int (Int32.ofNat len)), .val (.int (Int32.ofNat len)), z'] [])) := by
    intro r
    induction r with
    | zero =>
      intro i hi z hz Tl Bk Xl pl fl cl
      have hil : i = len := by omega
      rw [hil] at Xl fl cl
      exact ⟨Tl, Bk, z, Xl, pl, fl, cl⟩
    | succ r ih =>
      intro i hi z hz Tl Bk Xl pl fl cl
      have all := X0.warmed.alike.symm.trans Xl.warmed.alike
      have hAl := hA0.keep all (pl.other hne hA0.1)
      have hBk := hB0.like all pl.1 fl.1 fl.2.1 fl.2.2.1
      have hlt : q + i < Bk.slots.size := by rw [fl.2.2.1]; omega
      have c3 : Steps p.tables e below (s₁.setTop (entryFrame m #[.ref b, .int (Int32.ofNat o), .ref d, .int (Int32.ofNat q), .int (Int32.ofNat len)] 7)) (Tl.setTop (mkF m 12 #[.val (.ref b), .val (.int (Int32.ofNat (o + i))), .val (.ref d), .val (.int (Int32.ofNat (q + i))), .val (.int (Int32.ofNat len)), .val (.int (Int32.ofNat i)), z] [.int (Int32.ofNat (o + i)), .ref b])) := cl.trans (by
        refine XS.iload Xl.here hexec rfl (hb hbytes d3) rfl ?_
        refine XS.iload Xl.here hexec rfl (hb hbytes d5) rfl ?_
        refine XS.icmpNo Xl.here hexec rfl (hb hbytes d7) rfl (ii_ge_f (lt32 (by omega) (by omega))) ?_
        refine XS.aloadN Xl.here hexec rfl (hb hbytes d10) rfl rfl ?_
        refine XS.iloadN Xl.here hexec rfl (hb hbytes d11) rfl ?_
        exact Steps.refl _)
      have c4 : Steps p.tables e below (s₁.setTop (entryFrame m #[.ref b, .int (Int32.ofNat o), .ref d, .int (Int32.ofNat q), .int (Int32.ofNat len)] 7)) (Tl.setTop (mkF m 13 #[.val (.ref b), .val (.int (Int32.ofNat (o + i))), .val (.ref d), .val (.int (Int32.ofNat (q + i))), .val (.int (Int32.ofNat len)), .val (.int (Int32.ofNat i)), z] [.int (cv A (o + i))])) := c3.trans (by
        refine Xl.aget hexec hAl rfl (hA.get (i := o + i) (by omega)) rfl rfl (hb hbytes d12) ?_
        exact Steps.refl _)
      have c5 : Steps p.tables e below (s₁.setTop (entryFrame m #[.ref b, .int (Int32.ofNat o), .ref d, .int (Int32.ofNat q), .int (Int32.ofNat len)] 7)) (Tl.setTop (mkF m 15 #[.val (.ref b), .val (.int (Int32.ofNat (o + i))), .val (.ref d), .val (.int (Int32.ofNat (q + i))), .val (.int (Int32.ofNat len)), .val (.int (Int32.ofNat i)), .val (.int (cv A (o + i)))] [])) := c4.trans (by
        refine XS.istoreS Xl.here hexec rfl (hb hbytes d13) rfl rfl hz ?_
        exact Steps.refl _)
      have c6 : Steps p.tables e below (s₁.setTop (entryFrame m #[.ref b, .int (Int32.ofNat o), .ref d, .int (Int32.ofNat q), .int (Int32.ofNat len)] 7)) (Tl.setTop (mkF m 31 #[.val (.ref b), .val (.int (Int32.ofNat (o + i))), .val (.ref d), .val (.int (Int32.ofNat (q + i))), .val (.int (Int32.ofNat len)), .val (.int (Int32.ofNat i)), .val (.int (cv A (o + i)))] [.int (lo8 (cv A (o + i))), .int (Int32.ofNat (q + i)), .ref d])) := c5.trans (by
        refine XS.iload Xl.here hexec rfl (hb hbytes d15) rfl ?_
        refine sipushV Xl.here hexec rfl 255 (hb hbytes d17) (by decide) ?_
        refine XS.icmpYes Xl.here hexec rfl (pc0 := 20) rfl (hb hbytes d20) rfl (ii_le_t (hp i (by omega))) (by decide) rfl ?_
        refine XS.aloadN Xl.here hexec rfl (hb hbytes d26) rfl rfl ?_
        refine XS.iloadN Xl.here hexec rfl (hb hbytes d27) rfl ?_
        refine XS.iload Xl.here hexec rfl (hb hbytes d28) rfl ?_
        refine i2b Xl.here hexec rfl (hb hbytes d30) rfl ?_
        exact Steps.refl _)
      obtain ⟨T7, X7, p7, st7⟩ := Xl.aput hexec hBk rfl hlt rfl (fits_lo8 (cv A (o + i))) (g := (mkF m 31 #[.val (.ref b), .val (.int (Int32.ofNat (o + i))), .val (.ref d), .val (.int (Int32.ofNat (q + i))), .val (.int (Int32.ofNat len)), .val (.int (Int32.ofNat i)), .val (.int (cv A (o + i)))] [.int (lo8 (cv A (o + i))), .int (Int32.ofNat (q + i)), .ref d])) rfl (rest := []) rfl (hb hbytes d31)
      have c8 : Steps p.tables e below (s₁.setTop (entryFrame m #[.ref b, .int (Int32.ofNat o), .ref d, .int (Int32.ofNat q), .int (Int32.ofNat len)] 7)) (T7.setTop (mkF m 32 #[.val (.ref b), .val (.int (Int32.ofNat (o + i))), .val (.ref d), .val (.int (Int32.ofNat (q + i))), .val (.int (Int32.ofNat len)), .val (.int (Int32.ofNat i)), .val (.int (cv A (o + i)))] [])) := c6.trans (st7 _ (Steps.refl _))
      have c9 : Steps p.tables e below (s₁.setTop (entryFrame m #[.ref b, .int (Int32.ofNat o), .ref d, .int (Int32.ofNat q), .int (Int32.ofNat len)] 7)) (T7.setTop (mkF m 3 #[.val (.ref b), .val (.int (Int32.ofNat (o + i) + 1)), .val (.ref d), .val (.int (Int32.ofNat (q + i) + 1)), .val (.int (Int32.ofNat len)), .val (.int (Int32.ofNat i + 1)), .val (.int (cv A (o + i)))] [])) := c8.trans (by
        refine iincV X7.here hexec rfl 1 (hb hbytes d32) (by decide) rfl rfl ?_
        refine iincV X7.here hexec rfl 1 (hb hbytes d35) (by decide) rfl rfl ?_
        refine iincV X7.here hexec rfl 1 (hb hbytes d38) (by decide) rfl rfl ?_
        refine XS.goto X7.here hexec rfl (pc0 := 41) rfl (hb hbytes d41) (by decide) rfl ?_
        exact Steps.refl _)
      have c10 : Steps p.tables e below (s₁.setTop (entryFrame m #[.ref b, .int (Int32.ofNat o), .ref d, .int (Int32.ofNat q), .int (Int32.ofNat len)] 7)) (T7.setTop (mkF m 3 #[.val (.ref b), .val (.int (Int32.ofNat (o + (i + 1)))), .val (.ref d), .val (.int (Int32.ofNat (q + (i + 1)))), .val (.int (Int32.ofNat len)), .val (.int (Int32.ofNat (i + 1))), .val (.int (cv A (o + i)))] [])) := by
        have := c9
        rw [succ32, succ32, succ32] at this
        exact this
      exact ih (i + 1) (by omega) _ (Or.inr ⟨_, rfl, rfl⟩) T7 _ (by rw [copyLocs_step, ← List.append_assoc]; exact X7) (pl.trans p7) (fl.step (by omega) hlt (by simp)) c10
  obtain ⟨T9, B9, z9, X9, p9, f9, g9⟩ := loop len 0 (by omega) .unset (Or.inl rfl) s₁ B (by simpa [copyLocs] using X0) ⟨hB0.1, fun _ _ => rfl, rfl⟩ (Laid.zero _ _ _) c2
  have c11 : Steps p.tables e below (s₁.setTop (entryFrame m #[.ref b, .int (Int32.ofNat o), .ref d, .int (Int32.ofNat q), .int (Int32.ofNat len)] 7)) (T9.setTop (mkF m 46 #[.val (.ref b), .val (.int (Int32.ofNat (o + len))), .val (.ref d), .val (.int (Int32.ofNat (q + len))), .val (.int (Int32.ofNat len)), .val (.int (Int32.ofNat len)), z9] [.int (Int32.ofNat len)])) := g9.trans (by
    refine XS.iload X9.here hexec rfl (hb hbytes d3) rfl ?_
    refine XS.iload X9.here hexec rfl (hb hbytes d5) rfl ?_
    refine XS.icmpYes X9.here hexec rfl (pc0 := 7) rfl (hb hbytes d7) rfl (ii_ge_t (nlt32 (by omega) (Nat.le_refl _))) (by decide) rfl ?_
    refine XS.iload X9.here hexec rfl (hb hbytes d44) rfl ?_
    exact Steps.refl _)
  exact ⟨T9, some (.int (Int32.ofNat len)), _, _, _, X9, by simp, rfl, rfl, (fun h => by cases h), ⟨rfl, B9, p9.from hh0, f9⟩, fun fs hl => c11.trans (X9.ireturnOut hexec hret rfl (Or.inl rfl) (hb hbytes d46) hl)⟩
end Cmp5
namespace Cmp3
def yN : MethodName := ⟨"java/lang/StringUTF16", "compress", "([CII)[B"⟩
abbrev yB : ByteArray := jdk_52_method_16_code
theorem d0 : decode yB 0 = .ok (.iload_n 2, 1) := by decide +kernel
theorem d1 : decode yB 1 = .ok (.newarray .byte, 2) := by decide +kernel
theorem d3 : decode yB 3 = .ok (.astore_n 3, 1) := by decide +kernel
theorem d4 : decode yB 4 = .ok (.aload_n 0, 1) := by decide +kernel
theorem d5 : decode yB 5 = .ok (.iload_n 1, 1) := by decide +kernel
theorem d6 : decode yB 6 = .ok (.aload_n 3, 1) := by decide +kernel
theorem d7 : decode yB 7 = .ok (.iconst 0, 1) := by decide +kernel
theorem d8 : decode yB 8 = .ok (.iload_n 2, 1) := by decide +kernel
theorem d9 : decode yB 9 = .ok (.invokestatic 115, 3) := by decide +kernel
theorem d12 : decode yB 12 = .ok (.istore 4, 2) := by decide +kernel
theorem d14 : decode yB 14 = .ok (.iload 4, 2) := by decide +kernel
theorem d16 : decode yB 16 = .ok (.iload_n 2, 1) := by decide +kernel
theorem d17 : decode yB 17 = .ok (.if_icmp (.eq) 40, 3) := by decide +kernel
theorem d57 : decode yB 57 = .ok (.aload_n 3, 1) := by decide +kernel
theorem d58 : decode yB 58 = .ok (.areturn, 1) := by decide +kernel
def site : List Cond := [.arrayClass .byte, Cmp5.tab] ++ staticW U16 115 Cmp5.yN
def tab : Cond := tabOf yN yB 6 (some (.array .byte)) site
def P (b : Addr) (A : Cell) (o len : Nat) (args : Array Value) (s : State) : Prop := args = #[.ref b, .int (Int32.ofNat o), .int (Int32.ofNat len)] ∧ Ch b A s ∧ o + len ≤ A.slots.size ∧ len ≤ 536870912 ∧ ∀ i, i < len → ¬ 255 < cv A (o + i)
def E (b : Addr) (A : Cell) (o len : Nat) (r : Option Value) (s u : State) : Prop := NewArr .byte "[B" len (fun j => .int (lo8 (cv A (o + j)))) r s u ∧ u.heap.size = s.heap.size + 1
/-- no char of the range above 255: a new byte[] of their low bytes -/
theorem law (l : Launch) (b : Addr) (A : Cell) (o len : Nat) : Law l yN 3 3 1 18 yB 6 (some (.array .byte)) site (P b A o len) (E b A o len) [] 1 len := by
  refine Law.of_walk (plainFor_of_name (by decide +kernel)) (by decide +kernel) (by decide +kernel) (by decide) (fun _ _ h => by rw [h.1]; rfl) (fun _ U U' hal hh h => ⟨h.1, h.2.1.mv hal hh, h.2.2⟩) (fun r U U' V V' h1 hal h2 h => ⟨NewArr.mv r U U' V V' h1 hal h2 h.1, by rw [h1, h2]; exact h.2⟩) ?_
  intro p e s m args below meth c s₁ X0 hexec hbytes hml hret hlk hnm hown hh0 W hP
  obtain ⟨rfl, hA, l1, l2, hp⟩ := hP
  have a31 := hA.1.2.2.2
  have c1 : Steps p.tables e below (s₁.setTop (entryFrame m #[.ref b, .int (Int32.ofNat o), .int (Int32.ofNat len)] 6)) (s₁.setTop (mkF m 0 #[.val (.ref b), .val (.int (Int32.ofNat o)), .val (.int (Int32.ofNat len)), .unset, .unset, .unset] [])) := entry rfl
  have c2 : Steps p.tables e below (s₁.setTop (entryFrame m #[.ref b, .int (Int32.ofNat o), .int (Int32.ofNat len)] 6)) (s₁.setTop (mkF m 1 #[.val (.ref b), .val (.int (Int32.ofNat o)), .val (.int (Int32.ofNat len)), .unset, .unset, .unset] [.int (Int32.ofNat len)])) := c1.trans (by
    refine XS.iloadN X0.here hexec rfl (hb hbytes d0) rfl ?_
    exact Steps.refl _)
  obtain ⟨T3, B3, X3, ba3, bs3, bv3, bh3, bf3, st3⟩ := X0.anew hexec (atype := .byte) (wk W (.arrayClass .byte)) rfl (by show len * 1 ≤ _; omega) (by omega) (g := (mkF m 1 #[.val (.ref b), .val (.int (Int32.ofNat o)), .val (.int (Int32.ofNat len)), .unset, .unset, .unset] [.int (Int32.ofNat len)])) rfl (hb hbytes d1) (rest := []) rfl (Nat.le_refl _) (by show 0 + len ≤ len; omega)
  rw [hh0] at ba3 st3
  have kp3 : XT.Kept s T3 := (XT.Kept.of_eq hh0).push bh3
  have hA3 := hA.keep X3.warmed.alike (kp3 _ _ hA.1.1)
  have hne : b ≠ s.heap.size := hA.1.ne
  have c4 : Steps p.tables e below (s₁.setTop (entryFrame m #[.ref b, .int (Int32.ofNat o), .int (Int32.ofNat len)] 6)) (T3.setTop (mkF m 3 #[.val (.ref b), .val (.int (Int32.ofNat o)), .val (.int (Int32.ofNat len)), .unset, .unset, .unset] [.ref s.heap.size])) := c2.trans (st3 _ (Steps.refl _))
  have c5 : Steps p.tables e below (s₁.setTop (entryFrame m #[.ref b, .int (Int32.ofNat o), .int (Int32.ofNat len)] 6)) (T3.setTop (mkF m 9 #[.val (.ref b), .val (.int (Int32.ofNat o)), .val (.int (Int32.ofNat len)), .val (.ref s.heap.size), .unset, .unset] [.int (Int32.ofNat len), .int 0, .ref s.heap.size, .int (Int32.ofNat o), .ref b])) := c4.trans (by
    refine XS.astoreN X3.here hexec rfl (hb hbytes d3) rfl rfl rfl ?_
    refine XS.aloadN X3.here hexec rfl (hb hbytes d4) rfl rfl ?_
    refine XS.iloadN X3.here hexec rfl (hb hbytes d5) rfl ?_
    refine XS.aloadN X3.here hexec rfl (hb hbytes d6) rfl rfl ?_
    refine iconstV X3.here hexec rfl 0 (hb hbytes d7) (by decide) ?_
    refine XS.iloadN X3.here hexec rfl (hb hbytes d8) rfl ?_
    exact Steps.refl _)
  obtain ⟨v6, T6, X6, E6, g6⟩ := X3.callS hexec (Cmp5.law l b A s.heap.size B3 o 0 len) hown (wks W (staticW U16 115 Cmp5.yN)) (wk W Cmp5.tab) (W := 0) (Nat.le_of_ble_eq_true rfl) (Nat.le_of_ble_eq_true rfl) (Nat.le_refl _) (by show 0 + len + 0 ≤ len; omega) (g := (mkF m 9 #[.val (.ref b), .val (.int (Int32.ofNat o)), .val (.int (Int32.ofNat len)), .val (.ref s.heap.size), .unset, .unset] [.int (Int32.ofNat len), .int (Int32.ofNat 0), .ref s.heap.size, .int (Int32.ofNat o), .ref b])) rfl (by rw [hml]; rfl) c5 (argsL := [.ref b, .int (Int32.ofNat o), .ref s.heap.size, .int (Int32.ofNat 0), .int (Int32.ofNat len)]) (rest := []) rfl rfl (by show 2 * 0 + 0 ≤ _; decide) (hb hbytes d9) (⟨rfl, hA3, ba3, hne, l1, by rw [bs3]; simp, hp⟩)
  obtain ⟨rfl, B6, p6, f6⟩ := E6
  have c7 : Steps p.tables e below (s₁.setTop (entryFrame m #[.ref b, .int (Int32.ofNat o), .int (Int32.ofNat len)] 6)) (T6.setTop (mkF m 12 #[.val (.ref b), .val (.int (Int32.ofNat o)), .val (.int (Int32.ofNat len)), .val (.ref s.heap.size), .unset, .unset] [.int (Int32.ofNat len)])) := g6
  have c8 : Steps p.tables e below (s₁.setTop (entryFrame m #[.ref b, .int (Int32.ofNat o), .int (Int32.ofNat len)] 6)) (T6.setTop (mkF m 58 #[.val (.ref b), .val (.int (Int32.ofNat o)), .val (.int (Int32.ofNat len)), .val (.ref s.heap.size), .val (.int (Int32.ofNat len)), .unset] [.ref s.heap.size])) := c7.trans (by
    refine XS.istore X6.here hexec rfl (hb hbytes d12) rfl rfl ?_
    refine XS.iload X6.here hexec rfl (hb hbytes d14) rfl ?_
    refine XS.iloadN X6.here hexec rfl (hb hbytes d16) rfl ?_
    refine XS.icmpYes X6.here hexec rfl (pc0 := 17) rfl (hb hbytes d17) rfl (ii_eq_t rfl) (by decide) rfl ?_
    refine XS.aloadN X6.here hexec rfl (hb hbytes d57) rfl rfl ?_
    exact Steps.refl _)
  have X8 := X6.wide (L' := []) (cells' := 1) (slots' := len) (fun x hx hlt => by
    simp only [List.nil_append, copyLocs, List.mem_map, List.mem_range] at hx
    obtain ⟨i, -, rfl⟩ := hx
    exact absurd hlt (Nat.lt_irrefl _)) (Nat.le_refl _) (by omega)
  exact ⟨T6, some (.ref s.heap.size), _, _, _, X8, rfl, rfl, rfl, (fun h => by cases h), ⟨⟨rfl, B6, ba3.like (X3.warmed.alike.symm.trans X6.warmed.alike) p6.1 f6.1 f6.2.1 f6.2.2.1, f6.2.1.trans bv3, by rw [X6.warmed.alike.findClass, f6.1]; exact bf3, by rw [f6.2.2.1, bs3]; simp, fun j hj => by rw [f6.2.2.2 j, if_pos (by omega)]; rfl, kp3.put p6 (Nat.le_refl _)⟩, by rw [p6.2.2, bh3, hh0]; simp⟩, fun fs hl => c8.trans (X8.areturnOut hexec rfl hret rfl (hb hbytes d58) hl)⟩
end Cmp3
namespace CodL
def yN : MethodName := ⟨"java/lang/StringUTF16", "coderFromArrayLen", "([BI)B"⟩
abbrev yB : ByteArray := jdk_52_method_15_code
theorem d0 : decode yB 0 = .ok (.iload_n 1, 1) := by decide +kernel
theorem d1 : decode yB 1 = .ok (.aload_n 0, 1) := by decide +kernel
theorem d2 : decode yB 2 = .ok (.arraylength, 1) := by decide +kernel
theorem d3 : decode yB 3 = .ok (.isub, 1) := by decide +kernel
theorem d4 : decode yB 4 = .ok (.bipush 31, 2) := by decide +kernel
theorem d6 : decode yB 6 = .ok (.iushr, 1) := by decide +kernel
theorem d7 : decode yB 7 = .ok (.i2b, 1) := by decide +kernel
theorem d8 : decode yB 8 = .ok (.ireturn, 1) := by decide +kernel
def site : List Cond := []
def tab : Cond := tabOf yN yB 2 (some .byte) site
def P (d : Addr) (B : Cell) (args : Array Value) (s : State) : Prop := args = #[.ref d, .int (Int32.ofNat B.slots.size)] ∧ Arr .byte d B s
def E (r : Option Value) (s u : State) : Prop := XT.PureE (some (.int 0)) r s u
/-- an array as long as the number of chars: LATIN1 -/
theorem law (l : Launch) (d : Addr) (B : Cell) : Law l yN 2 2 0 0 yB 2 (some .byte) site (P d B) E [] 0 0 := by
  refine Law.of_walk (plainFor_of_name (by decide +kernel)) (by decide +kernel) (by decide +kernel) (by decide) (fun _ _ h => by rw [h.1]; rfl) (fun _ U U' hal hh h => ⟨h.1, h.2.mv hal hh⟩) (fun r U U' V V' h1 hal h2 h => XT.PureE.mv r U U' V V' h1 hal h2 h) ?_
  intro p e s m args below meth c s₁ X0 hexec hbytes hml hret hlk hnm hown hh0 W hP
  obtain ⟨rfl, hB⟩ := hP
  have hB0 := hB.mv X0.warmed.alike hh0
  have c1 : Steps p.tables e below (s₁.setTop (entryFrame m #[.ref d, .int (Int32.ofNat B.slots.size)] 2)) (s₁.setTop (mkF m 0 #[.val (.ref d), .val (.int (Int32.ofNat B.slots.size))] [])) := entry rfl
  have c2 : Steps p.tables e below (s₁.setTop (entryFrame m #[.ref d, .int (Int32.ofNat B.slots.size)] 2)) (s₁.setTop (mkF m 2 #[.val (.ref d), .val (.int (Int32.ofNat B.slots.size))] [.ref d, .int (Int32.ofNat B.slots.size)])) := c1.trans (by
    refine XS.iloadN X0.here hexec rfl (hb hbytes d0) rfl ?_
    refine XS.aloadN X0.here hexec rfl (hb hbytes d1) rfl rfl ?_
    exact Steps.refl _)
  have c3 : Steps p.tables e below (s₁.setTop (entryFrame m #[.ref d, .int (Int32.ofNat B.slots.size)] 2)) (s₁.setTop (mkF m 8 #[.val (.ref d), .val (.int (Int32.ofNat B.slots.size))] [.int (lo8 (ushr (Int32.ofNat B.slots.size - Int32.ofNat B.slots.size) 31))])) := c2.trans (by
    refine X0.alen hexec hB0 rfl rfl (hb hbytes d2) ?_
    refine XS.isub X0.here hexec rfl (hb hbytes d3) rfl ?_
    refine bipushV X0.here hexec rfl 31 (hb hbytes d4) (by decide) ?_
    refine iushr X0.here hexec rfl (hb hbytes d6) rfl ?_
    refine i2b X0.here hexec rfl (hb hbytes d7) rfl ?_
    exact Steps.refl _)
  have e0 : lo8 (ushr (Int32.ofNat B.slots.size - Int32.ofNat B.slots.size) 31) = 0 := by rw [Int32.sub_self]; decide
  rw [e0] at c3
  exact ⟨s₁, some (.int 0), _, _, _, X0, rfl, rfl, rfl, (fun h => by cases h), ⟨rfl, hh0⟩, fun fs hl => c3.trans (X0.ireturnOut hexec hret rfl (Or.inr (Or.inr (Or.inl rfl))) (hb hbytes d8) hl)⟩
end CodL
/-- the String at a is Latin-1 over a new byte[] (the heap's one new cell): the low bytes of the len chars of A from o on; every cell but a is kept -/
def Got (a : Addr) (D : Cell) (fV fC : Field) (A : Cell) (o len : Nat) (r : Option Value) (s u : State) : Prop := r = none ∧ ∃ D' V : Cell, Blank "java/lang/String" a D' u ∧ Same D D' [fV.slot, fC.slot] ∧ D'.slots[fV.slot]? = some (.ref s.heap.size) ∧ D'.slots[fC.slot]? = some (.int 0) ∧ Arr .byte s.heap.size V u ∧ V.vm = .none ∧ u.vm.findClass "[B" = some V.cls ∧ V.slots.size = len ∧ (∀ j, j < len → V.slots[j]? = some (.int (lo8 (cv A (o + j))))) ∧ (∀ (y : Addr) (c : Cell), y ≠ a → s.heap[y]? = some c → u.heap[y]? = some c) ∧ u.heap.size = s.heap.size + 1
theorem Got.mv {a : Addr} {D A : Cell} {fV fC : Field} {o len : Nat} : ∀ r (U U' V V' : State), U'.heap = U.heap → V.vm.Alike V'.vm → V'.heap = V.heap → Got a D fV fC A o len r U V → Got a D fV fC A o len r U' V' :=
  fun r U U' V V' h1 hal h2 ⟨e0, D', X, a1, a2, a3, a4, a5, a6, a7, a8, a9, a10, a11⟩ => ⟨e0, D', X, a1.mv hal h2, a2, by rw [h1]; exact a3, a4, by rw [h1]; exact a5.mv hal h2, a6, by rw [hal.findClass]; exact a7, a8, a9, by rw [h1, h2]; exact a10, by rw [h1, h2]; exact a11⟩
namespace New4
def yN : MethodName := ⟨"java/lang/String", "<init>", "([CIILjava/lang/Void;)V"⟩
abbrev yB : ByteArray := jdk_42_method_149_code
theorem d0 : decode yB 0 = .ok (.aload_n 0, 1) := by decide +kernel
theorem d1 : decode yB 1 = .ok (.invokespecial 1, 3) := by decide +kernel
theorem d4 : decode yB 4 = .ok (.iload_n 3, 1) := by decide +kernel
theorem d5 : decode yB 5 = .ok (.ifCond (.ne) 22, 3) := by decide +kernel
theorem d27 : decode yB 27 = .ok (.getstatic 38, 3) := by decide +kernel
theorem d30 : decode yB 30 = .ok (.ifCond (.eq) 28, 3) := by decide +kernel
theorem d33 : decode yB 33 = .ok (.aload_n 1, 1) := by decide +kernel
theorem d34 : decode yB 34 = .ok (.iload_n 2, 1) := by decide +kernel
theorem d35 : decode yB 35 = .ok (.iload_n 3, 1) := by decide +kernel
theorem d36 : decode yB 36 = .ok (.invokestatic 177, 3) := by decide +kernel
theorem d39 : decode yB 39 = .ok (.astore 5, 2) := by decide +kernel
theorem d41 : decode yB 41 = .ok (.aload_n 0, 1) := by decide +kernel
theorem d42 : decode yB 42 = .ok (.aload 5, 2) := by decide +kernel
theorem d44 : decode yB 44 = .ok (.iload_n 3, 1) := by decide +kernel
theorem d45 : decode yB 45 = .ok (.invokestatic 47, 3) := by decide +kernel
theorem d48 : decode yB 48 = .ok (.putfield 15, 3) := by decide +kernel
theorem d51 : decode yB 51 = .ok (.aload_n 0, 1) := by decide +kernel
theorem d52 : decode yB 52 = .ok (.aload 5, 2) := by decide +kernel
theorem d54 : decode yB 54 = .ok (.putfield 9, 3) := by decide +kernel
theorem d57 : decode yB 57 = .ok (.return_, 1) := by decide +kernel
def site : List Cond := [.fieldLink "java/lang/String" 38 "java/lang/String" "COMPACT_STRINGS" "Z", Cmp3.tab, CodL.tab, .laysFinal "java/lang/String" "java/lang/String" "value" "[B", .fieldLink "java/lang/String" 9 "java/lang/String" "value" "[B", .laysFinal "java/lang/String" "java/lang/String" "coder" "B", .fieldLink "java/lang/String" 15 "java/lang/String" "coder" "B"] ++ objW "java/lang/String" 1 ++ staticW "java/lang/String" 177 Cmp3.yN ++ staticW "java/lang/String" 47 CodL.yN
def tab : Cond := tabOf yN yB 6 none site
def P (a : Addr) (D : Cell) (fV fC : Field) (b : Addr) (A : Cell) (z : Int32) (o len : Nat) (args : Array Value) (s : State) : Prop := args = #[.ref a, .ref b, .int (Int32.ofNat o), .int (Int32.ofNat len), .null] ∧ Blank "java/lang/String" a D s ∧ Found "java/lang/String" "value" "[B" fV s ∧ Found "java/lang/String" "coder" "B" fC s ∧ Ch b A s ∧ StaticIs s "java/lang/String" "COMPACT_STRINGS" "Z" (.int z) ∧ ¬ z = 0 ∧ 0 < len ∧ o + len ≤ A.slots.size ∧ len ≤ 536870912 ∧ ∀ i, i < len → ¬ 255 < cv A (o + i)
def E (a : Addr) (D : Cell) (fV fC : Field) (A : Cell) (o len : Nat) (r : Option Value) (s u : State) : Prop := Got a D fV fC A o len r s u
/-- len > 0, no char of the range above 255: a Latin-1 String of their low bytes -/
theorem law (l : Launch) (a : Addr) (D : Cell) (fV fC : Field) (b : Addr) (A : Cell) (z : Int32) (o len : Nat) : Law l yN 5 4 2 35 yB 6 none site (P a D fV fC b A z o len) (E a D fV fC A o len) [⟨a, fC.slot⟩, ⟨a, fV.slot⟩] 1 len := by
  refine Law.of_walk (plainFor_of_name (by decide +kernel)) (by decide +kernel) (by decide +kernel) (by decide) (fun _ _ h => by rw [h.1]; rfl) (fun _ U U' hal hh h => ⟨h.1, h.2.1.mv hal hh, h.2.2.1.al hal, h.2.2.2.1.al hal, h.2.2.2.2.1.mv hal hh, h.2.2.2.2.2.1.there hal hh, h.2.2.2.2.2.2⟩) (fun r U U' V V' h1 hal h2 h => Got.mv r U U' V V' h1 hal h2 h) ?_
  intro p e s m args below meth c s₁ X0 hexec hbytes hml hret hlk hnm hown hh0 W hP
  obtain ⟨rfl, hB, f1, f2, hA, s1, hz, l0, l1, l2, hp⟩ := hP
  have a31 := hA.1.2.2.2
  have c1 : Steps p.tables e below (s₁.setTop (entryFrame m #[.ref a, .ref b, .int (Int32.ofNat o), .int (Int32.ofNat len), .null] 6)) (s₁.setTop (mkF m 0 #[.val (.ref a), .val (.ref b), .val (.int (Int32.ofNat o)), .val (.int (Int32.ofNat len)), .val .null, .unset] [])) := entry rfl
  have c2 : Steps p.tables e below (s₁.setTop (entryFrame m #[.ref a, .ref b, .int (Int32.ofNat o), .int (Int32.ofNat len), .null] 6)) (s₁.setTop (mkF m 1 #[.val (.ref a), .val (.ref b), .val (.int (Int32.ofNat o)), .val (.int (Int32.ofNat len)), .val .null, .unset] [.ref a])) := c1.trans (by
    refine XS.aloadN X0.here hexec rfl (hb hbytes d0) rfl rfl ?_
    exact Steps.refl _)
  obtain ⟨T3, X3, q3, st3⟩ := X0.oinit hexec hown (wks W (objW "java/lang/String" 1)) (g := (mkF m 1 #[.val (.ref a), .val (.ref b), .val (.int (Int32.ofNat o)), .val (.int (Int32.ofNat len)), .val .null, .unset] [.ref a])) rfl (by rw [hml]; rfl) (rest := []) rfl (hb hbytes d1) (W := 0) (by show 2 * 0 + 0 ≤ _; decide) (Nat.le_of_ble_eq_true rfl) (Nat.le_of_ble_eq_true rfl)
  have hh3 := q3.trans hh0
  have c4 : Steps p.tables e below (s₁.setTop (entryFrame m #[.ref a, .ref b, .int (Int32.ofNat o), .int (Int32.ofNat len), .null] 6)) (T3.setTop (mkF m 27 #[.val (.ref a), .val (.ref b), .val (.int (Int32.ofNat o)), .val (.int (Int32.ofNat len)), .val .null, .unset] [])) := (c2.trans (st3 _ (Steps.refl _))).trans (by
    refine XS.iloadN X3.here hexec rfl (hb hbytes d4) rfl ?_
    refine XS.ifYes X3.here hexec rfl (pc0 := 5) rfl (hb hbytes d5) rfl (i0_ne_t (nz32 (by omega) l0)) (by decide) rfl ?_
    exact Steps.refl _)
  obtain ⟨T5, X5, q5, st5⟩ := X3.sget hexec hown (wk W (.fieldLink "java/lang/String" 38 "java/lang/String" "COMPACT_STRINGS" "Z")) s1 (fun _ _ h => by rw [hh3]; exact h) (g := (mkF m 27 #[.val (.ref a), .val (.ref b), .val (.int (Int32.ofNat o)), .val (.int (Int32.ofNat len)), .val .null, .unset] [])) rfl (hb hbytes d27)
  have hh5 := q5.trans hh3
  have c6 : Steps p.tables e below (s₁.setTop (entryFrame m #[.ref a, .ref b, .int (Int32.ofNat o), .int (Int32.ofNat len), .null] 6)) (T5.setTop (mkF m 30 #[.val (.ref a), .val (.ref b), .val (.int (Int32.ofNat o)), .val (.int (Int32.ofNat len)), .val .null, .unset] [.int z])) := c4.trans (st5 _ (Steps.refl _))
  have c7 : Steps p.tables e below (s₁.setTop (entryFrame m #[.ref a, .ref b, .int (Int32.ofNat o), .int (Int32.ofNat len), .null] 6)) (T5.setTop (mkF m 36 #[.val (.ref a), .val (.ref b), .val (.int (Int32.ofNat o)), .val (.int (Int32.ofNat len)), .val .null, .unset] [.int (Int32.ofNat len), .int (Int32.ofNat o), .ref b])) := c6.trans (by
    refine XS.ifNo X5.here hexec rfl (hb hbytes d30) rfl (i0_eq_f hz) ?_
    refine XS.aloadN X5.here hexec rfl (hb hbytes d33) rfl rfl ?_
    refine XS.iloadN X5.here hexec rfl (hb hbytes d34) rfl ?_
    refine XS.iloadN X5.here hexec rfl (hb hbytes d35) rfl ?_
    exact Steps.refl _)
  obtain ⟨v8, T8, X8, E8, g8⟩ := X5.callS hexec (Cmp3.law l b A o len) hown (wks W (staticW "java/lang/String" 177 Cmp3.yN)) (wk W Cmp3.tab) (W := 0) (Nat.le_of_ble_eq_true rfl) (Nat.le_of_ble_eq_true rfl) (Nat.le_refl _) (by show 0 + len ≤ len; omega) (g := (mkF m 36 #[.val (.ref a), .val (.ref b), .val (.int (Int32.ofNat o)), .val (.int (Int32.ofNat len)), .val .null, .unset] [.int (Int32.ofNat len), .int (Int32.ofNat o), .ref b])) rfl (by rw [hml]; rfl) c7 (argsL := [.ref b, .int (Int32.ofNat o), .int (Int32.ofNat len)]) (rest := []) rfl rfl (by show 2 * 0 + 0 ≤ _; decide) (hb hbytes d36) (⟨rfl, hA.mv X5.warmed.alike hh5, l1, l2, hp⟩)
  obtain ⟨e8, z8⟩ := E8
  obtain ⟨rfl, N, n1, n2, n3, n4, n5, n6⟩ := NewArr.mv _ T5 s _ _ hh5.symm (Vm.Alike.refl _) rfl e8
  rw [hh5] at z8
  have hB1 := hB.keep X8.warmed.alike (n6 _ _ hB.1)
  have hne : s.heap.size ≠ a := (Nat.ne_of_lt (Array.getElem?_eq_some_iff.mp hB.1).1).symm
  have c9 : Steps p.tables e below (s₁.setTop (entryFrame m #[.ref a, .ref b, .int (Int32.ofNat o), .int (Int32.ofNat len), .null] 6)) (T8.setTop (mkF m 39 #[.val (.ref a), .val (.ref b), .val (.int (Int32.ofNat o)), .val (.int (Int32.ofNat len)), .val .null, .unset] [.ref s.heap.size])) := g8
  have c10 : Steps p.tables e below (s₁.setTop (entryFrame m #[.ref a, .ref b, .int (Int32.ofNat o), .int (Int32.ofNat len), .null] 6)) (T8.setTop (mkF m 45 #[.val (.ref a), .val (.ref b), .val (.int (Int32.ofNat o)), .val (.int (Int32.ofNat len)), .val .null, .val (.ref s.heap.size)] [.int (Int32.ofNat N.slots.size), .ref s.heap.size, .ref a])) := by
    have hc : Steps p.tables e below (s₁.setTop (entryFrame m #[.ref a, .ref b, .int (Int32.ofNat o), .int (Int32.ofNat len), .null] 6)) (T8.setTop (mkF m 45 #[.val (.ref a), .val (.ref b), .val (.int (Int32.ofNat o)), .val (.int (Int32.ofNat len)), .val .null, .val (.ref s.heap.size)] [.int (Int32.ofNat len), .ref s.heap.size, .ref a])) := c9.trans (by
      refine XS.astore X8.here hexec rfl (hb hbytes d39) rfl rfl rfl ?_
      refine XS.aloadN X8.here hexec rfl (hb hbytes d41) rfl rfl ?_
      refine XS.aload X8.here hexec rfl (hb hbytes d42) rfl rfl ?_
      refine XS.iloadN X8.here hexec rfl (hb hbytes d44) rfl ?_
      exact Steps.refl _)
    rw [n4]; exact hc
  obtain ⟨v11, T11, X11, E11, g11⟩ := X8.callS hexec (CodL.law l s.heap.size N) hown (wks W (staticW "java/lang/String" 47 CodL.yN)) (wk W CodL.tab) (W := 1) (Nat.le_of_ble_eq_true rfl) (Nat.le_of_ble_eq_true rfl) (Nat.le_refl _) (by show 0 + len + 0 ≤ len; omega) (g := (mkF m 45 #[.val (.ref a), .val (.ref b), .val (.int (Int32.ofNat o)), .val (.int (Int32.ofNat len)), .val .null, .val (.ref s.heap.size)] [.int (Int32.ofNat N.slots.size), .ref s.heap.size, .ref a])) rfl (by rw [hml]; rfl) c10 (argsL := [.ref s.heap.size, .int (Int32.ofNat N.slots.size)]) (rest := [.ref a]) rfl rfl (by show 2 * 0 + (1 + 0) ≤ _; decide) (hb hbytes d45) (⟨rfl, n1⟩)
  obtain ⟨rfl, q11⟩ := E11
  have hB11 := hB1.mv (X8.warmed.alike.symm.trans X11.warmed.alike) q11
  have c12 : Steps p.tables e below (s₁.setTop (entryFrame m #[.ref a, .ref b, .int (Int32.ofNat o), .int (Int32.ofNat len), .null] 6)) (T11.setTop (mkF m 48 #[.val (.ref a), .val (.ref b), .val (.int (Int32.ofNat o)), .val (.int (Int32.ofNat len)), .val .null, .val (.ref s.heap.size)] [.int 0, .ref a])) := g11
  obtain ⟨T13, X13, p13, bl13, sl13, st13⟩ := X11.finit hexec hown (wk W (.fieldLink "java/lang/String" 15 "java/lang/String" "coder" "B")) (Or.inr ⟨_, (wk W (.laysFinal "java/lang/String" "java/lang/String" "coder" "B"))⟩) (Or.inl ⟨rfl, hnm⟩) f2 (Or.inl rfl) hB11 (t := .byte) (by decide +kernel) rfl (g := (mkF m 48 #[.val (.ref a), .val (.ref b), .val (.int (Int32.ofNat o)), .val (.int (Int32.ofNat len)), .val .null, .val (.ref s.heap.size)] [.int 0, .ref a])) rfl (rest := []) rfl (hb hbytes d48)
  have c14 : Steps p.tables e below (s₁.setTop (entryFrame m #[.ref a, .ref b, .int (Int32.ofNat o), .int (Int32.ofNat len), .null] 6)) (T13.setTop (mkF m 54 #[.val (.ref a), .val (.ref b), .val (.int (Int32.ofNat o)), .val (.int (Int32.ofNat len)), .val .null, .val (.ref s.heap.size)] [.ref s.heap.size, .ref a])) := (c12.trans (st13 _ (Steps.refl _))).trans (by
    refine XS.aloadN X13.here hexec rfl (hb hbytes d51) rfl rfl ?_
    refine XS.aload X13.here hexec rfl (hb hbytes d52) rfl rfl ?_
    exact Steps.refl _)
  obtain ⟨T15, X15, p15, bl15, sl15, st15⟩ := X13.finit hexec hown (wk W (.fieldLink "java/lang/String" 9 "java/lang/String" "value" "[B")) (Or.inr ⟨_, (wk W (.laysFinal "java/lang/String" "java/lang/String" "value" "[B"))⟩) (Or.inl ⟨rfl, hnm⟩) f1 (Or.inl rfl) bl13 (t := (.array .byte)) (by decide +kernel) rfl (g := (mkF m 54 #[.val (.ref a), .val (.ref b), .val (.int (Int32.ofNat o)), .val (.int (Int32.ofNat len)), .val .null, .val (.ref s.heap.size)] [.ref s.heap.size, .ref a])) rfl (rest := []) rfl (hb hbytes d54)
  have c16 : Steps p.tables e below (s₁.setTop (entryFrame m #[.ref a, .ref b, .int (Int32.ofNat o), .int (Int32.ofNat len), .null] 6)) (T15.setTop (mkF m 57 #[.val (.ref a), .val (.ref b), .val (.int (Int32.ofNat o)), .val (.int (Int32.ofNat len)), .val .null, .val (.ref s.heap.size)] [])) := c14.trans (st15 _ (Steps.refl _))
  have ap := apart (Or.inr ⟨_, (wk W (.laysFinal "java/lang/String" "java/lang/String" "value" "[B"))⟩) (Or.inr ⟨_, (wk W (.laysFinal "java/lang/String" "java/lang/String" "coder" "B"))⟩) f1 f2 (t₁ := .array .byte) (t₂ := .byte) (by decide +kernel) (by decide +kernel) (by decide)
  have al := X8.warmed.alike.symm.trans X15.warmed.alike
  have n7 : T11.heap[s.heap.size]? = some N := by rw [q11]; exact n1.1
  exact ⟨T15, none, _, _, _, X15, by simp, rfl, by omega, (fun _ => rfl), ⟨rfl, _, N, bl15, ((Same.refl D _).set _ (by simp)).set _ (by simp), sl15, (Cell.slots_setSlot_ne _ ap).trans sl13, n1.keep al (p15.other hne (p13.other hne n7)), n2, by rw [al.findClass]; exact n3, n4, n5, fun y c h1 h2 => p15.other h1 (p13.other h1 (by rw [q11]; exact n6 y c h2)), by rw [p15.2.2, p13.2.2, q11]; exact z8⟩, fun fs hl => c16.trans (X15.returnOut hexec hret (hb hbytes d57) hl)⟩
end New4
namespace New1
def yN : MethodName := ⟨"java/lang/String", "<init>", "([C)V"⟩
abbrev yB : ByteArray := jdk_42_method_3_code
theorem d0 : decode yB 0 = .ok (.aload_n 0, 1) := by decide +kernel
theorem d1 : decode yB 1 = .ok (.aload_n 1, 1) := by decide +kernel
theorem d2 : decode yB 2 = .ok (.iconst 0, 1) := by decide +kernel
theorem d3 : decode yB 3 = .ok (.aload_n 1, 1) := by decide +kernel
theorem d4 : decode yB 4 = .ok (.arraylength, 1) := by decide +kernel
theorem d5 : decode yB 5 = .ok (.aconst_null, 1) := by decide +kernel
theorem d6 : decode yB 6 = .ok (.invokespecial 27, 3) := by decide +kernel
theorem d9 : decode yB 9 = .ok (.return_, 1) := by decide +kernel
def site : List Cond := [New4.tab] ++ initW "java/lang/String" 27 New4.yN
def tab : Cond := tabOf yN yB 2 none site
def P (a : Addr) (D : Cell) (fV fC : Field) (b : Addr) (A : Cell) (z : Int32) (args : Array Value) (s : State) : Prop := args = #[.ref a, .ref b] ∧ Blank "java/lang/String" a D s ∧ Found "java/lang/String" "value" "[B" fV s ∧ Found "java/lang/String" "coder" "B" fC s ∧ Ch b A s ∧ StaticIs s "java/lang/String" "COMPACT_STRINGS" "Z" (.int z) ∧ ¬ z = 0 ∧ 0 < A.slots.size ∧ A.slots.size ≤ 536870912 ∧ ∀ i, i < A.slots.size → ¬ 255 < cv A i
def E (a : Addr) (D : Cell) (fV fC : Field) (A : Cell) (r : Option Value) (s u : State) : Prop := Got a D fV fC A 0 A.slots.size r s u
/-- new String(chars), not empty, no char above 255: a Latin-1 String of their low bytes -/
theorem law (l : Launch) (a : Addr) (D : Cell) (fV fC : Field) (b : Addr) (A : Cell) (z : Int32) : Law l yN 2 1 3 52 yB 2 none site (P a D fV fC b A z) (E a D fV fC A) [⟨a, fC.slot⟩, ⟨a, fV.slot⟩] 1 A.slots.size := by
  refine Law.of_walk (plainFor_of_name (by decide +kernel)) (by decide +kernel) (by decide +kernel) (by decide) (fun _ _ h => by rw [h.1]; rfl) (fun _ U U' hal hh h => ⟨h.1, h.2.1.mv hal hh, h.2.2.1.al hal, h.2.2.2.1.al hal, h.2.2.2.2.1.mv hal hh, h.2.2.2.2.2.1.there hal hh, h.2.2.2.2.2.2⟩) (fun r U U' V V' h1 hal h2 h => Got.mv r U U' V V' h1 hal h2 h) ?_
  intro p e s m args below meth c s₁ X0 hexec hbytes hml hret hlk hnm hown hh0 W hP
  obtain ⟨rfl, hB, f1, f2, hA, s1, hz, l0, l2, hp⟩ := hP
  have c1 : Steps p.tables e below (s₁.setTop (entryFrame m #[.ref a, .ref b] 2)) (s₁.setTop (mkF m 0 #[.val (.ref a), .val (.ref b)] [])) := entry rfl
  have c2 : Steps p.tables e below (s₁.setTop (entryFrame m #[.ref a, .ref b] 2)) (s₁.setTop (mkF m 6 #[.val (.ref a), .val (.ref b)] [.null, .int (Int32.ofNat A.slots.size), .int 0, .ref b, .ref a])) := c1.trans (by
    refine XS.aloadN X0.here hexec rfl (hb hbytes d0) rfl rfl ?_
    refine XS.aloadN X0.here hexec rfl (hb hbytes d1) rfl rfl ?_
    refine iconstV X0.here hexec rfl 0 (hb hbytes d2) (by decide) ?_
    refine XS.aloadN X0.here hexec rfl (hb hbytes d3) rfl rfl ?_
    refine X0.alen hexec (hA.1.mv X0.warmed.alike hh0) rfl rfl (hb hbytes d4) ?_
    refine XS.aconstNull X0.here hexec rfl (hb hbytes d5) ?_
    exact Steps.refl _)
  obtain ⟨v3, T3, X3, E3, g3⟩ := X0.callN hexec (New4.law l a D fV fC b A z 0 A.slots.size) rfl hown (wks W (initW "java/lang/String" 27 New4.yN)) (W New4.tab (by simp only [site, List.mem_cons, List.mem_append, true_or, or_true])) (W := 0) (Nat.le_of_ble_eq_true rfl) (Nat.le_of_ble_eq_true rfl) (Nat.le_refl _) (by show 0 + A.slots.size ≤ A.slots.size; omega) (g := (mkF m 6 #[.val (.ref a), .val (.ref b)] [.null, .int (Int32.ofNat A.slots.size), .int (Int32.ofNat 0), .ref b, .ref a])) rfl (by rw [hml]; rfl) c2 (argsL := [.ref b, .int (Int32.ofNat 0), .int (Int32.ofNat A.slots.size), .null]) (rest := []) rfl rfl (by show 2 * 0 + 0 ≤ _; decide) (hb hbytes d6) (⟨rfl, hB.mv X0.warmed.alike hh0, f1.al X0.warmed.alike, f2.al X0.warmed.alike, hA.mv X0.warmed.alike hh0, s1.there X0.warmed.alike hh0, hz, l0, by omega, l2, fun i hi => by rw [Nat.zero_add]; exact hp i hi⟩)
  have e0 := Got.mv _ s₁ s _ _ hh0.symm (Vm.Alike.refl _) rfl E3
  obtain rfl := e0.1
  have c4 : Steps p.tables e below (s₁.setTop (entryFrame m #[.ref a, .ref b] 2)) (T3.setTop (mkF m 9 #[.val (.ref a), .val (.ref b)] [])) := g3
  exact ⟨T3, none, _, _, _, X3, by simp, rfl, by omega, (fun _ => rfl), e0, fun fs hl => c4.trans (X3.returnOut hexec hret (hb hbytes d9) hl)⟩
theorem pays {l : Launch} {R : Room} {p : Program} {e : Env} {below : List Frame} {s : State} {sargs : Array Value} {len W : Nat} (a : Addr) (D : Cell) (fV fC : Field) (b : Addr) (A : Cell) (z : Int32) (htab : tab.before sargs s = true) (hfr : 4 ≤ R.frames) (hlo : W + 65 ≤ R.locals) :
    Back l R p e below s sargs yN len W (fun A₁ a₁ => A₁.cells + 1 ≤ R.cells ∧ A₁.slots + A.slots.size ≤ R.slots ∧ P a D fV fC b A z a₁ A₁.U) (fun A₁ _ v₁ B₁ => E a D fV fC A v₁ A₁.U B₁.U ∧ B₁.locs = A₁.locs ++ [⟨a, fC.slot⟩, ⟨a, fV.slot⟩] ∧ B₁.cells = A₁.cells + 1 ∧ B₁.slots = A₁.slots + A.slots.size) :=
  (law l a D fV fC b A z).pays htab hfr (by omega)
end New1
end StrChars
namespace StrChars.Road
open Jvm Sem ClassFile Op Lib Jvm.Stand Jvm.Free Jvm.Free.XT
open Jvm.Lib.Cold (StaticIs)
abbrev ST : String := "java/lang/String"
/-- every table word that New1's law asks, flat -/
abbrev words : List Jvm.Cond := [.code New1.yN New1.yB 2 none, .initialized ST, .methodLink ST 27 New4.yN, .instanceMethod New4.yN,
  .code New4.yN New4.yB 6 none, .fieldLink ST 38 ST "COMPACT_STRINGS" "Z", .laysFinal ST ST "value" "[B", .fieldLink ST 9 ST "value" "[B", .laysFinal ST ST "coder" "B", .fieldLink ST 15 ST "coder" "B",
  .methodLink ST 1 Lib.objectInit, .instanceMethod Lib.objectInit, .code Lib.objectInit ⟨#[0xb1]⟩ 1 none, .methodLink ST 177 Cmp3.yN, .static Cmp3.yN, .methodLink ST 47 CodL.yN, .static CodL.yN,
  .code Cmp3.yN Cmp3.yB 6 (some (.array .byte)), .initialized U16, .arrayClass .byte, .methodLink U16 115 Cmp5.yN, .static Cmp5.yN, .code Cmp5.yN Cmp5.yB 7 (some .int), .code CodL.yN CodL.yB 2 (some .byte)]
theorem tab_of {a : Array Value} {s : State} (h : ∀ w ∈ words, w.before a s = true) : New1.tab.before a s = true := by
  have h5 : Cmp5.tab.before a s = true := unparts (wk h (.code Cmp5.yN Cmp5.yB 7 (some .int))) (wks h (.initialized Cmp5.yN.cls :: Cmp5.site))
  have hc : CodL.tab.before a s = true := unparts (wk h (.code CodL.yN CodL.yB 2 (some .byte))) (wks h (.initialized CodL.yN.cls :: CodL.site))
  have q5 : ∀ w ∈ Cmp5.tab :: words, w.before a s = true := fun w hw => (List.mem_cons.mp hw).elim (fun e => e ▸ h5) (h w)
  have h3 : Cmp3.tab.before a s = true := unparts (wk q5 (.code Cmp3.yN Cmp3.yB 6 (some (.array .byte)))) (wks q5 (.initialized Cmp3.yN.cls :: Cmp3.site))
  have q3 : ∀ w ∈ Cmp3.tab :: CodL.tab :: words, w.before a s = true := fun w hw => (List.mem_cons.mp hw).elim (fun e => e ▸ h3) fun hw => (List.mem_cons.mp hw).elim (fun e => e ▸ hc) (h w)
  have h4 : New4.tab.before a s = true := unparts (wk q3 (.code New4.yN New4.yB 6 none)) (wks q3 (.initialized New4.yN.cls :: New4.site))
  have q4 : ∀ w ∈ New4.tab :: words, w.before a s = true := fun w hw => (List.mem_cons.mp hw).elim (fun e => e ▸ h4) (h w)
  exact unparts (wk q4 (.code New1.yN New1.yB 2 none)) (wks q4 (.initialized New1.yN.cls :: New1.site))
/-- the words ride from the start Z to the walk's own state -/
theorem moved {Z s : State} {a0 args : Array Value} (hZ : Z.Warmed39 s.vm) (hw : ∀ d ∈ words, d.before a0 Z = true) : ∀ d ∈ words, d.before args s = true := fun d hd => by
  have q := hw d hd
  have t : ∀ d ∈ words, d = .arrayClass .byte ∨ (d.onTables && d.keepsFace) = true := by decide +kernel
  rcases t d hd with rfl | t
  · exact RoadKit.mvA hZ q
  · exact RoadKit.mv hZ q t
/-- WHAT COMES BACK, over the tables of the start Z: h the heap at the call, h' behind it -/
def Q (Z : State) (x : Addr) (A : Cell) (h : Heap) (v : Option Value) (h' : Heap) (L : List Loc) : Prop := v = none ∧ (∀ y ∈ L, y.base = x) ∧ RoadKit.Keep h h' [x] ∧ h'.size = h.size + 1 ∧ RoadKit.Exa Z h' x ST ∧ RoadKit.Fld Z h' x ST "value" "[B" (.ref h.size) ∧ RoadKit.Fld Z h' x ST "coder" "B" (.int 0) ∧
  (∃ V : Cell, RoadKit.Arr Z h' h.size V .byte ∧ V.vm = .none ∧ Z.vm.findClass "[B" = some V.cls ∧ V.slots.size = A.slots.size ∧ ∀ j, j < A.slots.size → V.slots[j]? = some (.int (lo8 (cv A j)))) ∧
  ∀ (O n d : String) (w : Value), RoadKit.Fld Z h x O n d w → RoadKit.slotOf Z O n d ≠ RoadKit.slotOf Z ST "value" "[B" → RoadKit.slotOf Z O n d ≠ RoadKit.slotOf Z ST "coder" "B" → RoadKit.Fld Z h' x O n d w
/-- **new String(chars) AT A CALL, IN THE ROAD'S FORM**: for specialBack behind newO: x the fresh String, b the char[] with the cell A -/
theorem back {p : Program} {l : Launch} {e : Env} {R : Room} {s : State} {args : Array Value} {below : List Frame} {len W : Nat} {Z : State} {a0 : Array Value} {h : Heap} (hZ : Z.Warmed39 s.vm) (hw : ∀ d ∈ words, d.before a0 Z = true) {kI : Nat} (wi : (Jvm.Cond.instantiable ST kI).before a0 Z = true)
    {x b : Addr} {A : Cell} {z : Int32} {v0 c0 : Value} (E : RoadKit.Exa Z h x ST) (V : RoadKit.Fld Z h x ST "value" "[B" v0) (C : RoadKit.Fld Z h x ST "coder" "B" c0) (K : RoadKit.Arr Z h b A .char) (hty : Typed .char A) (S : RoadKit.Sta Z h ST "COMPACT_STRINGS" "Z" (.int z)) (hz : ¬ z = 0)
    (l0 : 0 < A.slots.size) (l2 : A.slots.size ≤ 536870912) (hp : ∀ i, i < A.slots.size → ¬ 255 < cv A i) (hfr : 4 ≤ R.frames) (hlo : W + 65 ≤ R.locals) :
    Back l R p e below s args New1.yN len W (fun P a => a = #[.ref x, .ref b] ∧ P.U.heap = h ∧ P.cells + 1 ≤ R.cells ∧ P.slots + A.slots.size ≤ R.slots)
      (fun P _ v B => ∃ L, Q Z x A h v B.U.heap L ∧ B.locs = P.locs ++ L ∧ B.cells = P.cells + 1 ∧ B.slots = P.slots + A.slots.size) := by
  intro m meth c P g ig mk a X hg hsize hdg hW hn hp'
  obtain ⟨rfl, rfl, r1, r2⟩ := hp'
  have al : Z.vm.Alike P.U.vm := hZ.alike.trans X.warmed.alike
  obtain ⟨D, cfV, kV, iV, fV, hD, gV, stV, knV, obV, asV, slV⟩ := id V
  obtain ⟨D', cfC, kC, iC, fC, hD', gC, stC, -, -, asC, slC⟩ := id C
  cases hD.symm.trans hD'
  obtain ⟨D2, kD, e1, e2, e3, e4, e5⟩ := id E
  cases hD.symm.trans e1
  obtain ⟨c2, k2, i1, i2, i3, -⟩ := Cond.instantiable_spec wi
  cases e2.symm.trans i1
  cases e3.symm.trans i2
  obtain ⟨kU, u1, u2⟩ := al.2.2 _ _ e3
  have hB : Blank ST x D P.U := ⟨hD, ⟨knV, fun q hq => by rw [hq] at obV; cases obV⟩, by rw [al.findClass]; exact e2, kU, u1, by rw [u2]; exact i3, by rw [u2]; exact e5 i3⟩
  have F1 : Found ST "value" "[B" fV P.U := ⟨SBG.found_only al ⟨cfV, kV, iV, gV⟩, stV⟩
  have F2 : Found ST "coder" "B" fC P.U := ⟨SBG.found_only al ⟨cfC, kC, iC, gC⟩, stC⟩
  have hA : Ch b A P.U := ⟨⟨K.1, State.isArrayOf_alike al K.2.1, K.2.2, by omega⟩, hty⟩
  have hS : StaticIs P.U ST "COMPACT_STRINGS" "Z" (.int z) := by
    obtain ⟨cfS, iS, kS, fS, st, cS, t1, t2, t3, t4, t5, t6, t7⟩ := S
    exact StaticIs.there (s := { Z with heap := P.U.heap }) ⟨cfS, iS, kS, fS, st, cS, t1, t2, t3, t4, t5, (fun q => by rw [q] at t6; cases t6), t7⟩ al rfl
  obtain ⟨v, B, X', ⟨⟨hv, E', V', q1, q2, q3, q4, q5, q6, q7, q8, q9, q10, q11⟩, hl, hc, hs⟩, st⟩ := New1.pays x D fV fC b A z (tab_of (moved hZ hw)) hfr hlo m meth c P g ig mk _ X hg hsize hdg hW hn ⟨r1, r2, rfl, hB, F1, F2, hA, hS, hz, l0, l2, hp⟩
  have al' : Z.vm.Alike B.U.vm := hZ.alike.trans X'.warmed.alike
  have hsz : E'.slots.size = D.slots.size := by
    obtain ⟨-, -, -, kB, w1, w2, w3⟩ := q1
    obtain ⟨kB', y1, y2⟩ := al'.2.2 _ _ e3
    rw [q2.2.1] at w1
    cases w1.symm.trans y1
    rw [w3, e5 i3, y2]
  refine ⟨v, B, X', ⟨_, ⟨hv, ?_, ⟨by omega, fun y cy hy hn' => q10 y cy (by simpa using hn') hy, fun y cy hy => ?_⟩, q11, ⟨E', _, q1.1, by rw [q2.2.1]; exact e2, by rw [q2.2.1]; exact e3, by rw [q2.1]; exact obV, fun _ => by rw [hsz]; exact e5 i3⟩,
    ⟨E', cfV, kV, iV, fV, q1.1, gV, stV, by rw [q2.1]; exact knV, by rw [q2.1]; exact obV, by rw [q2.2.1]; exact asV, q3⟩, ⟨E', cfC, kC, iC, fC, q1.1, gC, stC, by rw [q2.1]; exact knV, by rw [q2.1]; exact obV, by rw [q2.2.1]; exact asC, q4⟩,
    ⟨V', ⟨q5.1, State.isArrayOf_alike al'.symm q5.2.1, q5.2.2.1⟩, q6, by rw [← al'.findClass]; exact q7, q8, fun j hj => by have := q9 j hj; rwa [Nat.zero_add] at this⟩, fun O n d w F n1 n2 => ?_⟩, hl, hc, hs⟩, st⟩
  · intro y hy
    simp only [List.mem_cons, List.not_mem_nil, or_false] at hy
    rcases hy with rfl | rfl <;> rfl
  · by_cases q : y = x
    · subst q
      cases hD.symm.trans hy
      exact ⟨E', q1.1, q2.2.1, q2.1, hsz⟩
    · exact ⟨cy, q10 y cy q hy, rfl, rfl, rfl⟩
  · obtain ⟨D3, cf, k, i, f, g1, g2, g3, g4, g5, g6, g7⟩ := F
    cases hD.symm.trans g1
    simp only [RoadKit.slotOf, g2, gV, gC, Option.map_some, Option.getD_some] at n1 n2
    exact ⟨E', cf, k, i, f, q1.1, g2, g3, by rw [q2.1]; exact g4, by rw [q2.1]; exact g5, by rw [q2.2.1]; exact g6, by rw [q2.2.2 f.slot (by simp [n1, n2])]; exact g7⟩
end StrChars.Road
namespace StrChars.Road
open Jvm Sem ClassFile Op Lib Jvm.Stand Jvm.Free Jvm.Free.XT
/-- WHAT COMES BACK, the byte[] as a list of values -/
def QA (Z : State) (x : Addr) (zn : Int32) (cs : List Int32) (h : Heap) (v : Option Value) (h' : Heap) (L : List Loc) : Prop := v = none ∧ (∀ y ∈ L, y.base = x) ∧ RoadKit.Keep h h' [x] ∧ h'.size = h.size + 1 ∧ RoadKit.Exa Z h' x ST ∧ RoadKit.Fld Z h' x ST "value" "[B" (.ref h.size) ∧ RoadKit.Fld Z h' x ST "coder" "B" (.int 0) ∧
  (∃ kb, Z.vm.findClass "[B" = some kb ∧ RoadKit.Arv Z h' h.size kb .byte zn (cs.map fun c => .int (lo8 c)) (.int 0)) ∧
  ∀ (O n d : String) (w : Value), RoadKit.Fld Z h x O n d w → RoadKit.slotOf Z O n d ≠ RoadKit.slotOf Z ST "value" "[B" → RoadKit.slotOf Z O n d ≠ RoadKit.slotOf Z ST "coder" "B" → RoadKit.Fld Z h' x O n d w
/-- **new String(chars) AT A CALL, THE ARRAYS AS LISTS**: the char[] at b holds cs, not empty, no char above 255 -/
theorem backArv {p : Program} {l : Launch} {e : Env} {R : Room} {s : State} {args : Array Value} {below : List Frame} {len W : Nat} {Z : State} {a0 : Array Value} {h : Heap} (hZ : Z.Warmed39 s.vm) (hw : ∀ d ∈ words, d.before a0 Z = true) {kI : Nat} (wi : (Jvm.Cond.instantiable ST kI).before a0 Z = true)
    {x b : Addr} {k : ClassId} {zn z : Int32} {cs : List Int32} {dv v0 c0 : Value} (E : RoadKit.Exa Z h x ST) (V : RoadKit.Fld Z h x ST "value" "[B" v0) (C : RoadKit.Fld Z h x ST "coder" "B" c0) (K : RoadKit.Arv Z h b k .char zn (cs.map Value.int) dv) (S : RoadKit.Sta Z h ST "COMPACT_STRINGS" "Z" (.int z)) (hz : ¬ z = 0)
    (hlen : zn.toNatClampNeg = cs.length) (h0 : 0 < cs.length) (hbig : cs.length ≤ 536870912) (hall : ∀ c ∈ cs, ¬ 255 < c) (hfr : 4 ≤ R.frames) (hlo : W + 65 ≤ R.locals) :
    Back l R p e below s args New1.yN len W (fun P a => a = #[.ref x, .ref b] ∧ P.U.heap = h ∧ P.cells + 1 ≤ R.cells ∧ P.slots + cs.length ≤ R.slots)
      (fun P _ v B => ∃ L, QA Z x zn cs h v B.U.heap L ∧ B.locs = P.locs ++ L ∧ B.cells = P.cells + 1 ∧ B.slots = P.slots + cs.length) := by
  obtain ⟨A, K1, K2, K3, K4, K5, K6⟩ := K
  have e : A.slots.size = cs.length := K3.trans hlen
  have hat : ∀ (i : Nat) (hi : i < cs.length), A.slots[i]? = some (.int cs[i]) := fun i hi => by rw [K5 i (by omega)]; simp [List.getD_eq_getElem?_getD, hi]
  have hcv : ∀ (i : Nat) (hi : i < cs.length), cv A i = cs[i] := fun i hi => by unfold cv; rw [hat i hi]
  have hty : Typed .char A := fun i v hv => by
    have hi : i < A.slots.size := (Array.getElem?_eq_some_iff.mp hv).1
    have q := K5 i hi
    rw [hv] at q
    rw [Option.some.inj q]
    exact K6 i hi
  refine Back.mono (back hZ hw wi E V C K1 hty S hz (by omega) (by omega) (fun i hi => by rw [hcv i (by omega)]; exact hall _ (List.getElem_mem _)) hfr hlo) (fun P a hp => ⟨hp.1, hp.2.1, hp.2.2.1, by rw [e]; exact hp.2.2.2⟩) (fun P a v B hp hq => ?_)
  obtain ⟨L, ⟨q1, q2, q3, q4, q5, q6, q7, ⟨V', v1, v2, v3, v4, v5⟩, q9⟩, hl, hc, hs⟩ := hq
  refine ⟨L, ⟨q1, q2, q3, q4, q5, q6, q7, ⟨V'.cls, v3, V', v1, rfl, by rw [v4, e, hlen], K4, fun i hi => ?_, fun i hi => ?_⟩, q9⟩, hl, hc, by rw [hs, e]⟩
  · have hi' : i < cs.length := by omega
    rw [v5 i (by omega), hcv i hi']; simp [List.getD_eq_getElem?_getD, hi']
  · have hi' : i < cs.length := by omega
    simp only [List.getD_eq_getElem?_getD, List.getElem?_map, List.getElem?_eq_getElem hi', Option.map_some, Option.getD_some]
    exact fits_lo8 _
end StrChars.Road
namespace StrChars.Road
open Jvm Sem ClassFile Op Lib Jvm.Stand Jvm.Free Jvm.Free.XT
/-- WHAT COMES BACK, in the writer's own shape -/
def QV (Z : State) (x : Addr) (N : Int32) (bs : List Int32) (h : Heap) (n0 : Nat) (v : Option Value) (h' : Heap) (L : List Loc) : Prop := v = none ∧ RoadKit.Fr n0 L ∧ RoadKit.Keep h h' [x] ∧ RoadKit.Exa Z h' x ST ∧ RoadKit.Fld Z h' x ST "coder" "B" (.int 0) ∧
  ∃ (t : Addr) (kb : ClassId), n0 ≤ t ∧ h.size ≤ t ∧ ¬ t = x ∧ RoadKit.Fld Z h' x ST "value" "[B" (.ref t) ∧ RoadKit.Arv Z h' t kb .byte N (bs.map Value.int) (.int 0)
/-- **new String(chars) AT A CALL, FOR THE WRITER**: a char[] of n known ints, each 0 to 255 -/
theorem backV {p : Program} {l : Launch} {e : Env} {R : Room} {s : State} {args : Array Value} {below : List Frame} {len W : Nat} {Z : State} {a0 : Array Value} {h : Heap} (hZ : Z.Warmed39 s.vm) (hw : ∀ d ∈ words, d.before a0 Z = true) {kI : Nat} (wi : (Jvm.Cond.instantiable ST kI).before a0 Z = true)
    {x b : Addr} {kC : ClassId} {cs bs : List Int32} {d v0 c0 : Value} {z N : Int32} {n n0 : Nat} (hx0 : n0 ≤ x) (hh0 : n0 ≤ h.size) (E : RoadKit.Exa Z h x ST) (V : RoadKit.Fld Z h x ST "value" "[B" v0) (C : RoadKit.Fld Z h x ST "coder" "B" c0) (K : RoadKit.Arv Z h b kC .char N (cs.map Value.int) d) (S : RoadKit.Sta Z h ST "COMPACT_STRINGS" "Z" (.int z)) (hz : ¬ z = 0)
    (hn : cs.length = n) (hN : N = Int32.ofNat n) (l0 : 0 < n) (l2 : n ≤ 4000) (hp : ∀ c ∈ cs, ¬ c < 0 ∧ ¬ (255 : Int32) < c) (hb : bs = cs.map (fun c => c.toInt8.toInt32)) (hfr : 4 ≤ R.frames) (hlo : W + 65 ≤ R.locals) :
    Back l R p e below s args (⟨"java/lang/String", "<init>", "([C)V"⟩ : MethodName) len W (fun P a => a = #[.ref x, .ref b] ∧ P.U.heap = h ∧ P.cells + 1 ≤ R.cells ∧ P.slots + n ≤ R.slots)
      (fun P _ v B => ∃ L, QV Z x N bs h n0 v B.U.heap L ∧ B.locs = P.locs ++ L ∧ B.cells = P.cells + 1 ∧ B.slots = P.slots + n) := by
  subst hn hN hb
  refine Back.mono (backArv hZ hw wi E V C K S hz (n32 (by omega)) l0 (by omega) (fun c hc => (hp c hc).2) hfr hlo) (fun P a hp => hp) (fun P a v B hp hq => ?_)
  obtain ⟨L, ⟨q1, q2, q3, q4, q5, q6, q7, ⟨kb, v1, v2⟩, q9⟩, hl, hc, hs⟩ := hq
  exact ⟨L, ⟨q1, fun y hy => by rw [q2 y hy]; exact hx0, q3, q5, q7, h.size, kb, hh0, Nat.le_refl _, Nat.ne_of_gt E.lt, q6, by rw [List.map_map]; exact v2⟩, hl, hc, hs⟩
end StrChars.Road
namespace StrChars
open Jvm Sem ClassFile Op Lib Jvm.Stand Jvm.Free.XT Jvm.Free.ALB Jvm.Free.JM Jvm.Free
open Jvm.Lib.Cold (StaticIs)
def hi8 (x : Int32) : Int32 := lo8 (x >>> ((8 : Int32) &&& 31))
end StrChars
namespace StrChars.Road
open Jvm Sem ClassFile Op Lib Jvm.Stand Jvm.Free Jvm.Free.XT
open Jvm.Lib.Cold (StaticIs)
/-- the bytes of the chars cs, low before high -/
def wideBytes : List Int32 → List Value
  | [] => []
  | c :: cs => .int (lo8 c) :: .int (hi8 c) :: wideBytes cs
/-- an array of N2 bytes vs codes the chars cs by the coder cd -/
def CodA (cs : List Int32) (cd N2 : Int32) (vs : List Value) : Prop := (cd = 0 ∧ N2 = Int32.ofNat cs.length ∧ vs = (cs.map fun c => Value.int (lo8 c)) ∧ ∀ c ∈ cs, ¬ 255 < c) ∨ (cd = 1 ∧ N2 = Int32.ofNat (2 * cs.length) ∧ vs = wideBytes cs ∧ ∃ c ∈ cs, 255 < c)
end StrChars.Road
namespace StrChars.Road
open Jvm Sem ClassFile Op Lib Jvm.Stand Jvm.Free Jvm.Free.XT
open Jvm.Lib.Cold (StaticIs)
/-- what backV says of its String, as the contracts of this text ask it: cs's low bytes, coder 0 -/
theorem codOf {cs : List Int32} {n : Nat} (hn : cs.length = n) (hb : ∀ c ∈ cs, ¬ 255 < c) : CodA cs 0 (Int32.ofNat n) ((cs.map lo8).map Value.int) := Or.inl ⟨rfl, by rw [hn], by simp [List.map_map, Function.comp_def], hb⟩
end StrChars.Road
end Jvm.Pilot.@@N@@
namespace Jvm.Pilot.@@N@@
open Jvm Jvm.ClassFile Sem Op Lib Jvm.Free Jvm.Stand Jvm.LawKit Jvm.RoadKit Bundle Jvm.Pilot.@@N@@.Jvm.D
theorem own_sz {Z : State} {n0 : Nat} {h : Heap} (O : Old Z n0 h) : n0 ≤ h.size := O.1 ▸ O.2.1
theorem own_sta {args : Array Value} {s : State} {C n d K : String} (h : (Jvm.Cond.exactly (.static C n d) K).value args s none s [] = some true) (hi : (Jvm.Cond.initialized C).before args s = true) (hl : (Jvm.Cond.laysStatic C n d).before args s = true) :
    ∃ a, Sta s s.heap C n d (.ref a) ∧ Exa s s.heap a K ∧ (Term.static C n d).eval args s none [] s = some (.ref a) := by
  obtain ⟨a, ev⟩ := exa_v h
  exact ⟨a, Sta.start ev (Or.inr ⟨hi, hl⟩), Exa.start ev h, ev⟩
theorem own_fint {args : Array Value} {s : State} {t : Term} {a : Addr} {C n d : String} {k : Int32} (ev : t.eval args s none [] s = some (.ref a)) (h : (Jvm.Cond.eq (.field t C n d) (.int k)).value args s none s [] = some true) : Fld s s.heap a C n d (.int k) := by
  obtain ⟨x, y, h1, h2, -, -⟩ := cmp_v (Or.inl h)
  cases h2.symm.trans (Term.int_eval k)
  have h3 := h1
  rw [fld_at ev] at h3
  have : x = .int k := by
    cases x <;> simp_all [Cond.value, Term.eval]
  subst this
  exact Fld.start h3
theorem own_fnull {args : Array Value} {s : State} {t : Term} {a : Addr} {C n d : String} (ev : t.eval args s none [] s = some (.ref a)) (h : (Jvm.Cond.eq (.field t C n d) .null).value args s none s [] = some true) : Fld s s.heap a C n d .null := by
  have h1 := null_v h
  rw [fld_at ev] at h1
  exact Fld.start h1
theorem own_fexa {args : Array Value} {s : State} {t : Term} {a : Addr} {C n d K : String} (ev : t.eval args s none [] s = some (.ref a)) (h : (Jvm.Cond.exactly (.field t C n d) K).value args s none s [] = some true) :
    ∃ b, Fld s s.heap a C n d (.ref b) ∧ Exa s s.heap b K ∧ (Term.field t C n d).eval args s none [] s = some (.ref b) := by
  obtain ⟨b, e2⟩ := exa_v h
  have h1 := e2
  rw [fld_at ev] at h1
  exact ⟨b, Fld.start h1, Exa.start e2 h, e2⟩
theorem own_freq {args : Array Value} {s : State} {t u : Term} {a b : Addr} {C n d : String} (ev : t.eval args s none [] s = some (.ref a)) (eu : u.eval args s none [] s = some (.ref b)) (h : (Jvm.Cond.eq (.field t C n d) u).value args s none s [] = some true) : Fld s s.heap a C n d (.ref b) := by
  obtain ⟨x, y, h1, h2, -, -⟩ := cmp_v (Or.inl h)
  cases h2.symm.trans eu
  have h3 := h1
  rw [fld_at ev] at h3
  have : x = .ref b := by
    cases x <;> simp_all [Cond.value]
  subst this
  exact Fld.start h3
theorem own_nn {v : Value} {a : Addr} (h : v = .ref a) : ¬ v = Value.null := by rw [h]; exact nofun
theorem own_nref {n : String} {v : Value} (h : v.isRef = true) : narrow (.object n) v = v := by rcases ref_cases h with rfl | ⟨_, rfl⟩ <;> rfl
theorem own_fref {n : String} {v : Value} (h : v.isRef = true) : fits (.object n) v = true := by rcases ref_cases h with rfl | ⟨_, rfl⟩ <;> rfl
theorem own_nb {z : Int32} (h : z = 0 ∨ z = 1) : narrow .boolean (.int z) = .int z := by rcases h with rfl | rfl <;> rfl
theorem ow0 {a0 : Array Value} {Z : State} (hw : ∀ d ∈ tables_1, d.before a0 Z = true) : (Jvm.Cond.arrayClass Jvm.ClassFile.FieldType.char).before a0 Z = true := hw _ (List.mem_of_getElem? (i := 0) rfl)
theorem ow1 {a0 : Array Value} {Z : State} (hw : ∀ d ∈ tables_1, d.before a0 Z = true) : (Jvm.Cond.classLink "com/example/tx_at_boundaries/txatboundaries/mybatis/JoinedSessionsRequireRunningPinLaw" (16 : Nat) "com/example/tx_at_boundaries/txatboundaries/mybatis/JoinedSessions").before a0 Z = true := hw _ (List.mem_of_getElem? (i := 1) rfl)
theorem ow2 {a0 : Array Value} {Z : State} (hw : ∀ d ∈ tables_1, d.before a0 Z = true) : (Jvm.Cond.instantiable "com/example/tx_at_boundaries/txatboundaries/mybatis/JoinedSessions" (2 : Nat)).before a0 Z = true := hw _ (List.mem_of_getElem? (i := 2) rfl)
theorem ow3 {a0 : Array Value} {Z : State} (hw : ∀ d ∈ tables_1, d.before a0 Z = true) : (Jvm.Cond.initialized "com/example/tx_at_boundaries/txatboundaries/mybatis/JoinedSessions").before a0 Z = true := hw _ (List.mem_of_getElem? (i := 3) rfl)
theorem ow4 {a0 : Array Value} {Z : State} (hw : ∀ d ∈ tables_1, d.before a0 Z = true) : (Jvm.Cond.methodLink "com/example/tx_at_boundaries/txatboundaries/mybatis/JoinedSessionsRequireRunningPinLaw" (18 : Nat) ({ cls := "com/example/tx_at_boundaries/txatboundaries/mybatis/JoinedSessions", name := "<init>", desc := "()V" } : Jvm.MethodName)).before a0 Z = true := hw _ (List.mem_of_getElem? (i := 4) rfl)
theorem ow5 {a0 : Array Value} {Z : State} (hw : ∀ d ∈ tables_1, d.before a0 Z = true) : (Jvm.Cond.instanceMethod ({ cls := "com/example/tx_at_boundaries/txatboundaries/mybatis/JoinedSessions", name := "<init>", desc := "()V" } : Jvm.MethodName)).before a0 Z = true := hw _ (List.mem_of_getElem? (i := 5) rfl)
theorem ow6 {a0 : Array Value} {Z : State} (hw : ∀ d ∈ tables_1, d.before a0 Z = true) : (Jvm.Cond.code ({ cls := "com/example/tx_at_boundaries/txatboundaries/mybatis/JoinedSessions", name := "<init>", desc := "()V" } : Jvm.MethodName) prog_38_method_1_code (1 : Nat) (Option.none : Option Jvm.ClassFile.FieldType)).before a0 Z = true := hw _ (List.mem_of_getElem? (i := 6) rfl)
theorem ow7 {a0 : Array Value} {Z : State} (hw : ∀ d ∈ tables_1, d.before a0 Z = true) : (Jvm.Cond.methodLink "com/example/tx_at_boundaries/txatboundaries/mybatis/JoinedSessions" (1 : Nat) ({ cls := "java/lang/Object", name := "<init>", desc := "()V" } : Jvm.MethodName)).before a0 Z = true := hw _ (List.mem_of_getElem? (i := 7) rfl)
theorem ow8 {a0 : Array Value} {Z : State} (hw : ∀ d ∈ tables_1, d.before a0 Z = true) : (Jvm.Cond.instanceMethod ({ cls := "java/lang/Object", name := "<init>", desc := "()V" } : Jvm.MethodName)).before a0 Z = true := hw _ (List.mem_of_getElem? (i := 8) rfl)
theorem ow9 {a0 : Array Value} {Z : State} (hw : ∀ d ∈ tables_1, d.before a0 Z = true) : (Jvm.Cond.code ({ cls := "java/lang/Object", name := "<init>", desc := "()V" } : Jvm.MethodName) object_method_1_code (1 : Nat) (Option.none : Option Jvm.ClassFile.FieldType)).before a0 Z = true := hw _ (List.mem_of_getElem? (i := 9) rfl)
theorem ow10 {a0 : Array Value} {Z : State} (hw : ∀ d ∈ tables_1, d.before a0 Z = true) : (Jvm.Cond.methodLink "com/example/tx_at_boundaries/txatboundaries/mybatis/JoinedSessionsRequireRunningPinLaw" (19 : Nat) ({ cls := "com/example/tx_at_boundaries/txatboundaries/mybatis/JoinedSessions", name := "rollBack", desc := "()V" } : Jvm.MethodName)).before a0 Z = true := hw _ (List.mem_of_getElem? (i := 10) rfl)
theorem ow11 {a0 : Array Value} {Z : State} (hw : ∀ d ∈ tables_1, d.before a0 Z = true) : (Jvm.Cond.declares ({ cls := "com/example/tx_at_boundaries/txatboundaries/mybatis/JoinedSessions", name := "rollBack", desc := "()V" } : Jvm.MethodName)).before a0 Z = true := hw _ (List.mem_of_getElem? (i := 11) rfl)
theorem ow12 {a0 : Array Value} {Z : State} (hw : ∀ d ∈ tables_1, d.before a0 Z = true) : (Jvm.Cond.instanceMethod ({ cls := "com/example/tx_at_boundaries/txatboundaries/mybatis/JoinedSessions", name := "rollBack", desc := "()V" } : Jvm.MethodName)).before a0 Z = true := hw _ (List.mem_of_getElem? (i := 12) rfl)
theorem ow13 {a0 : Array Value} {Z : State} (hw : ∀ d ∈ tables_1, d.before a0 Z = true) : (Jvm.Cond.selects "com/example/tx_at_boundaries/txatboundaries/mybatis/JoinedSessions" ({ cls := "com/example/tx_at_boundaries/txatboundaries/mybatis/JoinedSessions", name := "rollBack", desc := "()V" } : Jvm.MethodName) ({ cls := "com/example/tx_at_boundaries/txatboundaries/mybatis/JoinedSessions", name := "rollBack", desc := "()V" } : Jvm.MethodName)).before a0 Z = true := hw _ (List.mem_of_getElem? (i := 13) rfl)
theorem ow14 {a0 : Array Value} {Z : State} (hw : ∀ d ∈ tables_1, d.before a0 Z = true) : (Jvm.Cond.code ({ cls := "com/example/tx_at_boundaries/txatboundaries/mybatis/JoinedSessions", name := "rollBack", desc := "()V" } : Jvm.MethodName) prog_38_method_2_code (1 : Nat) (Option.none : Option Jvm.ClassFile.FieldType)).before a0 Z = true := hw _ (List.mem_of_getElem? (i := 14) rfl)
theorem ow15 {a0 : Array Value} {Z : State} (hw : ∀ d ∈ tables_1, d.before a0 Z = true) : (Jvm.Cond.stringLink "com/example/tx_at_boundaries/txatboundaries/mybatis/JoinedSessions" (7 : Nat) "roll back").before a0 Z = true := hw _ (List.mem_of_getElem? (i := 15) rfl)
theorem ow16 {a0 : Array Value} {Z : State} (hw : ∀ d ∈ tables_1, d.before a0 Z = true) : (Jvm.Cond.initialized "java/lang/String").before a0 Z = true := hw _ (List.mem_of_getElem? (i := 16) rfl)
theorem ow17 {a0 : Array Value} {Z : State} (hw : ∀ d ∈ tables_1, d.before a0 Z = true) : (Jvm.Cond.instantiable "java/lang/String" (4 : Nat)).before a0 Z = true := hw _ (List.mem_of_getElem? (i := 17) rfl)
theorem ow18 {a0 : Array Value} {Z : State} (hw : ∀ d ∈ tables_1, d.before a0 Z = true) : (Jvm.Cond.arrayClass Jvm.ClassFile.FieldType.byte).before a0 Z = true := hw _ (List.mem_of_getElem? (i := 18) rfl)
theorem ow19 {a0 : Array Value} {Z : State} (hw : ∀ d ∈ tables_1, d.before a0 Z = true) : (Jvm.Cond.laysFinal "java/lang/String" "java/lang/String" "value" "[B").before a0 Z = true := hw _ (List.mem_of_getElem? (i := 19) rfl)
theorem ow20 {a0 : Array Value} {Z : State} (hw : ∀ d ∈ tables_1, d.before a0 Z = true) : (Jvm.Cond.laysFinal "java/lang/String" "java/lang/String" "coder" "B").before a0 Z = true := hw _ (List.mem_of_getElem? (i := 20) rfl)
theorem ow23 {a0 : Array Value} {Z : State} (hw : ∀ d ∈ tables_1, d.before a0 Z = true) : (Jvm.Cond.methodLink "com/example/tx_at_boundaries/txatboundaries/mybatis/JoinedSessions" (9 : Nat) ({ cls := "com/example/tx_at_boundaries/txatboundaries/mybatis/JoinedSessions", name := "requireRunning", desc := "(Ljava/lang/String;)V" } : Jvm.MethodName)).before a0 Z = true := hw _ (List.mem_of_getElem? (i := 23) rfl)
theorem ow24 {a0 : Array Value} {Z : State} (hw : ∀ d ∈ tables_1, d.before a0 Z = true) : (Jvm.Cond.declares ({ cls := "com/example/tx_at_boundaries/txatboundaries/mybatis/JoinedSessions", name := "requireRunning", desc := "(Ljava/lang/String;)V" } : Jvm.MethodName)).before a0 Z = true := hw _ (List.mem_of_getElem? (i := 24) rfl)
theorem ow25 {a0 : Array Value} {Z : State} (hw : ∀ d ∈ tables_1, d.before a0 Z = true) : (Jvm.Cond.instanceMethod ({ cls := "com/example/tx_at_boundaries/txatboundaries/mybatis/JoinedSessions", name := "requireRunning", desc := "(Ljava/lang/String;)V" } : Jvm.MethodName)).before a0 Z = true := hw _ (List.mem_of_getElem? (i := 25) rfl)
theorem ow26 {a0 : Array Value} {Z : State} (hw : ∀ d ∈ tables_1, d.before a0 Z = true) : (Jvm.Cond.selects "com/example/tx_at_boundaries/txatboundaries/mybatis/JoinedSessions" ({ cls := "com/example/tx_at_boundaries/txatboundaries/mybatis/JoinedSessions", name := "requireRunning", desc := "(Ljava/lang/String;)V" } : Jvm.MethodName) ({ cls := "com/example/tx_at_boundaries/txatboundaries/mybatis/JoinedSessions", name := "requireRunning", desc := "(Ljava/lang/String;)V" } : Jvm.MethodName)).before a0 Z = true := hw _ (List.mem_of_getElem? (i := 26) rfl)
theorem ow27 {a0 : Array Value} {Z : State} (hw : ∀ d ∈ tables_1, d.before a0 Z = true) : (Jvm.Cond.code ({ cls := "com/example/tx_at_boundaries/txatboundaries/mybatis/JoinedSessions", name := "requireRunning", desc := "(Ljava/lang/String;)V" } : Jvm.MethodName) prog_38_method_3_code (2 : Nat) (Option.none : Option Jvm.ClassFile.FieldType)).before a0 Z = true := hw _ (List.mem_of_getElem? (i := 27) rfl)
theorem ow28 {a0 : Array Value} {Z : State} (hw : ∀ d ∈ tables_1, d.before a0 Z = true) : (Jvm.Cond.fieldLink "com/example/tx_at_boundaries/txatboundaries/mybatis/JoinedSessions" (22 : Nat) "com/example/tx_at_boundaries/txatboundaries/mybatis/JoinedSessions" "ended" "Z").before a0 Z = true := hw _ (List.mem_of_getElem? (i := 28) rfl)
theorem ow29 {a0 : Array Value} {Z : State} (hw : ∀ d ∈ tables_1, d.before a0 Z = true) : (Jvm.Cond.lays "com/example/tx_at_boundaries/txatboundaries/mybatis/JoinedSessions" "com/example/tx_at_boundaries/txatboundaries/mybatis/JoinedSessions" "ended" "Z").before a0 Z = true := hw _ (List.mem_of_getElem? (i := 29) rfl)
theorem ow30 {a0 : Array Value} {Z : State} (hw : ∀ d ∈ tables_1, d.before a0 Z = true) : (Jvm.Cond.fieldLink "com/example/tx_at_boundaries/txatboundaries/mybatis/JoinedSessions" (15 : Nat) "com/example/tx_at_boundaries/txatboundaries/mybatis/JoinedSessions" "rollback" "Lcom/example/tx_at_boundaries/txatboundaries/mybatis/JoinedSessions$SessionRollback;").before a0 Z = true := hw _ (List.mem_of_getElem? (i := 30) rfl)
theorem ow31 {a0 : Array Value} {Z : State} (hw : ∀ d ∈ tables_1, d.before a0 Z = true) : (Jvm.Cond.lays "com/example/tx_at_boundaries/txatboundaries/mybatis/JoinedSessions" "com/example/tx_at_boundaries/txatboundaries/mybatis/JoinedSessions" "rollback" "Lcom/example/tx_at_boundaries/txatboundaries/mybatis/JoinedSessions$SessionRollback;").before a0 Z = true := hw _ (List.mem_of_getElem? (i := 31) rfl)
theorem ow32 {a0 : Array Value} {Z : State} (hw : ∀ d ∈ tables_1, d.before a0 Z = true) : (Jvm.Cond.classLink "com/example/tx_at_boundaries/txatboundaries/mybatis/JoinedSessions" (19 : Nat) "com/example/tx_at_boundaries/txatboundaries/mybatis/JoinedSessions$SessionRollback").before a0 Z = true := hw _ (List.mem_of_getElem? (i := 32) rfl)
theorem ow33 {a0 : Array Value} {Z : State} (hw : ∀ d ∈ tables_1, d.before a0 Z = true) : (Jvm.Cond.instantiable "com/example/tx_at_boundaries/txatboundaries/mybatis/JoinedSessions$SessionRollback" (6 : Nat)).before a0 Z = true := hw _ (List.mem_of_getElem? (i := 33) rfl)
theorem ow34 {a0 : Array Value} {Z : State} (hw : ∀ d ∈ tables_1, d.before a0 Z = true) : (Jvm.Cond.initialized "com/example/tx_at_boundaries/txatboundaries/mybatis/JoinedSessions$SessionRollback").before a0 Z = true := hw _ (List.mem_of_getElem? (i := 34) rfl)
theorem ow35 {a0 : Array Value} {Z : State} (hw : ∀ d ∈ tables_1, d.before a0 Z = true) : (Jvm.Cond.methodLink "com/example/tx_at_boundaries/txatboundaries/mybatis/JoinedSessions" (21 : Nat) ({ cls := "com/example/tx_at_boundaries/txatboundaries/mybatis/JoinedSessions$SessionRollback", name := "<init>", desc := "()V" } : Jvm.MethodName)).before a0 Z = true := hw _ (List.mem_of_getElem? (i := 35) rfl)
theorem ow36 {a0 : Array Value} {Z : State} (hw : ∀ d ∈ tables_1, d.before a0 Z = true) : (Jvm.Cond.instanceMethod ({ cls := "com/example/tx_at_boundaries/txatboundaries/mybatis/JoinedSessions$SessionRollback", name := "<init>", desc := "()V" } : Jvm.MethodName)).before a0 Z = true := hw _ (List.mem_of_getElem? (i := 36) rfl)
theorem ow37 {a0 : Array Value} {Z : State} (hw : ∀ d ∈ tables_1, d.before a0 Z = true) : (Jvm.Cond.code ({ cls := "com/example/tx_at_boundaries/txatboundaries/mybatis/JoinedSessions$SessionRollback", name := "<init>", desc := "()V" } : Jvm.MethodName) prog_39_method_1_code (1 : Nat) (Option.none : Option Jvm.ClassFile.FieldType)).before a0 Z = true := hw _ (List.mem_of_getElem? (i := 37) rfl)
theorem ow38 {a0 : Array Value} {Z : State} (hw : ∀ d ∈ tables_1, d.before a0 Z = true) : (Jvm.Cond.stringLink "com/example/tx_at_boundaries/txatboundaries/mybatis/JoinedSessions$SessionRollback" (1 : Nat) "a MyBatis session that joined the transaction rolled its work back").before a0 Z = true := hw _ (List.mem_of_getElem? (i := 38) rfl)
theorem ow39 {a0 : Array Value} {Z : State} (hw : ∀ d ∈ tables_1, d.before a0 Z = true) : (Jvm.Cond.methodLink "com/example/tx_at_boundaries/txatboundaries/mybatis/JoinedSessions$SessionRollback" (3 : Nat) ({ cls := "java/lang/Exception", name := "<init>", desc := "(Ljava/lang/String;)V" } : Jvm.MethodName)).before a0 Z = true := hw _ (List.mem_of_getElem? (i := 39) rfl)
theorem ow40 {a0 : Array Value} {Z : State} (hw : ∀ d ∈ tables_1, d.before a0 Z = true) : (Jvm.Cond.instanceMethod ({ cls := "java/lang/Exception", name := "<init>", desc := "(Ljava/lang/String;)V" } : Jvm.MethodName)).before a0 Z = true := hw _ (List.mem_of_getElem? (i := 40) rfl)
theorem ow42 {a0 : Array Value} {Z : State} (hw : ∀ d ∈ tables_1, d.before a0 Z = true) : (Jvm.Cond.initialized "java/lang/Exception").before a0 Z = true := hw _ (List.mem_of_getElem? (i := 42) rfl)
theorem ow43 {a0 : Array Value} {Z : State} (hw : ∀ d ∈ tables_1, d.before a0 Z = true) : (Jvm.Cond.code ({ cls := "java/lang/Exception", name := "<init>", desc := "(Ljava/lang/String;)V" } : Jvm.MethodName) jdk_59_method_2_code (2 : Nat) (Option.none : Option Jvm.ClassFile.FieldType)).before a0 Z = true := hw _ (List.mem_of_getElem? (i := 43) rfl)
theorem ow44 {a0 : Array Value} {Z : State} (hw : ∀ d ∈ tables_1, d.before a0 Z = true) : (Jvm.Cond.methodLink "java/lang/Exception" (7 : Nat) ({ cls := "java/lang/Throwable", name := "<init>", desc := "(Ljava/lang/String;)V" } : Jvm.MethodName)).before a0 Z = true := hw _ (List.mem_of_getElem? (i := 44) rfl)
theorem ow45 {a0 : Array Value} {Z : State} (hw : ∀ d ∈ tables_1, d.before a0 Z = true) : (Jvm.Cond.instanceMethod ({ cls := "java/lang/Throwable", name := "<init>", desc := "(Ljava/lang/String;)V" } : Jvm.MethodName)).before a0 Z = true := hw _ (List.mem_of_getElem? (i := 45) rfl)
theorem ow48 {a0 : Array Value} {Z : State} (hw : ∀ d ∈ tables_1, d.before a0 Z = true) : (Jvm.Cond.initialized "java/lang/Throwable").before a0 Z = true := hw _ (List.mem_of_getElem? (i := 48) rfl)
theorem ow49 {a0 : Array Value} {Z : State} (hw : ∀ d ∈ tables_1, d.before a0 Z = true) : (Jvm.Cond.code ({ cls := "java/lang/Throwable", name := "<init>", desc := "(Ljava/lang/String;)V" } : Jvm.MethodName) jdk_78_method_2_code (2 : Nat) (Option.none : Option Jvm.ClassFile.FieldType)).before a0 Z = true := hw _ (List.mem_of_getElem? (i := 49) rfl)
theorem ow50 {a0 : Array Value} {Z : State} (hw : ∀ d ∈ tables_1, d.before a0 Z = true) : (Jvm.Cond.methodLink "java/lang/Throwable" (1 : Nat) ({ cls := "java/lang/Object", name := "<init>", desc := "()V" } : Jvm.MethodName)).before a0 Z = true := hw _ (List.mem_of_getElem? (i := 50) rfl)
theorem ow51 {a0 : Array Value} {Z : State} (hw : ∀ d ∈ tables_1, d.before a0 Z = true) : (Jvm.Cond.fieldLink "java/lang/Throwable" (7 : Nat) "java/lang/Throwable" "cause" "Ljava/lang/Throwable;").before a0 Z = true := hw _ (List.mem_of_getElem? (i := 51) rfl)
theorem ow52 {a0 : Array Value} {Z : State} (hw : ∀ d ∈ tables_1, d.before a0 Z = true) : (Jvm.Cond.lays "com/example/tx_at_boundaries/txatboundaries/mybatis/JoinedSessions$SessionRollback" "java/lang/Throwable" "cause" "Ljava/lang/Throwable;").before a0 Z = true := hw _ (List.mem_of_getElem? (i := 52) rfl)
theorem ow53 {a0 : Array Value} {Z : State} (hw : ∀ d ∈ tables_1, d.before a0 Z = true) : (Jvm.Cond.fieldLink "java/lang/Throwable" (13 : Nat) "java/lang/Throwable" "UNASSIGNED_STACK" "[Ljava/lang/StackTraceElement;").before a0 Z = true := hw _ (List.mem_of_getElem? (i := 53) rfl)
theorem ow54 {a0 : Array Value} {Z : State} (hw : ∀ d ∈ tables_1, d.before a0 Z = true) : (Jvm.Cond.fieldLink "java/lang/Throwable" (17 : Nat) "java/lang/Throwable" "stackTrace" "[Ljava/lang/StackTraceElement;").before a0 Z = true := hw _ (List.mem_of_getElem? (i := 54) rfl)
theorem ow55 {a0 : Array Value} {Z : State} (hw : ∀ d ∈ tables_1, d.before a0 Z = true) : (Jvm.Cond.lays "com/example/tx_at_boundaries/txatboundaries/mybatis/JoinedSessions$SessionRollback" "java/lang/Throwable" "stackTrace" "[Ljava/lang/StackTraceElement;").before a0 Z = true := hw _ (List.mem_of_getElem? (i := 55) rfl)
theorem ow56 {a0 : Array Value} {Z : State} (hw : ∀ d ∈ tables_1, d.before a0 Z = true) : (Jvm.Cond.fieldLink "java/lang/Throwable" (20 : Nat) "java/lang/Throwable" "SUPPRESSED_SENTINEL" "Ljava/util/List;").before a0 Z = true := hw _ (List.mem_of_getElem? (i := 56) rfl)
theorem ow57 {a0 : Array Value} {Z : State} (hw : ∀ d ∈ tables_1, d.before a0 Z = true) : (Jvm.Cond.fieldLink "java/lang/Throwable" (24 : Nat) "java/lang/Throwable" "suppressedExceptions" "Ljava/util/List;").before a0 Z = true := hw _ (List.mem_of_getElem? (i := 57) rfl)
theorem ow58 {a0 : Array Value} {Z : State} (hw : ∀ d ∈ tables_1, d.before a0 Z = true) : (Jvm.Cond.lays "com/example/tx_at_boundaries/txatboundaries/mybatis/JoinedSessions$SessionRollback" "java/lang/Throwable" "suppressedExceptions" "Ljava/util/List;").before a0 Z = true := hw _ (List.mem_of_getElem? (i := 58) rfl)
theorem ow59 {a0 : Array Value} {Z : State} (hw : ∀ d ∈ tables_1, d.before a0 Z = true) : (Jvm.Cond.methodLink "java/lang/Throwable" (27 : Nat) ({ cls := "java/lang/Throwable", name := "fillInStackTrace", desc := "()Ljava/lang/Throwable;" } : Jvm.MethodName)).before a0 Z = true := hw _ (List.mem_of_getElem? (i := 59) rfl)
theorem ow60 {a0 : Array Value} {Z : State} (hw : ∀ d ∈ tables_1, d.before a0 Z = true) : (Jvm.Cond.declares ({ cls := "java/lang/Throwable", name := "fillInStackTrace", desc := "()Ljava/lang/Throwable;" } : Jvm.MethodName)).before a0 Z = true := hw _ (List.mem_of_getElem? (i := 60) rfl)
theorem ow61 {a0 : Array Value} {Z : State} (hw : ∀ d ∈ tables_1, d.before a0 Z = true) : (Jvm.Cond.instanceMethod ({ cls := "java/lang/Throwable", name := "fillInStackTrace", desc := "()Ljava/lang/Throwable;" } : Jvm.MethodName)).before a0 Z = true := hw _ (List.mem_of_getElem? (i := 61) rfl)
theorem ow62 {a0 : Array Value} {Z : State} (hw : ∀ d ∈ tables_1, d.before a0 Z = true) : (Jvm.Cond.selects "com/example/tx_at_boundaries/txatboundaries/mybatis/JoinedSessions$SessionRollback" ({ cls := "java/lang/Throwable", name := "fillInStackTrace", desc := "()Ljava/lang/Throwable;" } : Jvm.MethodName) ({ cls := "java/lang/Throwable", name := "fillInStackTrace", desc := "()Ljava/lang/Throwable;" } : Jvm.MethodName)).before a0 Z = true := hw _ (List.mem_of_getElem? (i := 62) rfl)
theorem ow63 {a0 : Array Value} {Z : State} (hw : ∀ d ∈ tables_1, d.before a0 Z = true) : (Jvm.Cond.arrayOver (Jvm.ClassFile.FieldType.object "java/lang/Object")).before a0 Z = true := hw _ (List.mem_of_getElem? (i := 63) rfl)
theorem ow64 {a0 : Array Value} {Z : State} (hw : ∀ d ∈ tables_1, d.before a0 Z = true) : (Jvm.Cond.soleField "java/lang/Throwable" "backtrace").before a0 Z = true := hw _ (List.mem_of_getElem? (i := 64) rfl)
theorem ow65 {a0 : Array Value} {Z : State} (hw : ∀ d ∈ tables_1, d.before a0 Z = true) : (Jvm.Cond.soleField "java/lang/Throwable" "depth").before a0 Z = true := hw _ (List.mem_of_getElem? (i := 65) rfl)
theorem ow77 {a0 : Array Value} {Z : State} (hw : ∀ d ∈ tables_1, d.before a0 Z = true) : (Jvm.Cond.fieldLink "java/lang/Throwable" (198 : Nat) "java/lang/Throwable" "backtrace" "Ljava/lang/Object;").before a0 Z = true := hw _ (List.mem_of_getElem? (i := 77) rfl)
theorem ow78 {a0 : Array Value} {Z : State} (hw : ∀ d ∈ tables_1, d.before a0 Z = true) : (Jvm.Cond.lays "java/lang/Throwable" "java/lang/Throwable" "backtrace" "Ljava/lang/Object;").before a0 Z = true := hw _ (List.mem_of_getElem? (i := 78) rfl)
theorem ow81 {a0 : Array Value} {Z : State} (hw : ∀ d ∈ tables_1, d.before a0 Z = true) : (Jvm.Cond.selects "com/example/tx_at_boundaries/txatboundaries/mybatis/JoinedSessions$SessionRollback" ({ cls := "java/lang/Throwable", name := "fillInStackTrace", desc := "(I)Ljava/lang/Throwable;" } : Jvm.MethodName) ({ cls := "java/lang/Throwable", name := "fillInStackTrace", desc := "(I)Ljava/lang/Throwable;" } : Jvm.MethodName)).before a0 Z = true := hw _ (List.mem_of_getElem? (i := 81) rfl)
theorem ow82 {a0 : Array Value} {Z : State} (hw : ∀ d ∈ tables_1, d.before a0 Z = true) : (Jvm.Cond.lays "com/example/tx_at_boundaries/txatboundaries/mybatis/JoinedSessions$SessionRollback" "java/lang/Throwable" "detailMessage" "Ljava/lang/String;").before a0 Z = true := hw _ (List.mem_of_getElem? (i := 82) rfl)
theorem ow83 {a0 : Array Value} {Z : State} (hw : ∀ d ∈ tables_1, d.before a0 Z = true) : (Jvm.Cond.lays "com/example/tx_at_boundaries/txatboundaries/mybatis/JoinedSessions$SessionRollback" "java/lang/Throwable" "backtrace" "Ljava/lang/Object;").before a0 Z = true := hw _ (List.mem_of_getElem? (i := 83) rfl)
theorem ow84 {a0 : Array Value} {Z : State} (hw : ∀ d ∈ tables_1, d.before a0 Z = true) : (Jvm.Cond.lays "com/example/tx_at_boundaries/txatboundaries/mybatis/JoinedSessions$SessionRollback" "java/lang/Throwable" "depth" "I").before a0 Z = true := hw _ (List.mem_of_getElem? (i := 84) rfl)
theorem ow86 {a0 : Array Value} {Z : State} (hw : ∀ d ∈ tables_1, d.before a0 Z = true) : (Jvm.Cond.fieldLink "java/lang/Throwable" (31 : Nat) "java/lang/Throwable" "detailMessage" "Ljava/lang/String;").before a0 Z = true := hw _ (List.mem_of_getElem? (i := 86) rfl)
theorem ow87 {a0 : Array Value} {Z : State} (hw : ∀ d ∈ tables_1, d.before a0 Z = true) : (Jvm.Cond.methodLink "com/example/tx_at_boundaries/txatboundaries/mybatis/JoinedSessionsRequireRunningPinLaw" (22 : Nat) ({ cls := "com/example/tx_at_boundaries/txatboundaries/mybatis/JoinedSessions", name := "failure", desc := "()Ljava/lang/Throwable;" } : Jvm.MethodName)).before a0 Z = true := hw _ (List.mem_of_getElem? (i := 87) rfl)
theorem ow88 {a0 : Array Value} {Z : State} (hw : ∀ d ∈ tables_1, d.before a0 Z = true) : (Jvm.Cond.declares ({ cls := "com/example/tx_at_boundaries/txatboundaries/mybatis/JoinedSessions", name := "failure", desc := "()Ljava/lang/Throwable;" } : Jvm.MethodName)).before a0 Z = true := hw _ (List.mem_of_getElem? (i := 88) rfl)
theorem ow89 {a0 : Array Value} {Z : State} (hw : ∀ d ∈ tables_1, d.before a0 Z = true) : (Jvm.Cond.instanceMethod ({ cls := "com/example/tx_at_boundaries/txatboundaries/mybatis/JoinedSessions", name := "failure", desc := "()Ljava/lang/Throwable;" } : Jvm.MethodName)).before a0 Z = true := hw _ (List.mem_of_getElem? (i := 89) rfl)
theorem ow90 {a0 : Array Value} {Z : State} (hw : ∀ d ∈ tables_1, d.before a0 Z = true) : (Jvm.Cond.selects "com/example/tx_at_boundaries/txatboundaries/mybatis/JoinedSessions" ({ cls := "com/example/tx_at_boundaries/txatboundaries/mybatis/JoinedSessions", name := "failure", desc := "()Ljava/lang/Throwable;" } : Jvm.MethodName) ({ cls := "com/example/tx_at_boundaries/txatboundaries/mybatis/JoinedSessions", name := "failure", desc := "()Ljava/lang/Throwable;" } : Jvm.MethodName)).before a0 Z = true := hw _ (List.mem_of_getElem? (i := 90) rfl)
theorem ow91 {a0 : Array Value} {Z : State} (hw : ∀ d ∈ tables_1, d.before a0 Z = true) : (Jvm.Cond.code ({ cls := "com/example/tx_at_boundaries/txatboundaries/mybatis/JoinedSessions", name := "failure", desc := "()Ljava/lang/Throwable;" } : Jvm.MethodName) prog_38_method_7_code (1 : Nat) (Option.some (Jvm.ClassFile.FieldType.object "java/lang/Throwable"))).before a0 Z = true := hw _ (List.mem_of_getElem? (i := 91) rfl)
theorem ow92 {a0 : Array Value} {Z : State} (hw : ∀ d ∈ tables_1, d.before a0 Z = true) : (Jvm.Cond.methodLink "com/example/tx_at_boundaries/txatboundaries/mybatis/JoinedSessionsRequireRunningPinLaw" (26 : Nat) ({ cls := "com/example/tx_at_boundaries/txatboundaries/mybatis/JoinedSessions", name := "requireRunning", desc := "(Ljava/lang/String;)V" } : Jvm.MethodName)).before a0 Z = true := hw _ (List.mem_of_getElem? (i := 92) rfl)
theorem ow93 {a0 : Array Value} {Z : State} (hw : ∀ d ∈ tables_1, d.before a0 Z = true) : (Jvm.Cond.classLink "com/example/tx_at_boundaries/txatboundaries/mybatis/JoinedSessionsRequireRunningPinLaw" (7 : Nat) "java/lang/String").before a0 Z = true := hw _ (List.mem_of_getElem? (i := 93) rfl)
theorem ow94 {a0 : Array Value} {Z : State} (hw : ∀ d ∈ tables_1, d.before a0 Z = true) : (Jvm.Cond.methodLink "com/example/tx_at_boundaries/txatboundaries/mybatis/JoinedSessionsRequireRunningPinLaw" (9 : Nat) ({ cls := "java/lang/String", name := "<init>", desc := "([C)V" } : Jvm.MethodName)).before a0 Z = true := hw _ (List.mem_of_getElem? (i := 94) rfl)
theorem ow95 {a0 : Array Value} {Z : State} (hw : ∀ d ∈ tables_1, d.before a0 Z = true) : (Jvm.Cond.instanceMethod ({ cls := "java/lang/String", name := "<init>", desc := "([C)V" } : Jvm.MethodName)).before a0 Z = true := hw _ (List.mem_of_getElem? (i := 95) rfl)
theorem ow96 {a0 : Array Value} {Z : State} (hw : ∀ d ∈ tables_1, d.before a0 Z = true) : (Jvm.Cond.code ({ cls := "java/lang/String", name := "<init>", desc := "([C)V" } : Jvm.MethodName) jdk_42_method_3_code (2 : Nat) (Option.none : Option Jvm.ClassFile.FieldType)).before a0 Z = true := hw _ (List.mem_of_getElem? (i := 96) rfl)
theorem ow97 {a0 : Array Value} {Z : State} (hw : ∀ d ∈ tables_1, d.before a0 Z = true) : (Jvm.Cond.methodLink "java/lang/String" (27 : Nat) ({ cls := "java/lang/String", name := "<init>", desc := "([CIILjava/lang/Void;)V" } : Jvm.MethodName)).before a0 Z = true := hw _ (List.mem_of_getElem? (i := 97) rfl)
theorem ow98 {a0 : Array Value} {Z : State} (hw : ∀ d ∈ tables_1, d.before a0 Z = true) : (Jvm.Cond.instanceMethod ({ cls := "java/lang/String", name := "<init>", desc := "([CIILjava/lang/Void;)V" } : Jvm.MethodName)).before a0 Z = true := hw _ (List.mem_of_getElem? (i := 98) rfl)
theorem ow100 {a0 : Array Value} {Z : State} (hw : ∀ d ∈ tables_1, d.before a0 Z = true) : (Jvm.Cond.code ({ cls := "java/lang/String", name := "<init>", desc := "([CIILjava/lang/Void;)V" } : Jvm.MethodName) jdk_42_method_149_code (6 : Nat) (Option.none : Option Jvm.ClassFile.FieldType)).before a0 Z = true := hw _ (List.mem_of_getElem? (i := 100) rfl)
theorem ow101 {a0 : Array Value} {Z : State} (hw : ∀ d ∈ tables_1, d.before a0 Z = true) : (Jvm.Cond.methodLink "java/lang/String" (1 : Nat) ({ cls := "java/lang/Object", name := "<init>", desc := "()V" } : Jvm.MethodName)).before a0 Z = true := hw _ (List.mem_of_getElem? (i := 101) rfl)
theorem ow102 {a0 : Array Value} {Z : State} (hw : ∀ d ∈ tables_1, d.before a0 Z = true) : (Jvm.Cond.fieldLink "java/lang/String" (38 : Nat) "java/lang/String" "COMPACT_STRINGS" "Z").before a0 Z = true := hw _ (List.mem_of_getElem? (i := 102) rfl)
theorem ow113 {a0 : Array Value} {Z : State} (hw : ∀ d ∈ tables_1, d.before a0 Z = true) : (Jvm.Cond.fieldLink "java/lang/String" (15 : Nat) "java/lang/String" "coder" "B").before a0 Z = true := hw _ (List.mem_of_getElem? (i := 113) rfl)
theorem ow114 {a0 : Array Value} {Z : State} (hw : ∀ d ∈ tables_1, d.before a0 Z = true) : (Jvm.Cond.fieldLink "java/lang/String" (9 : Nat) "java/lang/String" "value" "[B").before a0 Z = true := hw _ (List.mem_of_getElem? (i := 114) rfl)
theorem ow115 {a0 : Array Value} {Z : State} (hw : ∀ d ∈ tables_1, d.before a0 Z = true) : (Jvm.Cond.stringLink "java/lang/String" (7 : Nat) "").before a0 Z = true := hw _ (List.mem_of_getElem? (i := 115) rfl)
theorem ow116 {a0 : Array Value} {Z : State} (hw : ∀ d ∈ tables_1, d.before a0 Z = true) : (Jvm.Cond.methodLink "com/example/tx_at_boundaries/txatboundaries/mybatis/JoinedSessionsRequireRunningPinLaw" (12 : Nat) ({ cls := "java/lang/String", name := "valueOf", desc := "(C)Ljava/lang/String;" } : Jvm.MethodName)).before a0 Z = true := hw _ (List.mem_of_getElem? (i := 116) rfl)
theorem ow117 {a0 : Array Value} {Z : State} (hw : ∀ d ∈ tables_1, d.before a0 Z = true) : (Jvm.Cond.static ({ cls := "java/lang/String", name := "valueOf", desc := "(C)Ljava/lang/String;" } : Jvm.MethodName)).before a0 Z = true := hw _ (List.mem_of_getElem? (i := 117) rfl)
theorem ow118 {a0 : Array Value} {Z : State} (hw : ∀ d ∈ tables_1, d.before a0 Z = true) : (Jvm.Cond.code ({ cls := "java/lang/String", name := "valueOf", desc := "(C)Ljava/lang/String;" } : Jvm.MethodName) jdk_42_method_139_code (1 : Nat) (Option.some (Jvm.ClassFile.FieldType.object "java/lang/String"))).before a0 Z = true := hw _ (List.mem_of_getElem? (i := 118) rfl)
theorem ow119 {a0 : Array Value} {Z : State} (hw : ∀ d ∈ tables_1, d.before a0 Z = true) : (Jvm.Cond.methodLink "java/lang/String" (1015 : Nat) ({ cls := "java/lang/StringLatin1", name := "canEncode", desc := "(C)Z" } : Jvm.MethodName)).before a0 Z = true := hw _ (List.mem_of_getElem? (i := 119) rfl)
theorem ow120 {a0 : Array Value} {Z : State} (hw : ∀ d ∈ tables_1, d.before a0 Z = true) : (Jvm.Cond.static ({ cls := "java/lang/StringLatin1", name := "canEncode", desc := "(C)Z" } : Jvm.MethodName)).before a0 Z = true := hw _ (List.mem_of_getElem? (i := 120) rfl)
theorem ow121 {a0 : Array Value} {Z : State} (hw : ∀ d ∈ tables_1, d.before a0 Z = true) : (Jvm.Cond.initialized "java/lang/StringLatin1").before a0 Z = true := hw _ (List.mem_of_getElem? (i := 121) rfl)
theorem ow122 {a0 : Array Value} {Z : State} (hw : ∀ d ∈ tables_1, d.before a0 Z = true) : (Jvm.Cond.code ({ cls := "java/lang/StringLatin1", name := "canEncode", desc := "(C)Z" } : Jvm.MethodName) jdk_43_method_3_code (1 : Nat) (Option.some Jvm.ClassFile.FieldType.boolean)).before a0 Z = true := hw _ (List.mem_of_getElem? (i := 122) rfl)
theorem ow123 {a0 : Array Value} {Z : State} (hw : ∀ d ∈ tables_1, d.before a0 Z = true) : (Jvm.Cond.classLink "java/lang/String" (10 : Nat) "java/lang/String").before a0 Z = true := hw _ (List.mem_of_getElem? (i := 123) rfl)
theorem ow124 {a0 : Array Value} {Z : State} (hw : ∀ d ∈ tables_1, d.before a0 Z = true) : (Jvm.Cond.methodLink "java/lang/String" (1018 : Nat) ({ cls := "java/lang/StringLatin1", name := "toBytes", desc := "(C)[B" } : Jvm.MethodName)).before a0 Z = true := hw _ (List.mem_of_getElem? (i := 124) rfl)
theorem ow125 {a0 : Array Value} {Z : State} (hw : ∀ d ∈ tables_1, d.before a0 Z = true) : (Jvm.Cond.static ({ cls := "java/lang/StringLatin1", name := "toBytes", desc := "(C)[B" } : Jvm.MethodName)).before a0 Z = true := hw _ (List.mem_of_getElem? (i := 125) rfl)
theorem ow126 {a0 : Array Value} {Z : State} (hw : ∀ d ∈ tables_1, d.before a0 Z = true) : (Jvm.Cond.code ({ cls := "java/lang/StringLatin1", name := "toBytes", desc := "(C)[B" } : Jvm.MethodName) jdk_43_method_46_code (1 : Nat) (Option.some (Jvm.ClassFile.FieldType.array Jvm.ClassFile.FieldType.byte))).before a0 Z = true := hw _ (List.mem_of_getElem? (i := 126) rfl)
theorem ow127 {a0 : Array Value} {Z : State} (hw : ∀ d ∈ tables_1, d.before a0 Z = true) : (Jvm.Cond.methodLink "java/lang/String" (209 : Nat) ({ cls := "java/lang/String", name := "<init>", desc := "([BB)V" } : Jvm.MethodName)).before a0 Z = true := hw _ (List.mem_of_getElem? (i := 127) rfl)
theorem ow128 {a0 : Array Value} {Z : State} (hw : ∀ d ∈ tables_1, d.before a0 Z = true) : (Jvm.Cond.instanceMethod ({ cls := "java/lang/String", name := "<init>", desc := "([BB)V" } : Jvm.MethodName)).before a0 Z = true := hw _ (List.mem_of_getElem? (i := 128) rfl)
theorem ow129 {a0 : Array Value} {Z : State} (hw : ∀ d ∈ tables_1, d.before a0 Z = true) : (Jvm.Cond.code ({ cls := "java/lang/String", name := "<init>", desc := "([BB)V" } : Jvm.MethodName) jdk_42_method_151_code (3 : Nat) (Option.none : Option Jvm.ClassFile.FieldType)).before a0 Z = true := hw _ (List.mem_of_getElem? (i := 129) rfl)
theorem pd0 : parseMethodDescriptor "([CIILjava/lang/Void;)V" = some ⟨[(.array .char), .int, .int, (.object "java/lang/Void")], none⟩ := by decide +kernel
theorem pd1 : parseMethodDescriptor "(C)Z" = some ⟨[.char], some .boolean⟩ := by decide +kernel
theorem pd2 : parseMethodDescriptor "(C)[B" = some ⟨[.char], some (.array .byte)⟩ := by decide +kernel
theorem pd3 : parseMethodDescriptor "([BB)V" = some ⟨[(.array .byte), .byte], none⟩ := by decide +kernel
theorem pd4 : parseMethodDescriptor "(Ljava/lang/String;)V" = some ⟨[(.object "java/lang/String")], none⟩ := by decide +kernel
theorem pd5 : parseMethodDescriptor "()V" = some ⟨[], none⟩ := by decide +kernel
theorem pd6 : parseMethodDescriptor "()Ljava/lang/Throwable;" = some ⟨[], some (.object "java/lang/Throwable")⟩ := by decide +kernel
theorem pd7 : parseMethodDescriptor "([C)V" = some ⟨[(.array .char)], none⟩ := by decide +kernel
theorem pd8 : parseMethodDescriptor "(C)Ljava/lang/String;" = some ⟨[.char], some (.object "java/lang/String")⟩ := by decide +kernel
theorem pn0 : plainName "java/lang/String" = true := by first | (simp [plainName, overriddenIn]; done) | decide +kernel
theorem pn1 : plainName "java/lang/StringLatin1" = true := by first | (simp [plainName, overriddenIn]; done) | decide +kernel
theorem pn2 : plainName "com/example/tx_at_boundaries/txatboundaries/mybatis/JoinedSessions" = true := by first | (simp [plainName, overriddenIn]; done) | decide +kernel
theorem pn3 : plainName "java/lang/Throwable" = true := by first | (simp [plainName, overriddenIn]; done) | decide +kernel
theorem pn4 : plainName "java/lang/Exception" = true := by first | (simp [plainName, overriddenIn]; done) | decide +kernel
theorem pn5 : plainName "com/example/tx_at_boundaries/txatboundaries/mybatis/JoinedSessions$SessionRollback" = true := by first | (simp [plainName, overriddenIn]; done) | decide +kernel
theorem pn6 : plainName "com/example/tx_at_boundaries/txatboundaries/mybatis/JoinedSessionsRequireRunningPinLaw" = true := by first | (simp [plainName, overriddenIn]; done) | decide +kernel
def EL0 : List (String × Nat) := [("com/example/tx_at_boundaries/txatboundaries/mybatis/JoinedSessions", 7), ("com/example/tx_at_boundaries/txatboundaries/mybatis/JoinedSessions$SessionRollback", 1), ("java/lang/String", 7)]
theorem own_EW {a0 : Array Value} {Z : State} (hw : ∀ d ∈ tables_1, d.before a0 Z = true) : EW Z a0 EL0 := (EW.cons (ow15 hw) (by decide) (EW.cons (ow38 hw) (by decide) (EW.cons (ow115 hw) (by decide) EW.nil)))
theorem own_wS {a0 : Array Value} {Z : State} (hw : ∀ d ∈ tables_1, d.before a0 Z = true) : ∀ a ∈ Bundle.stringAtoms, a.before a0 Z = true := fun d hd => hw d ((by decide +kernel : ∀ d ∈ Bundle.stringAtoms, d ∈ tables_1) d hd)
theorem and255_chars (x : Int32) : ¬ nar .char ((x &&& (255 : Int32)).toUInt32.toUInt16.toUInt32.toInt32) < 0 ∧ ¬ (255 : Int32) < nar .char ((x &&& (255 : Int32)).toUInt32.toUInt16.toUInt32.toInt32) := by
  have t : ∀ k : Fin 256, ¬ nar .char ((Int32.ofNat k.val).toUInt32.toUInt16.toUInt32.toInt32) < 0 ∧ ¬ (255 : Int32) < nar .char ((Int32.ofNat k.val).toUInt32.toUInt16.toUInt32.toInt32) := by decide +kernel
  have h : (x &&& 255).toBitVec.toNat < 256 := by
    simp only [Int32.toBitVec_and, BitVec.toNat_and]
    exact Nat.lt_succ_of_le Nat.and_le_right
  have e : (x &&& 255) = Int32.ofNat (x &&& 255).toBitVec.toNat := by
    apply Int32.toBitVec_inj.mp
    show _ = BitVec.ofNat 32 _
    rw [BitVec.ofNat_toNat]; simp
  rw [e]
  exact t ⟨_, h⟩
theorem own_c255 (x : Int32) : nar .char ((x &&& (255 : Int32)).toUInt32.toUInt16.toUInt32.toInt32) = x &&& (255 : Int32) := by
  have t : ∀ k : Fin 256, nar .char ((Int32.ofNat k.val).toUInt32.toUInt16.toUInt32.toInt32) = Int32.ofNat k.val := by decide +kernel
  have h : (x &&& 255).toBitVec.toNat < 256 := by
    simp only [Int32.toBitVec_and, BitVec.toNat_and]
    exact Nat.lt_succ_of_le Nat.and_le_right
  have e : (x &&& 255) = Int32.ofNat (x &&& 255).toBitVec.toNat := by
    apply Int32.toBitVec_inj.mp
    show _ = BitVec.ofNat 32 _
    rw [BitVec.ofNat_toNat]; simp
  rw [e]
  exact t ⟨_, h⟩
theorem own_up (cs : List Int32) (h : ∀ c ∈ cs, ¬ c < 0 ∧ ¬ (255 : Int32) < c) : ∀ c ∈ cs, ¬ c < 0 ∧ ¬ (65535 : Int32) < c := fun c hc => ⟨(h c hc).1, fun q => (h c hc).2 (by rw [Int32.lt_iff_toInt_lt] at q ⊢; have e1 : (65535 : Int32).toInt = 65535 := rfl; have e2 : (255 : Int32).toInt = 255 := rfl; omega)⟩
/-- the String at b spells the chars cs (each 0 to 255) -/
def StrP (Z : State) (h : Heap) (b : Addr) (cs : List Int32) : Prop := Exa Z h b "java/lang/String" ∧ Fld Z h b "java/lang/String" "coder" "B" (.int 0) ∧ (∀ c ∈ cs, ¬ c < 0 ∧ ¬ (255 : Int32) < c) ∧ cs.length ≤ 4000 ∧ ∃ (t : Addr) (kb : ClassId), Fld Z h b "java/lang/String" "value" "[B" (.ref t) ∧ Arv Z h t kb .byte (Int32.ofNat cs.length) ((cs.map fun c => c.toInt8.toInt32).map Value.int) (.int 0)
theorem StrP.lt {Z : State} {h : Heap} {b : Addr} {cs : List Int32} (F : StrP Z h b cs) : b < h.size := F.1.lt
theorem StrP.ext {Z : State} {h h' : Heap} {b : Addr} {cs : List Int32} (F : StrP Z h b cs) (E : Ext h h') : StrP Z h' b cs := by
  obtain ⟨f1, f2, f3, f4, t, kb, f5, f6⟩ := F
  exact ⟨f1.ext E, f2.ext E, f3, f4, t, kb, f5.ext E, f6.ext E⟩
theorem StrP.exk {Z : State} {h h' : Heap} {b : Addr} {cs : List Int32} (F : StrP Z h b cs) (K : Keep h h' []) : StrP Z h' b cs := by
  obtain ⟨f1, f2, f3, f4, t, kb, f5, f6⟩ := F
  exact ⟨f1.keep K, f2.keep K nin0, f3, f4, t, kb, f5.keep K nin0, f6.keep K nin0⟩
theorem Ext.of_keep {h h' : Heap} (K : Keep h h' []) : Ext h h' := ⟨K.1, fun a c q => K.2.1 a c q nin0⟩
theorem own_safe_null {Z : State} {EL : List (String × Nat)} {vm : Vm} {h : Heap} {a : Addr} (hal : Z.vm.Alike vm) (E : Exa Z h a "java/lang/String") (F : Fld Z h a "java/lang/String" "value" "[B" .null) : Safe Z EL vm h a := fun B => by
  obtain ⟨p, -, u, b, -, q, -, G, hy⟩ := B
  obtain ⟨cS, ⟨⟨s1, s2, s3, ⟨cv, kv, iv, s4, s4'⟩, ⟨cc, kc, ic, s5, s5'⟩, s6, s7, s8, s9, s10, s11, s12, s13, s14, s15, s16⟩, hfS, hcS⟩, ⟨kS, k1, k2, k3⟩, hB, hbyt⟩ := G
  rcases hy with rfl | rfl
  · obtain ⟨cell, cf, k, i, f, h1, h2, h3, h4, h5, h6, h7⟩ := F
    cases h1.symm.trans s1
    obtain ⟨k', e1, -⟩ := State.fieldFound?_setVm (s := Z) hal h2
    have e2 := (show (Wst Z vm h).fieldFound? _ _ _ = _ from e1).symm.trans s4
    simp only [Option.some.injEq, Prod.mk.injEq] at e2
    rw [e2.2.2.2] at h7
    rw [h7] at s8
    cases s8
  · obtain ⟨cell, k, h1, h2, h3, -, -⟩ := E
    cases h1.symm.trans s10
    have e1 : vm.findClass "java/lang/String" = some q.SA.cls := by rw [hal.findClass]; exact h2
    have e2 : vm.findClass "[B" = some q.SA.cls := hB
    obtain ⟨ka, a1, a2⟩ := Vm.findClass_spec e1
    obtain ⟨kb, b1, b2⟩ := Vm.findClass_spec e2
    cases a1.symm.trans b1
    rw [a2] at b2
    exact absurd b2 (by decide)
theorem own_cw {args : Array Value} {s : State} (hsets : ∀ w ∈ jdkStatics_1, w.before args s = true) : Jvm.Lit.compactW.before args s = true := hsets _ (List.mem_of_getElem? (i := 22) rfl)
theorem own_ws {a0 : Array Value} {Z : State} (hw : ∀ d ∈ tables_1, d.before a0 Z = true) : ∀ d ∈ StrChars.Road.words, d.before a0 Z = true := fun d hd => hw d ((by decide +kernel : ∀ d ∈ StrChars.Road.words, d ∈ tables_1) d hd)
theorem own_tk {Z : State} {v1 v2 : Vm} (h1 : Z.Warmed39 v1) (h2 : Z.Warmed39 v2) (h : v1.MethodsKnown) : v2.MethodsKnown := Vm.MethodsKnown.alikeC (h1.alike.symm.trans h2.alike) h
theorem own_fk {Z : State} {v1 v2 : Vm} {fs : List Frame} (h1 : Z.Warmed39 v1) (h2 : Z.Warmed39 v2) (h : v1.FramesKnown fs) : v2.FramesKnown fs := Vm.FramesKnown.alikeC (h1.alike.symm.trans h2.alike) h
theorem own_nc {x : Int32} (h : ¬ x < 0 ∧ ¬ (255 : Int32) < x) : nar .char x = x := by
  obtain ⟨h1, h2⟩ := h
  have t : ∀ k : Fin 256, nar .char (Int32.ofNat k.val) = Int32.ofNat k.val := by decide +kernel
  rw [Int32.lt_iff_toInt_lt] at h1 h2
  have e1 : (0 : Int32).toInt = 0 := rfl
  have e2 : (255 : Int32).toInt = 255 := rfl
  have e : x = Int32.ofNat x.toInt.toNat := Int32.toInt_inj.mp (by rw [Int32.toInt_ofNat_small (by omega)]; omega)
  rw [e]
  exact t ⟨x.toInt.toNat, by omega⟩
theorem own_nc2 (x : Int32) : ¬ nar .char (nar .char ((x &&& (255 : Int32)).toUInt32.toUInt16.toUInt32.toInt32)) < 0 ∧ ¬ (255 : Int32) < nar .char (nar .char ((x &&& (255 : Int32)).toUInt32.toUInt16.toUInt32.toInt32)) := by
  rw [own_nc (and255_chars x)]
  exact and255_chars x
section Thr
open Jvm.Bundle Jvm.Free.Exc Jvm.Lib.Cold
/-- what the sheet says of Throwable: the library's bundle asks `lays Throwable Throwable suppressedExceptions` too; here the receiver's own class says it -/
def THW : List Jvm.Cond := Jvm.Bundle.throwableAtoms.eraseIdx 18 ++ [.lays "com/example/tx_at_boundaries/txatboundaries/mybatis/JoinedSessions$SessionRollback" tN "suppressedExceptions" listD, .lays "com/example/tx_at_boundaries/txatboundaries/mybatis/JoinedSessions$SessionRollback" tN "stackTrace" steD]
theorem THW_in : ∀ d ∈ THW, d ∈ tables_1 := by decide +kernel
theorem THW_ok : THW.all xOk = true := by decide +kernel
theorem own_th {a0 args : Array Value} {Z s : State} (hZ : Z.Warmed39 s.vm) (hT : ThS Z s.heap) (hw : ∀ d ∈ tables_1, d.before a0 Z = true) : ∀ d ∈ THW, d.before args s = true := fun d hd => mvX hT hZ (List.all_eq_true.mp THW_ok d hd) (hw d (THW_in d hd))
set_option maxHeartbeats 4000000 in
theorem own_thr {args : Array Value} {s : State} {pl : Platform} (howns : pl.frameOwnsMonitors = true) (hfin : pl.finalization = false) (hpl : pl.magicAccessors = ({} : Platform).magicAccessors) (q : ∀ d ∈ THW, d.before args s = true) :
    ∃ (T : ThrowableC) (iS iU : Nat), T.Links pl s ∧ s.vm.findClass tN = some T.cT ∧ s.methodNamed? tFill = some T.fill ∧ s.methodNamed? tFill0 = some T.fill0 ∧ s.fieldFound? tN "stackTrace" steD = some (T.cT, T.kT, iS, T.fStack) ∧ s.fieldFound? tN "UNASSIGNED_STACK" steD = some (T.cT, T.kT, iU, T.fUnassigned) ∧ T.fStack.name = "stackTrace" ∧ T.fStack.type = .array (.object "java/lang/StackTraceElement") := by
  have b : ∀ d, d ∈ THW → d.holds args s none s [] = true := fun d hd => q d hd
  have w_nat := b (.native tFill0) (by simp [THW, throwableAtoms])
  have w_ini := b (.initialized tN) (by simp [THW, throwableAtoms])
  have w_sup := b (.superclass tN "java/lang/Object") (by simp [THW, throwableAtoms])
  have w_if := b (.instanceMethod tFill) (by simp [THW, throwableAtoms])
  have w_cf := b (.codeSync tFill LibCode.Throwable.Fill.code 1 (some (.object tN))) (by simp [THW, throwableAtoms])
  have w_i0 := b (.instanceMethod tFill0) (by simp [THW, throwableAtoms])
  have w_iz := b (.instanceMethod tInit0) (by simp [THW, throwableAtoms])
  have w_cz := b (.code tInit0 LibCode.Throwable.Init0.code 1 none) (by simp [THW, throwableAtoms])
  have w_io := b (.instanceMethod oInit) (by simp [THW, throwableAtoms])
  have w_co := b (.code oInit ⟨#[0xb1]⟩ 1 none) (by simp [THW, throwableAtoms])
  have w_l1 := b (.methodLink tN 1 oInit) (by simp [THW, throwableAtoms])
  have w_l27 := b (.methodLink tN 27 tFill) (by simp [THW, throwableAtoms])
  have w_l202 := b (.methodLink tN 202 tFill0) (by simp [THW, throwableAtoms])
  have w_f7 := b (.fieldLink tN 7 tN "cause" "Ljava/lang/Throwable;") (by simp [THW, throwableAtoms])
  have w_y7 := b (.lays tN tN "cause" "Ljava/lang/Throwable;") (by simp [THW, throwableAtoms])
  have w_f17 := b (.fieldLink tN 17 tN "stackTrace" steD) (by simp [THW, throwableAtoms])
  have w_y17 := b (.lays "com/example/tx_at_boundaries/txatboundaries/mybatis/JoinedSessions$SessionRollback" tN "stackTrace" steD) (by simp [THW, throwableAtoms])
  have w_f24 := b (.fieldLink tN 24 tN "suppressedExceptions" listD) (by simp [THW, throwableAtoms])
  have w_y24 := b (.lays "com/example/tx_at_boundaries/txatboundaries/mybatis/JoinedSessions$SessionRollback" tN "suppressedExceptions" listD) (by simp [THW, throwableAtoms])
  have w_f13 := b (.fieldLink tN 13 tN "UNASSIGNED_STACK" steD) (by simp [THW, throwableAtoms])
  have w_y13 := b (.laysStatic tN "UNASSIGNED_STACK" steD) (by simp [THW, throwableAtoms])
  have w_f20 := b (.fieldLink tN 20 tN "SUPPRESSED_SENTINEL" listD) (by simp [THW, throwableAtoms])
  have w_y20 := b (.laysStatic tN "SUPPRESSED_SENTINEL" listD) (by simp [THW, throwableAtoms])
  have w_ym := b (.lays tN tN "detailMessage" "Ljava/lang/String;") (by simp [THW, throwableAtoms])
  clear b
  obtain ⟨⟨ct, j0⟩, mt0, fn0, fm0, isnat, nocode, nolock, sg0⟩ := Cond.native_spec w_nat
  have fc : s.vm.findClass tN = some ct := findClass_of_methodNamed fn0
  obtain ⟨kt, hk, knm⟩ := Vm.findClass_spec fc
  obtain ⟨_, k1, _, _, hk1, _, _, kord, _, kni⟩ := Cond.superclass_spec fc w_sup
  obtain rfl : kt = k1 := Option.some.inj (hk.symm.trans hk1)
  obtain ⟨jF, mtF, fnF, fmF, atF, stF, abF, -, -⟩ := Cond.ownMethod (x := tFill) fc hk w_if
  obtain ⟨mtF2, cdF, fmF2, cF, byF, loF, reF, lkF, -, sgF⟩ := Cond.codeSync_spec fnF w_cf
  obtain rfl : mtF = mtF2 := Option.some.inj (fmF.symm.trans fmF2)
  obtain ⟨j02, mt02, fn02, fm02, at0, st0, ab0, nm0, ds0⟩ := Cond.ownMethod (x := tFill0) fc hk w_i0
  obtain rfl : j0 = j02 := by have e := Option.some.inj (fn0.symm.trans fn02); simpa using e
  obtain rfl : mt0 = mt02 := Option.some.inj (fm0.symm.trans fm02)
  obtain ⟨jZ, mtZ, fnZ, fmZ, atZ, -, -, -, -⟩ := Cond.ownMethod (x := tInit0) fc hk w_iz
  obtain ⟨mtZ2, cdZ, fmZ2, cZ, byZ, loZ, -, lkZ, -, -⟩ := Cond.code_spec fnZ w_cz
  obtain rfl : mtZ = mtZ2 := Option.some.inj (fmZ.symm.trans fmZ2)
  obtain ⟨mO, mtO, fnO, fmO, stO, abO⟩ := Cond.instanceMethod_spec w_io
  obtain ⟨mtO2, cdO, fmO2, cO, byO, loO, -, lkO, -, sgO⟩ := Cond.code_spec fnO w_co
  obtain rfl : mtO = mtO2 := Option.some.inj (fmO.symm.trans fmO2)
  obtain ⟨kO, hkO, knO⟩ := Vm.findClass_spec (findClass_of_methodNamed fnO)
  obtain ⟨nmO, dsO⟩ := name_of_methodNamed fnO fmO
  obtain ⟨c1, n1, cf, l1, r1, hcf, p1⟩ := Cond.linkedMethod fc hk fnO w_l1 pl hpl
  obtain ⟨c27, n27, cf27, l27, r27, hcf27, p27⟩ := Cond.linkedMethod fc hk fnF w_l27 pl hpl
  obtain rfl : cf = cf27 := Option.some.inj (hcf.symm.trans hcf27)
  obtain ⟨c202, n202, cf202, l202, r202, hcf202, p202⟩ := Cond.linkedMethod fc hk fn0 w_l202 pl hpl
  obtain rfl : cf = cf202 := Option.some.inj (hcf.symm.trans hcf202)
  obtain ⟨c7, i7, f7, k7, g7, t7, s7, fi7, na7, ty7, ff7⟩ := Cond.ownField (t := .object tN) fc hk (by decide +kernel) w_f7 w_y7 pl hpl
  obtain ⟨c17, i17, f17, k17, g17, t17, s17, fi17, na17, ty17, ff17⟩ := Cond.ownField (t := .array (.object "java/lang/StackTraceElement")) fc hk (by decide +kernel) w_f17 w_y17 pl hpl
  obtain ⟨c24, i24, f24, k24, g24, t24, s24, fi24, na24, ty24, ff24⟩ := Cond.ownField (t := .object "java/util/List") fc hk (by decide +kernel) w_f24 w_y24 pl hpl
  obtain ⟨c13, i13, f13, aS, cellS, k13, g13, t13, s13, -, -, hsta, -, -, -, -, ff13⟩ := Cond.ownStatic (t := .array (.object "java/lang/StackTraceElement")) fc hk (by decide +kernel) w_f13 w_y13 pl hpl
  obtain ⟨c20, i20, f20, _, _, k20, g20, t20, s20, -, -, -, -, -, -, -, ff20⟩ := Cond.ownStatic (t := .object "java/util/List") fc hk (by decide +kernel) w_f20 w_y20 pl hpl
  obtain ⟨_, _, _, _, _, fM, _, _, ffM, sM, fiM, _⟩ := Cond.lays_spec w_ym
  have apart : f17.slot ≠ f24.slot := by
    have e := slot_ne (Z := s) (a0 := args) (Or.inl w_y17) (Or.inl w_y24) (by decide) (t := .array (.object "java/lang/StackTraceElement")) (t' := .object "java/util/List") (by decide +kernel) (by decide +kernel)
    simpa [Jvm.RoadKit.slotOf, ff17, ff24] using e
  have parF : mtF.sig.parameters = [] := by
    have e : (parseMethodDescriptor tFill.desc).map (·.parameters) = some [] := by decide +kernel
    rw [sgF] at e; simpa using e
  have par0 : mt0.sig.parameters = [.int] := by
    have e : (parseMethodDescriptor tFill0.desc).map (·.parameters) = some [.int] := by decide +kernel
    rw [sg0] at e; simpa using e
  have parO : mtO.sig.parameters.length = 0 := by
    have e : (parseMethodDescriptor oInit.desc).map (·.parameters) = some [] := by decide +kernel
    rw [sgO] at e
    have e2 : mtO.sig.parameters = [] := by simpa using e
    rw [e2]; rfl
  let T0 : ThrowableC := { cT := ct, kT := kt, cO := ct, aS := aS, fillIdx := jF, fill0Idx := j0, initSIdx := jZ, obj := mO, kObj := kO, methFill := mtF, methFill0 := mt0, methInitS := mtZ, methObj := mtO, codeFill := cdF, codeInitS := cdZ, codeObj := cdO, fBack := f7, fDepth := f7, fStack := f17, fCause := f7, fSupp := f24, fMsg := fM, fUnassigned := f13, fSentinel := f20, cfT := cf, ci1 := c1, n1 := n1, ci27 := c27, n27 := n27, ci202 := c202, n202 := n202, ci7 := c7, i7 := i7, ci13 := c13, i13 := i13, ci17 := c17, i17 := i17, ci20 := c20, i20 := i20, ci24 := c24, i24 := i24 }
  refine ⟨T0, i17, i13, ?_, fc, fnF, fn0, ff17, ff13, na17, ty17⟩
  constructor
  case owns => exact howns
  case noFinalization => exact hfin
  case cls => exact hk
  case name => exact knm
  case boot => exact Vm.findClass_boot fc hk
  case notInterface => exact kni
  case initialized => exact Cond.initialized_spec fc hk w_ini
  case objFound => show lookupSpecial s.vm mO.cls "<init>" mtO.desc = _; rw [dsO]; exact lookupSpecial_of_named fnO fmO stO
  all_goals first | assumption | exact atF | exact hsta
theorem own_keep {p : Program} {l : Launch} {e : Env} {R : Room} {s : State} {m : MethodId} {args : Array Value} {below : List Frame} {meth : Method} {c : Code} {T : State} {locs : List Loc} {cells slots : Nat} (X : Stand p l e R s m args below meth c T locs cells slots) {a : Addr} (hL : ∀ x ∈ locs, x.base = a) : Keep s.heap T.heap [a] := by
  obtain ⟨-, h1, -, -, -, h2⟩ := X.same
  refine ⟨h1, fun x cy hx hn => ?_, fun x cy hx => ?_⟩
  · obtain ⟨c', q1, q2, q3, q4⟩ := h2 x cy hx
    have hs : c'.slots = cy.slots := Array.ext_getElem? fun i => q4 i fun hm => hn (by rw [show x = a from hL _ hm]; exact List.mem_singleton.mpr rfl)
    rw [hs] at q2
    rw [q2] at q1
    exact q1
  · obtain ⟨c', q1, q2, q3, q4⟩ := h2 x cy hx
    exact ⟨c', q1, by rw [q2], by rw [q2], q3⟩
set_option maxHeartbeats 4000000 in
theorem own_fill {p : Program} {l : Launch} {e : Env} {R : Room} {s : State} {m : MethodId} {args : Array Value} {below : List Frame} {meth : Method} {c : Code} {T : State} {locs : List Loc} {cells slots : Nat} {Z : State} {a0 : Array Value} {h : Heap} {a us : Addr} {dm : Value} (X : Stand p l e R s m args below meth c T locs cells slots) (hx : p.tables.exec = Jvm.exec) (hst : l.stackTraces = true) (hZ : Z.Warmed39 s.vm) (hw : ∀ d ∈ tables_1, d.before a0 Z = true) (hown : s.vm.findClass tN = some m.cls) (hT0 : ThS Z s.heap) (hTK : s.vm.MethodsKnown) (hBelow : s.vm.FramesKnown below)
    (eT : T.heap = h) (E : Exa Z h a "com/example/tx_at_boundaries/txatboundaries/mybatis/JoinedSessions$SessionRollback") (U : Unt h a) (FS : Fld Z h a tN "stackTrace" steD (.ref us)) (FB : Fld Z h a tN "backtrace" obD .null) (FM : Fld Z h a tN "detailMessage" msgD dm) (SU : Sta Z h tN "UNASSIGNED_STACK" steD (.ref us))
    {g : JFrame} (hg : g.method = m) (hsize : g.locals.size = c.maxLocals) {rest : List Value} (hs : g.stack = .ref a :: rest) (hd : decode c.code g.pc = .ok (.invokevirtual 27, 3)) (hf : 3 ≤ R.frames) {W : Nat} (hW : 2 * g.monitorRoom + (rest.map fun v => v.category).sum ≤ W) (hlo : W + 42 ≤ R.locals) (hc : cells + 1 ≤ R.cells) (hsl : slots + 2752 ≤ R.slots) :
    ∃ (T' : State) (h' : Heap) (L : List Loc), Stand p l e R s m args below meth c T' L (cells + 1) (slots + 2752) ∧ T'.heap = h' ∧ (∀ x ∈ L, x ∈ locs ∨ x.base = a) ∧ Exa Z h' a "com/example/tx_at_boundaries/txatboundaries/mybatis/JoinedSessions$SessionRollback" ∧ Fld Z h' a tN "detailMessage" msgD dm ∧
      ∀ target, Steps p.tables e below (T'.setTop { g with pc := g.pc + 3, stack := .ref a :: rest }) target → Steps p.tables e below (T.setTop g) target := by
  have htr : e.platform.stackTraces = true := by rw [X.admits.platform]; exact hst
  have howns : e.platform.frameOwnsMonitors = true := by rw [X.admits.platform]
  have hfin : e.platform.finalization = false := by rw [X.admits.platform]
  have hpl : e.platform.magicAccessors = ({} : Platform).magicAccessors := by rw [X.admits.platform]
  obtain ⟨TT, iS, iU, L, fnd, fl, fl0, ffS, ffU, nmS, tyS⟩ := own_thr (args := args) howns hfin hpl (own_th hZ hT0 hw)
  obtain ⟨cell, kX, hcell, hcls, hkX, hns, hsz⟩ := E
  obtain ⟨cell2, u1, u2, u3⟩ := U
  cases hcell.symm.trans u1
  have w59 : (Jvm.Cond.methodLink tN 27 tFill).before args s = true := mvT hZ (ow59 hw)
  have w60 : (Jvm.Cond.declares tFill).before args s = true := mvT hZ (ow60 hw)
  have w61 : (Jvm.Cond.instanceMethod tFill).before args s = true := mvT hZ (ow61 hw)
  have w62 : (Jvm.Cond.selects "com/example/tx_at_boundaries/txatboundaries/mybatis/JoinedSessions$SessionRollback" tFill tFill).before args s = true := mvT hZ (ow62 hw)
  have w81 : (Jvm.Cond.selects "com/example/tx_at_boundaries/txatboundaries/mybatis/JoinedSessions$SessionRollback" tFill0 tFill0).before args s = true := mvT hZ (ow81 hw)
  have w77 : (Jvm.Cond.fieldLink tN 198 tN "backtrace" obD).before args s = true := mvT hZ (ow77 hw)
  have w78 : (Jvm.Cond.lays tN tN "backtrace" obD).before args s = true := mvT hZ (ow78 hw)
  have w64 : (Jvm.Cond.soleField tN "backtrace").before args s = true := mvT hZ (ow64 hw)
  have w65 : (Jvm.Cond.soleField tN "depth").before args s = true := mvT hZ (ow65 hw)
  have w63 : (Jvm.Cond.arrayOver (.object "java/lang/Object")).before args s = true := Cond.arrayOver_alike hZ.alike (ow63 hw)
  have y55 : (Jvm.Cond.lays "com/example/tx_at_boundaries/txatboundaries/mybatis/JoinedSessions$SessionRollback" tN "stackTrace" steD).before args s = true := mvT hZ (ow55 hw)
  have y82 : (Jvm.Cond.lays "com/example/tx_at_boundaries/txatboundaries/mybatis/JoinedSessions$SessionRollback" tN "detailMessage" msgD).before args s = true := mvT hZ (ow82 hw)
  have y83 : (Jvm.Cond.lays "com/example/tx_at_boundaries/txatboundaries/mybatis/JoinedSessions$SessionRollback" tN "backtrace" obD).before args s = true := mvT hZ (ow83 hw)
  have y84 : (Jvm.Cond.lays "com/example/tx_at_boundaries/txatboundaries/mybatis/JoinedSessions$SessionRollback" tN "depth" "I").before args s = true := mvT hZ (ow84 hw)
  have yin : (Jvm.Cond.instantiable "com/example/tx_at_boundaries/txatboundaries/mybatis/JoinedSessions$SessionRollback" 6).before args s = true := mvT hZ (ow33 hw)
  have hfS : s.vm.findClass "com/example/tx_at_boundaries/txatboundaries/mybatis/JoinedSessions$SessionRollback" = some cell.cls := by rw [hZ.alike.findClass]; exact hcls
  obtain ⟨kX', hkX', ekX⟩ := hZ.alike.2.2 _ _ hkX
  obtain ⟨tc, kc, g1, g2, hord, -⟩ := Cond.instantiable_spec yin
  cases hfS.symm.trans g1
  cases hkX'.symm.trans g2
  have hsz' : cell.slots.size = kX'.instanceTypes.size := by
    rw [ekX]
    refine hsz ?_
    rw [ekX] at hord
    exact hord
  obtain ⟨_, cfS, kS, jS, fS, v1, v2, -, -, -, -, v7⟩ := FS
  cases hcell.symm.trans v1
  obtain ⟨kS', z2, -⟩ := State.fieldFound?_setVm (s := Z) hZ.alike v2
  have eS := (show s.fieldFound? tN "stackTrace" steD = some (cfS, kS', jS, fS) from z2).symm.trans ffS
  simp only [Option.some.injEq, Prod.mk.injEq] at eS
  obtain ⟨-, -, -, rfl⟩ := eS
  obtain ⟨ci, ib, fB, kb1, gb1, tb1, sb1, -, nmB, tyB, ffB⟩ := Cond.ownField (t := .object "java/lang/Object") fnd L.cls (by decide +kernel) w77 w78 e.platform hpl
  obtain ⟨_, cfB, kB, jB, fB', b1, b2, -, -, -, -, b7⟩ := FB
  cases hcell.symm.trans b1
  obtain ⟨kB', z3, -⟩ := State.fieldFound?_setVm (s := Z) hZ.alike b2
  have eB := (show s.fieldFound? tN "backtrace" obD = some (cfB, kB', jB, fB') from z3).symm.trans ffB
  simp only [Option.some.injEq, Prod.mk.injEq] at eB
  obtain ⟨-, -, -, rfl⟩ := eB
  obtain ⟨_, _, cD, kD, iD, fD, -, -, ffD, stD, -, -, -, -⟩ := Cond.lays_spec y84
  cases (Cond.lays_declared y84 ffD).symm.trans fnd
  obtain ⟨hkD, hatD⟩ := State.fieldFound?_spec ffD
  cases hkD.symm.trans L.cls
  obtain ⟨nmD, tyD⟩ := State.fieldFound?_type ffD (t := .int) (by decide +kernel)
  have hfb := Cond.soleField_find fnd L.cls w64 tb1 nmB sb1
  have hfd := Cond.soleField_find fnd L.cls w65 hatD nmD stD
  obtain ⟨comp, cO, kO, -, -, hkO, hkindO, hO⟩ := Cond.arrayOver_spec w63
  obtain ⟨lS, -⟩ := Cond.laysAt hfS hkX' ffS y55
  obtain ⟨lB, -⟩ := Cond.laysAt hfS hkX' ffB y83
  obtain ⟨lD, -⟩ := Cond.laysAt hfS hkX' ffD y84
  have tk : ∀ {f : Field} {v : Value}, kX'.instanceTypes[f.slot]? = some f.type → fits f.type v = true → Jvm.Takes s cell f v := fun {f v} h1 h2 => by
    obtain ⟨q1, q2⟩ := Takes.of_laid (v := v) hkX' hord h1 h2
    exact ⟨by rw [hsz']; simpa using q1, by rw [u2]; exact q2⟩
  have hsel0 : selectMethod e.platform s.vm cell.cls TT.fill0 = .method TT.fill0 := by
    obtain ⟨c2, r2, m2, q1, q2, q3, q4, -⟩ := Cond.selects_spec w81
    cases Option.some.inj (q1.symm.trans hfS)
    cases Option.some.inj (q2.symm.trans (State.methodFound?_of_named fl0 (by decide)))
    cases Option.some.inj (q3.symm.trans fl0)
    rw [Launch.admits_selectMethod X.admits]; exact q4
  obtain ⟨cfU, jU, kU, fU, stU, cellS, y1, y2, y3, y4, y5, y6, y7⟩ := SU
  obtain ⟨kU', z4, ekU⟩ := State.fieldFound?_setVm (s := Z) hZ.alike y1
  have eU := (show s.fieldFound? tN "UNASSIGNED_STACK" steD = some (cfU, kU', jU, fU) from z4).symm.trans ffU
  simp only [Option.some.injEq, Prod.mk.injEq] at eU
  obtain ⟨-, eK, -, rfl⟩ := eU
  obtain rfl : stU = TT.aS := by
    have q := L.statics
    rw [← eK, ekU] at q
    exact Option.some.inj (y4.symm.trans q)
  have hneS : TT.aS ≠ a := fun q => by
    rw [q, hcell] at y5
    cases y5
    rw [u2] at y6; cases y6
  have hknS : cellS.vm ≠ .unknown := fun q => by rw [q] at y6; cases y6
  obtain ⟨v6, vm6, ⟨T6, L6, c6, n6⟩, hW6, X6, ⟨hv6, C6, n, hn, hD6, q1, q2, q3, q4, hL6, hc6, hn6⟩, come⟩ := X.virtualBack hx (own := tN) (C := "com/example/tx_at_boundaries/txatboundaries/mybatis/JoinedSessions$SessionRollback") (index := 27) (y := tFill) (z := tFill) hown w59 w60 (notFace_of_selects w62) w62 w61 (by decide)
    (fillPaysAny (l := l) (W := W) hx htr TT L fl (u0 := ⟨.ref us, rfl⟩) (self := a) (cell := cell) (cellS := cellS) (fun _ => by rw [u2]; simp) (by rw [u2]; simp) (by rw [u3]) (by rw [u3]) v7 hsel0 hneS hknS y7 (tk lS (by rw [tyS]; rfl))
      ⟨{ ci198 := ci, i198 := ib, fBack := fB' }, ⟨kb1, gb1, tb1, sb1⟩, b7⟩ hTK hBelow fnd hO hkO hkindO hfb hfd (fun x => tk lB (by rw [tyB]; rfl)) (fun x => tk lD (by rw [tyD]; rfl)) (by omega) (by omega))
    (b := a) (cB := cell.cls) hfS ⟨cell, by rw [eT]; exact hcell, rfl, by rw [u2]; rfl⟩ (g := g) hg hsize (Steps.refl _) (argsL := []) (rest := rest)
    (fun sig h => by rw [show parseMethodDescriptor tFill.desc = some ⟨[], some (.object tN)⟩ from by decide +kernel] at h; rw [← Option.some.inj h]; rfl) hs hW hd
    (fun vmx hWx => ⟨rfl, hc, hsl, by show T.heap[a]? = _; rw [eT]; exact hcell, by show T.heap[TT.aS]? = _; rw [eT]; exact y5⟩)
  dsimp only [Pt.U, Pt.locs, Pt.cells, Pt.slots] at X6 hD6 hL6 hc6 hn6 come
  subst hv6 hL6 hc6 hn6
  refine ⟨T6, T6.heap, _, X6.more (Nat.le_refl _) (Nat.add_le_add_left hn _), rfl, ?_, ⟨C6, kX, hD6, by rw [q1]; exact hcls, by rw [q1]; exact hkX, by rw [q2]; exact hns, fun o => by rw [q3]; exact hsz o⟩, ?_, fun target q => come.trans q⟩
  · intro x hx
    rcases List.mem_append.mp hx with q | q
    · exact Or.inl q
    · simp only [List.mem_cons, List.not_mem_nil, or_false] at q
      rcases q with rfl | rfl | rfl <;> exact Or.inr rfl
  · obtain ⟨_, cfM, kM, jM, fM, m1, m2, m3, m4, m5, m6, m7⟩ := FM
    cases hcell.symm.trans m1
    obtain ⟨kM', z5, -⟩ := State.fieldFound?_setVm (s := Z) hZ.alike m2
    have ffM : s.fieldFound? tN "detailMessage" msgD = some (cfM, kM', jM, fM) := z5
    have n1 : fM.slot ≠ fB'.slot := by
      have q := slot_ne (Z := s) (a0 := args) (Or.inl y82) (Or.inl y83) (by decide) (t := .object "java/lang/String") (t' := .object "java/lang/Object") (by decide +kernel) (by decide +kernel)
      simpa [Jvm.RoadKit.slotOf, ffM, ffB] using q
    have n2 : fM.slot ≠ fD.slot := by
      have q := slot_ne (Z := s) (a0 := args) (Or.inl y82) (Or.inl y84) (by decide) (t := .object "java/lang/String") (t' := .int) (by decide +kernel) (by decide +kernel)
      simpa [Jvm.RoadKit.slotOf, ffM, ffD] using q
    have n3 : fM.slot ≠ TT.fStack.slot := by
      have q := slot_ne (Z := s) (a0 := args) (Or.inl y82) (Or.inl y55) (by decide) (t := .object "java/lang/String") (t' := .array (.object "java/lang/StackTraceElement")) (by decide +kernel) (by decide +kernel)
      simpa [Jvm.RoadKit.slotOf, ffM, ffS] using q
    exact ⟨C6, cfM, kM, jM, fM, hD6, m2, m3, by rw [q2]; exact m4, by rw [q2]; exact m5, by rw [q1]; exact m6, (q4 _ n1 n2 n3).trans m7⟩
end Thr
theorem own_hp2 (x0 x1 : Int32) : ∀ c ∈ ([nar .char (nar .char ((x0 &&& (255 : Int32)).toUInt32.toUInt16.toUInt32.toInt32)), nar .char (nar .char ((x1 &&& (255 : Int32)).toUInt32.toUInt16.toUInt32.toInt32))] : List Int32), ¬ c < 0 ∧ ¬ (255 : Int32) < c := by
  intro c hc
  simp only [List.mem_cons, List.not_mem_nil, or_false] at hc
  rcases hc with rfl | rfl
  all_goals exact own_nc2 _
theorem own_hp3 (x0 x1 x2 : Int32) : ∀ c ∈ ([nar .char ((x0 &&& (255 : Int32)).toUInt32.toUInt16.toUInt32.toInt32), nar .char ((x1 &&& (255 : Int32)).toUInt32.toUInt16.toUInt32.toInt32), nar .char ((x2 &&& (255 : Int32)).toUInt32.toUInt16.toUInt32.toInt32)] : List Int32), ¬ c < 0 ∧ ¬ (255 : Int32) < c := by
  intro c hc
  simp only [List.mem_cons, List.not_mem_nil, or_false] at hc
  rcases hc with rfl | rfl | rfl
  all_goals exact and255_chars _
theorem d_jdk_42_method_149_code_0 : decode jdk_42_method_149_code 0 = .ok (.aload_n 0, 1) := by decide +kernel
theorem d_jdk_42_method_149_code_1 : decode jdk_42_method_149_code 1 = .ok (.invokespecial 1, 3) := by decide +kernel
theorem d_jdk_42_method_149_code_4 : decode jdk_42_method_149_code 4 = .ok (.iload_n 3, 1) := by decide +kernel
theorem d_jdk_42_method_149_code_5 : decode jdk_42_method_149_code 5 = .ok (.ifCond .ne 22, 3) := by decide +kernel
theorem d_jdk_42_method_149_code_8 : decode jdk_42_method_149_code 8 = .ok (.aload_n 0, 1) := by decide +kernel
theorem d_jdk_42_method_149_code_9 : decode jdk_42_method_149_code 9 = .ok (.ldc 7, 2) := by decide +kernel
theorem d_jdk_42_method_149_code_11 : decode jdk_42_method_149_code 11 = .ok (.getfield 9, 3) := by decide +kernel
theorem d_jdk_42_method_149_code_14 : decode jdk_42_method_149_code 14 = .ok (.putfield 9, 3) := by decide +kernel
theorem d_jdk_42_method_149_code_17 : decode jdk_42_method_149_code 17 = .ok (.aload_n 0, 1) := by decide +kernel
theorem d_jdk_42_method_149_code_18 : decode jdk_42_method_149_code 18 = .ok (.ldc 7, 2) := by decide +kernel
theorem d_jdk_42_method_149_code_20 : decode jdk_42_method_149_code 20 = .ok (.getfield 15, 3) := by decide +kernel
theorem d_jdk_42_method_149_code_23 : decode jdk_42_method_149_code 23 = .ok (.putfield 15, 3) := by decide +kernel
theorem d_jdk_42_method_149_code_26 : decode jdk_42_method_149_code 26 = .ok (.return_, 1) := by decide +kernel
def Q_rme4 (Z : State) (a : Addr) (b : Addr) (h0 : Heap) (n0 : Nat) (v : Option Value) (h : Heap) (L : List Loc) : Prop := v = none ∧ Fr n0 L ∧ Keep h0 h [a] ∧ StrP Z h a []
theorem ef_rme4 (m : MethodId) (a : Addr) (b : Addr) : entryFrame m #[(.ref a), (.ref b), (.int (0 : Int32)), (.int (0 : Int32)), .null] 6 = mkF m 0 #[.val (.ref a), .val (.ref b), .val (.int (0 : Int32)), .val (.int (0 : Int32)), .val .null, .unset] [] := by first | (simp [entryFrame, mkF, argsToLocals, Value.category]; done) | rfl
set_option maxRecDepth 65536 in
set_option maxHeartbeats 40000000 in
theorem rme4 (l : Launch) (Z : State) (a0 : Array Value) (hw : ∀ d ∈ tables_1, d.before a0 Z = true) (ws : List Jvm.Cond) (a : Addr) (b : Addr) (h0 : Heap) (n0 : Nat) (O0 : Old Z n0 h0) (Ea : Exa Z h0 a "java/lang/String") (Fv : Fld Z h0 a "java/lang/String" "value" "[B" .null) (Fc : Fld Z h0 a "java/lang/String" "coder" "B" (.int (0 : Int32))) (ga : n0 ≤ a) :
    MetFree l (⟨"java/lang/String", "<init>", "([CIILjava/lang/Void;)V"⟩ : MethodName) (head1 (Jvm.Cond.code (⟨"java/lang/String", "<init>", "([CIILjava/lang/Void;)V"⟩ : MethodName) jdk_42_method_149_code 6 none :: ws) ({ frames := 1, cells := 4, slots := 8, locals := 12 } : Room)) (fun aa U => aa = #[(.ref a), (.ref b), (.int (0 : Int32)), (.int (0 : Int32)), .null] ∧ Z.Warmed39 U.vm ∧ U.heap = h0 ∧ CHv Z EL0 U.vm h0) (fun _ _ _ _ _ => True) (fun _ U o U' => ∃ v L, o = .returned v ∧ Q_rme4 Z a b h0 n0 v U'.heap L ∧ CHr Z EL0 U.vm U.heap U'.vm U'.heap ∧ ReturnedEndW U o U' L ({ frames := 1, cells := 4, slots := 8, locals := 12 } : Room).cells ({ frames := 1, cells := 4, slots := 8, locals := 12 } : Room).slots) := by
  refine MetFree.of_bodySF (plainFor_of_name pn0) hisR ?_
  intro p e s m args below meth c s₁ Bd hml0 hP hK
  obtain ⟨rfl, hZ, hh, hCH⟩ := hP
  have hx := Bd.exec
  have hby := Bd.bytes
  have hml : c.maxLocals = 6 := hml0
  have hown : s.vm.findClass "java/lang/String" = some m.cls := findClass_of_methodNamed Bd.named
  have hnm := (name_of_methodNamed Bd.named Bd.method).1
  have X0 : Stand p l e ({ frames := 1, cells := 4, slots := 8, locals := 12 } : Room) (s.setVm s.vm) m #[(.ref a), (.ref b), (.int (0 : Int32)), (.int (0 : Int32)), .null] below meth c s₁ [] 0 0 := Stand.of_body Bd
  have e0 : s₁.heap = h0 := by rw [← hh, Bd.state]; rfl
  have N0 := Fr.nil n0
  have K0 : Keep h0 h0 [a] := Keep.refl _ _
  have pre0 : ∀ tgt, Steps p.tables e below (s₁.setTop (mkF m 0 #[.val (.ref a), .val (.ref b), .val (.int (0 : Int32)), .val (.int (0 : Int32)), .val .null, .unset] [])) tgt → Steps p.tables e below (s₁.setTop (entryFrame m #[(.ref a), (.ref b), (.int (0 : Int32)), (.int (0 : Int32)), .null] 6)) tgt := fun tgt kgo => castTop (ef_rme4 m a b) kgo
  have hS0 : s.Since s.vm 0 := (State.WarmedH.refl s).since 0
  have hk0 : 0 ≤ h0.size := Nat.zero_le _
  have CH0 : CHr Z EL0 s.vm h0 s.vm h0 := CHr.refl hCH
  have Ya : Safe Z EL0 s.vm h0 a := own_safe_null hZ.alike Ea Fv
  obtain ⟨T1, X1, e1, st1⟩ := initO X0 hx hZ hown (ow101 hw) (ow8 hw) (ow9 hw) e0 (g := (mkF m 1 #[.val (.ref a), .val (.ref b), .val (.int (0 : Int32)), .val (.int (0 : Int32)), .val .null, .unset] [(.ref a)])) rfl (by rw [hml]; rfl) rfl (hb hby d_jdk_42_method_149_code_1) (by decide) (W := 0) (by show 2 * 0 + _ ≤ _; exact Nat.le_of_eq rfl) (by decide)
  obtain ⟨b2, T2, h2, kk2, d2, k2, X2, e2, E2, hS2, hk2, hZ2, hown2, Ex2, Fc2, Fv2, Av2, -, -, CR2, -, sn2, st2⟩ := ldcCH X1 hx hZ hown (ow115 hw) (own_wS hw) e1 hS0 hk0 (own_EW hw) (by decide) CH0.1 (vs := []) (z := (0 : Int32)) ⟨by decide, rfl⟩ (by decide) (by decide) (g := (mkF m 9 #[.val (.ref a), .val (.ref b), .val (.int (0 : Int32)), .val (.int (0 : Int32)), .val .null, .unset] [(.ref a)])) rfl (hb hby d_jdk_42_method_149_code_9) (n := 0) (by decide) (by decide) (by decide) (by decide)
  have Ol3 := O0.ext E2
  have K3 := K0.ext E2
  have CH3 := CH0.trans CR2
  have f4 := (CHr.safe CR2 Ea.lt Ya)
  have sq2_0 := sn2 a f4
  obtain ⟨T5, X5, e5, st5⟩ := getF X2 hx hZ2 hown2 (host := "") (Or.inl (ow114 hw)) Via.refl e2 Fv2 (g := (mkF m 11 #[.val (.ref a), .val (.ref b), .val (.int (0 : Int32)), .val (.int (0 : Int32)), .val .null, .unset] [(.ref b2), (.ref a)])) rfl rfl (hb hby d_jdk_42_method_149_code_11)
  have f6 := (Ea.ext E2)
  have f7 := (Fv.ext E2)
  obtain ⟨T8, h8, X8, e8, W8, st8⟩ := putF X5 hx hZ2 hown2 (host := "") (Or.inl (ow114 hw)) Via.refl e5 f7 f6 (Or.inr ⟨(ow19 hw), rfl, hnm⟩) (ow17 hw) (ty := (.array .byte)) (by decide) rfl rfl (g := (mkF m 14 #[.val (.ref a), .val (.ref b), .val (.int (0 : Int32)), .val (.int (0 : Int32)), .val .null, .unset] [(.ref d2), (.ref a)])) rfl rfl (hb hby d_jdk_42_method_149_code_14)
  have Fw8 := f7.same W8
  have CH9 := CH3.trans (CHr.wr W8 f4 CH3.1)
  have hk9 := Nat.le_trans hk2 (Keep.of_wr W8).1
  have N10 := Fr.snoc X8 N0 ga
  have Ol10 := Ol3.wr W8 ga
  have K10 := K3.wr W8 (Or.inl (List.mem_of_getElem? (i := 0) rfl))
  have f11 := (f6.wr W8)
  have f12 := (Ex2.wr W8)
  have f13 := (Av2.other W8 (Ne.symm sq2_0.2))
  obtain ⟨b14, T14, h14, kk14, d14, k14, X14, e14, E14, hS14, hk14, hZ14, hown14, Ex14, Fc14, Fv14, Av14, -, -, CR14, -, sn14, st14⟩ := ldcCH X8 hx hZ2 hown2 (ow115 hw) (own_wS hw) e8 hS2 hk9 (own_EW hw) (by decide) CH9.1 (vs := []) (z := (0 : Int32)) ⟨by decide, rfl⟩ (by decide) (by decide) (g := (mkF m 18 #[.val (.ref a), .val (.ref b), .val (.int (0 : Int32)), .val (.int (0 : Int32)), .val .null, .unset] [(.ref a)])) rfl (hb hby d_jdk_42_method_149_code_18) (n := 0) (by decide) (by decide) (by decide) (by decide)
  have Ol15 := Ol10.ext E14
  have K15 := K10.ext E14
  have CH15 := CH9.trans CR14
  have f16 := (CHr.safe CR14 f11.lt (Safe.wr W8 f4 CH3.1 f4))
  have sq14_0 := sn14 a f16
  obtain ⟨T17, X17, e17, st17⟩ := getF X14 hx hZ14 hown14 (host := "") (Or.inl (ow113 hw)) Via.refl e14 Fc14 (g := (mkF m 20 #[.val (.ref a), .val (.ref b), .val (.int (0 : Int32)), .val (.int (0 : Int32)), .val .null, .unset] [(.ref b14), (.ref a)])) rfl rfl (hb hby d_jdk_42_method_149_code_20)
  have f18 := (f11.ext E14)
  have f19 := (((Fc.ext E2).other W8 (Or.inr (slot_ne (Or.inr (ow20 hw)) (Or.inr (ow19 hw)) (by decide) (t := .byte) (t' := (.array .byte)) (by decide) (by decide)))).ext E14)
  obtain ⟨T20, h20, X20, e20, W20, st20⟩ := putFN X17 hx hZ14 hown14 (ow113 hw) Via.refl e17 f19 f18 (Or.inr ⟨(ow20 hw), rfl, hnm⟩) (ow17 hw) (ty := .byte) (v' := (.int (nar .byte 0))) (by decide) rfl (fits_nar_byte _) (g := (mkF m 23 #[.val (.ref a), .val (.ref b), .val (.int (0 : Int32)), .val (.int (0 : Int32)), .val .null, .unset] [(.int 0), (.ref a)])) rfl rfl (hb hby d_jdk_42_method_149_code_23)
  have Fw20 := f19.same W20
  have CH21 := CH15.trans (CHr.wr W20 f16 CH15.1)
  have hk21 := Nat.le_trans hk14 (Keep.of_wr W20).1
  have N22 := Fr.snoc X20 N10 ga
  have Ol22 := Ol15.wr W20 ga
  have K22 := K15.wr W20 (Or.inl (List.mem_of_getElem? (i := 0) rfl))
  have f23 := (f18.wr W20)
  have f24 := ((Fw8.ext E14).other W20 (Or.inr (slot_ne (Or.inr (ow19 hw)) (Or.inr (ow20 hw)) (by decide) (t := (.array .byte)) (t' := .byte) (by decide) (by decide))))
  have f25 := ((f13.ext E14).other W20 (Ne.symm sq2_0.2))
  obtain ⟨fs, hretL, hrun, hended, hEnd⟩ := Stand.leaveW X20 hS14 (by rw [e20]; exact hk21) (v := none) (fun _ => rfl)
  have hCf : CHr Z EL0 s.vm s.heap T20.vm T20.heap := by rw [hh, e20]; exact CH21.trans (CHv.at X20 hZ14 (own_EW hw) CH21.1)
  refine ⟨_, _, pre0 _ ?_, hrun, hended, _, _, rfl, ?_, hCf, hEnd.1, hEnd.2.1, hEnd.2.2.1, hEnd.2.2.2.mono (by decide) (by decide)⟩
  · refine XS.aloadN X0.here hx rfl (hb hby d_jdk_42_method_149_code_0) rfl rfl ?_
    show Steps p.tables e below (s₁.setTop (mkF m 1 #[.val (.ref a), .val (.ref b), .val (.int (0 : Int32)), .val (.int (0 : Int32)), .val .null, .unset] [(.ref a)])) _
    refine st1 _ ?_
    show Steps p.tables e below (T1.setTop (mkF m 4 #[.val (.ref a), .val (.ref b), .val (.int (0 : Int32)), .val (.int (0 : Int32)), .val .null, .unset] [])) _
    refine XS.iloadN X1.here hx rfl (hb hby d_jdk_42_method_149_code_4) rfl ?_
    show Steps p.tables e below (T1.setTop (mkF m 5 #[.val (.ref a), .val (.ref b), .val (.int (0 : Int32)), .val (.int (0 : Int32)), .val .null, .unset] [(.int (0 : Int32))])) _
    refine XS.ifNo X1.here hx rfl (hb hby d_jdk_42_method_149_code_5) rfl ((if0 _ _).trans (teq (by decide : (0 : Int32) = (0 : Int32))).2) ?_
    show Steps p.tables e below (T1.setTop (mkF m 8 #[.val (.ref a), .val (.ref b), .val (.int (0 : Int32)), .val (.int (0 : Int32)), .val .null, .unset] [])) _
    refine XS.aloadN X1.here hx rfl (hb hby d_jdk_42_method_149_code_8) rfl rfl ?_
    show Steps p.tables e below (T1.setTop (mkF m 9 #[.val (.ref a), .val (.ref b), .val (.int (0 : Int32)), .val (.int (0 : Int32)), .val .null, .unset] [(.ref a)])) _
    refine st2 _ ?_
    show Steps p.tables e below (T2.setTop (mkF m 11 #[.val (.ref a), .val (.ref b), .val (.int (0 : Int32)), .val (.int (0 : Int32)), .val .null, .unset] [(.ref b2), (.ref a)])) _
    refine st5 _ ?_
    show Steps p.tables e below (T5.setTop (mkF m 14 #[.val (.ref a), .val (.ref b), .val (.int (0 : Int32)), .val (.int (0 : Int32)), .val .null, .unset] [(.ref d2), (.ref a)])) _
    refine st8 _ ?_
    show Steps p.tables e below (T8.setTop (mkF m 17 #[.val (.ref a), .val (.ref b), .val (.int (0 : Int32)), .val (.int (0 : Int32)), .val .null, .unset] [])) _
    refine XS.aloadN X8.here hx rfl (hb hby d_jdk_42_method_149_code_17) rfl rfl ?_
    show Steps p.tables e below (T8.setTop (mkF m 18 #[.val (.ref a), .val (.ref b), .val (.int (0 : Int32)), .val (.int (0 : Int32)), .val .null, .unset] [(.ref a)])) _
    refine st14 _ ?_
    show Steps p.tables e below (T14.setTop (mkF m 20 #[.val (.ref a), .val (.ref b), .val (.int (0 : Int32)), .val (.int (0 : Int32)), .val .null, .unset] [(.ref b14), (.ref a)])) _
    refine st17 _ ?_
    show Steps p.tables e below (T17.setTop (mkF m 23 #[.val (.ref a), .val (.ref b), .val (.int (0 : Int32)), .val (.int (0 : Int32)), .val .null, .unset] [(.int 0), (.ref a)])) _
    refine st20 _ ?_
    show Steps p.tables e below (T20.setTop (mkF m 26 #[.val (.ref a), .val (.ref b), .val (.int (0 : Int32)), .val (.int (0 : Int32)), .val .null, .unset] [])) _
    exact X20.returnOut hx Bd.returns (hb hby d_jdk_42_method_149_code_26) hretL
  · show Q_rme4 Z a b h0 n0 _ T20.heap _
    rw [e20]
    exact ⟨rfl, N22, K22, f23, Fw20, (fun _ q => nomatch q), Nat.zero_le _, d2, k2, f24, f25⟩
theorem d_jdk_42_method_3_code_0 : decode jdk_42_method_3_code 0 = .ok (.aload_n 0, 1) := by decide +kernel
theorem d_jdk_42_method_3_code_1 : decode jdk_42_method_3_code 1 = .ok (.aload_n 1, 1) := by decide +kernel
theorem d_jdk_42_method_3_code_2 : decode jdk_42_method_3_code 2 = .ok (.iconst 0, 1) := by decide +kernel
theorem d_jdk_42_method_3_code_3 : decode jdk_42_method_3_code 3 = .ok (.aload_n 1, 1) := by decide +kernel
theorem d_jdk_42_method_3_code_4 : decode jdk_42_method_3_code 4 = .ok (.arraylength, 1) := by decide +kernel
theorem d_jdk_42_method_3_code_5 : decode jdk_42_method_3_code 5 = .ok (.aconst_null, 1) := by decide +kernel
theorem d_jdk_42_method_3_code_6 : decode jdk_42_method_3_code 6 = .ok (.invokespecial 27, 3) := by decide +kernel
theorem d_jdk_42_method_3_code_9 : decode jdk_42_method_3_code 9 = .ok (.return_, 1) := by decide +kernel
def Q_rme1 (Z : State) (a : Addr) (b : Addr) (kb : ClassId) (h0 : Heap) (n0 : Nat) (v : Option Value) (h : Heap) (L : List Loc) : Prop := v = none ∧ Fr n0 L ∧ Keep h0 h [a] ∧ StrP Z h a []
theorem ef_rme1 (m : MethodId) (a : Addr) (b : Addr) : entryFrame m #[(.ref a), (.ref b)] 2 = mkF m 0 #[.val (.ref a), .val (.ref b)] [] := by first | (simp [entryFrame, mkF, argsToLocals, Value.category]; done) | rfl
set_option maxRecDepth 65536 in
set_option maxHeartbeats 40000000 in
theorem rme1 (l : Launch) (Z : State) (a0 : Array Value) (hw : ∀ d ∈ tables_1, d.before a0 Z = true) (ws : List Jvm.Cond) (a : Addr) (b : Addr) (kb : ClassId) (h0 : Heap) (n0 : Nat) (O0 : Old Z n0 h0) (Ea : Exa Z h0 a "java/lang/String") (Fv : Fld Z h0 a "java/lang/String" "value" "[B" .null) (Fc : Fld Z h0 a "java/lang/String" "coder" "B" (.int (0 : Int32))) (ga : n0 ≤ a) (Ab : Arv Z h0 b kb .char (0 : Int32) [] (.int (0 : Int32))) :
    MetFree l (⟨"java/lang/String", "<init>", "([C)V"⟩ : MethodName) (head1 (Jvm.Cond.code (⟨"java/lang/String", "<init>", "([C)V"⟩ : MethodName) jdk_42_method_3_code 2 none :: ws) ({ frames := 2, cells := 4, slots := 8, locals := 29 } : Room)) (fun aa U => aa = #[(.ref a), (.ref b)] ∧ Z.Warmed39 U.vm ∧ U.heap = h0 ∧ CHv Z EL0 U.vm h0) (fun _ _ _ _ _ => True) (fun _ U o U' => ∃ v L, o = .returned v ∧ Q_rme1 Z a b kb h0 n0 v U'.heap L ∧ CHr Z EL0 U.vm U.heap U'.vm U'.heap ∧ ReturnedEndW U o U' L ({ frames := 2, cells := 4, slots := 8, locals := 29 } : Room).cells ({ frames := 2, cells := 4, slots := 8, locals := 29 } : Room).slots) := by
  refine MetFree.of_bodySF (plainFor_of_name pn0) hisR ?_
  intro p e s m args below meth c s₁ Bd hml0 hP hK
  obtain ⟨rfl, hZ, hh, hCH⟩ := hP
  have hx := Bd.exec
  have hby := Bd.bytes
  have hml : c.maxLocals = 2 := hml0
  have hown : s.vm.findClass "java/lang/String" = some m.cls := findClass_of_methodNamed Bd.named
  have hnm := (name_of_methodNamed Bd.named Bd.method).1
  have X0 : Stand p l e ({ frames := 2, cells := 4, slots := 8, locals := 29 } : Room) (s.setVm s.vm) m #[(.ref a), (.ref b)] below meth c s₁ [] 0 0 := Stand.of_body Bd
  have e0 : s₁.heap = h0 := by rw [← hh, Bd.state]; rfl
  have N0 := Fr.nil n0
  have K0 : Keep h0 h0 [a] := Keep.refl _ _
  have pre0 : ∀ tgt, Steps p.tables e below (s₁.setTop (mkF m 0 #[.val (.ref a), .val (.ref b)] [])) tgt → Steps p.tables e below (s₁.setTop (entryFrame m #[(.ref a), (.ref b)] 2)) tgt := fun tgt kgo => castTop (ef_rme1 m a b) kgo
  have hS0 : s.Since s.vm 0 := (State.WarmedH.refl s).since 0
  have hk0 : 0 ≤ h0.size := Nat.zero_le _
  have CH0 : CHr Z EL0 s.vm h0 s.vm h0 := CHr.refl hCH
  obtain ⟨cl1, Ar1, q1, S1, M1, H1, G1⟩ := id Ab
  obtain ⟨_, _, ⟨T2, L2, k2, n2⟩, -, Xr2, hSr2, hgr2, ⟨Lc2, hQ2, l2, y2, z2, CR2⟩, st2⟩ := X0.specialBackS hx (y := (⟨"java/lang/String", "<init>", "([CIILjava/lang/Void;)V"⟩ : MethodName)) rfl hown (mvT hZ (ow97 hw)) (mvT hZ (ow98 hw)) (mvT hZ (ow100 hw)) (by decide) (backOfSH (W := 0) (rme4 l Z a0 hw [] a b  h0 n0 O0 Ea Fv Fc ga) hZ (ow100 hw) (ow16 hw) (by decide) (by decide) (own_EW hw) CH0.1) (g := (mkF m 6 #[.val (.ref a), .val (.ref b)] [.null, (.int (0 : Int32)), (.int (0 : Int32)), (.ref b), (.ref a)])) rfl (by rw [hml]; rfl) (Steps.refl _) (a := a) (argsL := [(.ref b), (.int (0 : Int32)), (.int (0 : Int32)), .null]) (rest := []) (lenOf pd0 rfl) rfl (by show 2 * 0 + _ ≤ _; exact Nat.le_of_eq rfl) (hb hby d_jdk_42_method_3_code_6) (fun _ _ => ⟨rfl, e0, (by decide : 0 + 4 ≤ _), (by decide : 0 + 8 ≤ _)⟩)
  dsimp only [Pt.U, Pt.locs, Pt.cells, Pt.slots] at Xr2 hSr2 hgr2 l2 y2 z2 CR2 st2 hQ2
  subst l2 y2 z2
  obtain ⟨X2, hS2, hZ2, hown2⟩ := rebS hS0 (by rw [e0]; exact hk0) Xr2 hSr2 hgr2 hZ hown
  have hk2 : T2.heap.size ≤ T2.heap.size := Nat.le_refl _
  obtain ⟨rfl, Nq2, kp2, Sp2⟩ := hQ2
  have N3 := Fr.app N0 Nq2
  have CH4 := CH0.trans CR2
  have Ol5 := O0.keep kp2 (allS ga all0)
  have K5 := K0.trans kp2 (allS (Or.inl (List.mem_of_getElem? (i := 0) rfl)) all0)
  obtain ⟨fs, hretL, hrun, hended, hEnd⟩ := Stand.leaveW X2 hS2 hk2 (v := none) (fun _ => rfl)
  have hCf : CHr Z EL0 s.vm s.heap T2.vm T2.heap := by rw [hh]; exact CH4.trans (CHv.at X2 hZ2 (own_EW hw) CH4.1)
  refine ⟨_, _, pre0 _ ?_, hrun, hended, _, _, rfl, ?_, hCf, hEnd.1, hEnd.2.1, hEnd.2.2.1, hEnd.2.2.2.mono (by decide) (by decide)⟩
  · refine XS.aloadN X0.here hx rfl (hb hby d_jdk_42_method_3_code_0) rfl rfl ?_
    show Steps p.tables e below (s₁.setTop (mkF m 1 #[.val (.ref a), .val (.ref b)] [(.ref a)])) _
    refine XS.aloadN X0.here hx rfl (hb hby d_jdk_42_method_3_code_1) rfl rfl ?_
    show Steps p.tables e below (s₁.setTop (mkF m 2 #[.val (.ref a), .val (.ref b)] [(.ref b), (.ref a)])) _
    refine XS.iconst X0.here hx rfl (hb hby d_jdk_42_method_3_code_2) ?_
    show Steps p.tables e below (s₁.setTop (mkF m 3 #[.val (.ref a), .val (.ref b)] [(.int (0 : Int32)), (.ref b), (.ref a)])) _
    refine XS.aloadN X0.here hx rfl (hb hby d_jdk_42_method_3_code_3) rfl rfl ?_
    show Steps p.tables e below (s₁.setTop (mkF m 4 #[.val (.ref a), .val (.ref b)] [(.ref b), (.int (0 : Int32)), (.ref b), (.ref a)])) _
    refine X0.arraylength hx (by rw [e0]; exact Ar1.1) (State.isArrayOf_alike hZ.alike Ar1.2.1) (g := (mkF m 4 #[.val (.ref a), .val (.ref b)] [(.ref b), (.int (0 : Int32)), (.ref b), (.ref a)])) rfl rfl (hb hby d_jdk_42_method_3_code_4) _ ?_
    rw [len_of S1 M1]
    show Steps p.tables e below (s₁.setTop (mkF m 5 #[.val (.ref a), .val (.ref b)] [(.int (0 : Int32)), (.int (0 : Int32)), (.ref b), (.ref a)])) _
    refine XS.aconstNull X0.here hx rfl (hb hby d_jdk_42_method_3_code_5) ?_
    show Steps p.tables e below (s₁.setTop (mkF m 6 #[.val (.ref a), .val (.ref b)] [.null, (.int (0 : Int32)), (.int (0 : Int32)), (.ref b), (.ref a)])) _
    refine st2.trans ?_
    show Steps p.tables e below (T2.setTop (mkF m 9 #[.val (.ref a), .val (.ref b)] [])) _
    exact X2.returnOut hx Bd.returns (hb hby d_jdk_42_method_3_code_9) hretL
  · show Q_rme1 Z a b kb h0 n0 _ T2.heap _
    exact ⟨rfl, N3, K5, Sp2⟩
theorem d_jdk_43_method_3_code_0 : decode jdk_43_method_3_code 0 = .ok (.iload_n 0, 1) := by decide +kernel
theorem d_jdk_43_method_3_code_1 : decode jdk_43_method_3_code 1 = .ok (.sipush 255, 3) := by decide +kernel
theorem d_jdk_43_method_3_code_4 : decode jdk_43_method_3_code 4 = .ok (.if_icmp .gt 7, 3) := by decide +kernel
theorem d_jdk_43_method_3_code_7 : decode jdk_43_method_3_code 7 = .ok (.iconst 1, 1) := by decide +kernel
theorem d_jdk_43_method_3_code_8 : decode jdk_43_method_3_code 8 = .ok (.goto 4, 3) := by decide +kernel
theorem d_jdk_43_method_3_code_12 : decode jdk_43_method_3_code 12 = .ok (.ireturn, 1) := by decide +kernel
def Q_rmce (Z : State) (x0 : Int32) (h0 : Heap) (n0 : Nat) (v : Option Value) (h : Heap) (L : List Loc) : Prop := v = some (.int (1 : Int32)) ∧ Fr n0 L ∧ h = h0
theorem ef_rmce (m : MethodId) (x0 : Int32) : entryFrame m #[(.int x0)] 1 = mkF m 0 #[.val (.int x0)] [] := by first | (simp [entryFrame, mkF, argsToLocals, Value.category]; done) | rfl
set_option maxRecDepth 65536 in
set_option maxHeartbeats 40000000 in
theorem rmce (l : Launch) (Z : State) (a0 : Array Value) (hw : ∀ d ∈ tables_1, d.before a0 Z = true) (ws : List Jvm.Cond) (x0 : Int32) (h0 : Heap) (n0 : Nat) (O0 : Old Z n0 h0) (hle : ¬ (255 : Int32) < x0) :
    MetFree l (⟨"java/lang/StringLatin1", "canEncode", "(C)Z"⟩ : MethodName) (head1 (Jvm.Cond.code (⟨"java/lang/StringLatin1", "canEncode", "(C)Z"⟩ : MethodName) jdk_43_method_3_code 1 (some .boolean) :: ws) ({ frames := 0, cells := 0, slots := 0, locals := 0 } : Room)) (fun aa U => aa = #[(.int x0)] ∧ Z.Warmed39 U.vm ∧ U.heap = h0) (fun _ _ _ _ _ => True) (fun _ U o U' => ∃ v L, o = .returned v ∧ Q_rmce Z x0 h0 n0 v U'.heap L ∧ FrameEnd U o U' L ({ frames := 0, cells := 0, slots := 0, locals := 0 } : Room).cells ({ frames := 0, cells := 0, slots := 0, locals := 0 } : Room).slots) := by
  refine MetFree.of_bodySF (plainFor_of_name pn1) hisR ?_
  intro p e s m args below meth c s₁ Bd hml0 hP hK
  obtain ⟨rfl, hZ, hh⟩ := hP
  have hx := Bd.exec
  have hby := Bd.bytes
  have hml : c.maxLocals = 1 := hml0
  have hown : s.vm.findClass "java/lang/StringLatin1" = some m.cls := findClass_of_methodNamed Bd.named
  have hnm := (name_of_methodNamed Bd.named Bd.method).1
  have X0 : Stand p l e ({ frames := 0, cells := 0, slots := 0, locals := 0 } : Room) s m #[(.int x0)] below meth c s₁ [] 0 0 := Stand.of_body Bd
  have e0 : s₁.heap = h0 := by rw [← hh, Bd.state]; rfl
  have N0 := Fr.nil n0
  have K0 : Keep h0 h0 [] := Keep.refl _ _
  have pre0 : ∀ tgt, Steps p.tables e below (s₁.setTop (mkF m 0 #[.val (.int x0)] [])) tgt → Steps p.tables e below (s₁.setTop (entryFrame m #[(.int x0)] 1)) tgt := fun tgt kgo => castTop (ef_rmce m x0) kgo
  obtain ⟨fs, hretL, hrun, hended, hW, hsame⟩ := X0.leave (v := some (.int (1 : Int32))) (fun h => by rw [Bd.returns] at h; cases h)
  refine ⟨_, _, pre0 _ ?_, hrun, hended, _, _, rfl, ?_, ⟨_, rfl⟩, hW, hsame.mono (by decide) (by decide)⟩
  · refine XS.iloadN X0.here hx rfl (hb hby d_jdk_43_method_3_code_0) rfl ?_
    show Steps p.tables e below (s₁.setTop (mkF m 1 #[.val (.int x0)] [(.int x0)])) _
    refine XS.sipush X0.here hx rfl (hb hby d_jdk_43_method_3_code_1) ?_
    show Steps p.tables e below (s₁.setTop (mkF m 4 #[.val (.int x0)] [(.int (255 : Int32)), (.int x0)])) _
    refine XS.icmpNo X0.here hx rfl (hb hby d_jdk_43_method_3_code_4) rfl (flt hle).2.2.1 ?_
    show Steps p.tables e below (s₁.setTop (mkF m 7 #[.val (.int x0)] [])) _
    refine XS.iconst X0.here hx rfl (hb hby d_jdk_43_method_3_code_7) ?_
    show Steps p.tables e below (s₁.setTop (mkF m 8 #[.val (.int x0)] [(.int (1 : Int32))])) _
    refine XS.goto X0.here hx rfl (pc0 := 8) (pc' := 12) rfl (hb hby d_jdk_43_method_3_code_8) (by decide) (by decide) ?_
    show Steps p.tables e below (s₁.setTop (mkF m 12 #[.val (.int x0)] [(.int (1 : Int32))])) _
    exact retOut X0 hx Bd.returns rfl (Or.inl ⟨rfl, Or.inr (Or.inl rfl), _, rfl⟩) (hb hby d_jdk_43_method_3_code_12) hretL
  · show Q_rmce Z x0 h0 n0 _ s₁.heap _
    rw [e0]
    exact ⟨rfl, N0, rfl⟩
theorem d_jdk_43_method_46_code_0 : decode jdk_43_method_46_code 0 = .ok (.iconst 1, 1) := by decide +kernel
theorem d_jdk_43_method_46_code_1 : decode jdk_43_method_46_code 1 = .ok (.newarray .byte, 2) := by decide +kernel
theorem d_jdk_43_method_46_code_3 : decode jdk_43_method_46_code 3 = .ok (.dup, 1) := by decide +kernel
theorem d_jdk_43_method_46_code_4 : decode jdk_43_method_46_code 4 = .ok (.iconst 0, 1) := by decide +kernel
theorem d_jdk_43_method_46_code_5 : decode jdk_43_method_46_code 5 = .ok (.iload_n 0, 1) := by decide +kernel
theorem d_jdk_43_method_46_code_6 : decode jdk_43_method_46_code 6 = .ok (.i2b, 1) := by decide +kernel
theorem d_jdk_43_method_46_code_7 : decode jdk_43_method_46_code 7 = .ok (.bastore, 1) := by decide +kernel
theorem d_jdk_43_method_46_code_8 : decode jdk_43_method_46_code 8 = .ok (.areturn, 1) := by decide +kernel
def Q_rmtb (Z : State) (x0 : Int32) (h0 : Heap) (n0 : Nat) (v : Option Value) (h : Heap) (L : List Loc) : Prop := ∃ b : Addr, v = some (.ref b) ∧ Fr n0 L ∧ Keep h0 h []
theorem ef_rmtb (m : MethodId) (x0 : Int32) : entryFrame m #[(.int x0)] 1 = mkF m 0 #[.val (.int x0)] [] := by first | (simp [entryFrame, mkF, argsToLocals, Value.category]; done) | rfl
set_option maxRecDepth 65536 in
set_option maxHeartbeats 40000000 in
theorem rmtb (l : Launch) (Z : State) (a0 : Array Value) (hw : ∀ d ∈ tables_1, d.before a0 Z = true) (ws : List Jvm.Cond) (x0 : Int32) (h0 : Heap) (n0 : Nat) (O0 : Old Z n0 h0) :
    MetFree l (⟨"java/lang/StringLatin1", "toBytes", "(C)[B"⟩ : MethodName) (head1 (Jvm.Cond.code (⟨"java/lang/StringLatin1", "toBytes", "(C)[B"⟩ : MethodName) jdk_43_method_46_code 1 (some (.array .byte)) :: ws) ({ frames := 0, cells := 1, slots := 1, locals := 0 } : Room)) (fun aa U => aa = #[(.int x0)] ∧ Z.Warmed39 U.vm ∧ U.heap = h0) (fun _ _ _ _ _ => True) (fun _ U o U' => ∃ v L, o = .returned v ∧ Q_rmtb Z x0 h0 n0 v U'.heap L ∧ FrameEnd U o U' L ({ frames := 0, cells := 1, slots := 1, locals := 0 } : Room).cells ({ frames := 0, cells := 1, slots := 1, locals := 0 } : Room).slots) := by
  refine MetFree.of_bodySF (plainFor_of_name pn1) hisR ?_
  intro p e s m args below meth c s₁ Bd hml0 hP hK
  obtain ⟨rfl, hZ, hh⟩ := hP
  have hx := Bd.exec
  have hby := Bd.bytes
  have hml : c.maxLocals = 1 := hml0
  have hown : s.vm.findClass "java/lang/StringLatin1" = some m.cls := findClass_of_methodNamed Bd.named
  have hnm := (name_of_methodNamed Bd.named Bd.method).1
  have X0 : Stand p l e ({ frames := 0, cells := 1, slots := 1, locals := 0 } : Room) s m #[(.int x0)] below meth c s₁ [] 0 0 := Stand.of_body Bd
  have e0 : s₁.heap = h0 := by rw [← hh, Bd.state]; rfl
  have N0 := Fr.nil n0
  have K0 : Keep h0 h0 [] := Keep.refl _ _
  have pre0 : ∀ tgt, Steps p.tables e below (s₁.setTop (mkF m 0 #[.val (.int x0)] [])) tgt → Steps p.tables e below (s₁.setTop (entryFrame m #[(.int x0)] 1)) tgt := fun tgt kgo => castTop (ef_rmtb m x0) kgo
  obtain ⟨T1, h1, k1, X1, e1, E1, A1, st1⟩ := newP (aty := .byte) X0 hx hZ (ow18 hw) e0 (g := (mkF m 1 #[.val (.int x0)] [(.int (1 : Int32))])) rfl (hb hby d_jdk_43_method_46_code_1) rfl (by decide) (cap := 1) (by decide) (by decide) (by decide) (by decide)
  obtain ⟨b1, g1⟩ : ∃ z, z = h0.size := ⟨_, rfl⟩
  rw [← g1] at A1 st1
  have V1 : Arv Z h1 b1 k1 .byte (1 : Int32) [(.int (0 : Int32))] (.int (0 : Int32)) := (Arv.new A1 (by decide)).pad (pad_rep [] (.int (0 : Int32)) 1)
  have gn1 : n0 ≤ b1 := Nat.le_trans (own_sz O0) (Nat.le_of_eq g1.symm)
  have sz1 : h0.size ≤ b1 := Nat.le_trans K0.1 (Nat.le_of_eq g1.symm)
  have Ol2 := O0.ext E1
  have K2 := K0.ext E1
  obtain ⟨cl3, Ar3, q3, S3, M3, H3, G3⟩ := id V1
  have hin3 : ¬ ((0 : Int32) < 0 ∨ cl3.slots.size ≤ ((0 : Int32)).toNatClampNeg) := inb_of S3 ⟨by decide, by decide⟩
  obtain ⟨T4, h4, X4, e4, W4, st4⟩ := stB X1 hx hZ e1 Ar3 (j := (0 : Int32)) hin3 (g := (mkF m 7 #[.val (.int x0)] [(.int x0.toInt8.toInt32), (.int (0 : Int32)), (.ref b1), (.ref b1)])) rfl rfl (hb hby d_jdk_43_method_46_code_7)
  have V4 : Arv Z h4 b1 k1 .byte (1 : Int32) [(.int (nar .byte x0.toInt8.toInt32))] (.int (0 : Int32)) := Arv.set Ar3 q3 S3 M3 H3 G3 (fits_nar_byte _) W4 0 rfl (Nat.le_of_ble_eq_true rfl)
  have N5 := Fr.snoc X4 N0 gn1
  have Ol5 := Ol2.wr W4 gn1
  have K5 := K2.wr W4 (Or.inr sz1)
  obtain ⟨fs, hretL, hrun, hended, hW, hsame⟩ := X4.leave (v := some (.ref b1)) (fun h => by rw [Bd.returns] at h; cases h)
  refine ⟨_, _, pre0 _ ?_, hrun, hended, _, _, rfl, ?_, ⟨_, rfl⟩, hW, hsame.mono (by decide) (by decide)⟩
  · refine XS.iconst X0.here hx rfl (hb hby d_jdk_43_method_46_code_0) ?_
    show Steps p.tables e below (s₁.setTop (mkF m 1 #[.val (.int x0)] [(.int (1 : Int32))])) _
    refine st1 _ ?_
    show Steps p.tables e below (T1.setTop (mkF m 3 #[.val (.int x0)] [(.ref b1)])) _
    refine XS.dup X1.here hx rfl (hb hby d_jdk_43_method_46_code_3) rfl rfl ?_
    show Steps p.tables e below (T1.setTop (mkF m 4 #[.val (.int x0)] [(.ref b1), (.ref b1)])) _
    refine XS.iconst X1.here hx rfl (hb hby d_jdk_43_method_46_code_4) ?_
    show Steps p.tables e below (T1.setTop (mkF m 5 #[.val (.int x0)] [(.int (0 : Int32)), (.ref b1), (.ref b1)])) _
    refine XS.iloadN X1.here hx rfl (hb hby d_jdk_43_method_46_code_5) rfl ?_
    show Steps p.tables e below (T1.setTop (mkF m 6 #[.val (.int x0)] [(.int x0), (.int (0 : Int32)), (.ref b1), (.ref b1)])) _
    refine XS.i2b X1.here hx rfl (hb hby d_jdk_43_method_46_code_6) rfl ?_
    show Steps p.tables e below (T1.setTop (mkF m 7 #[.val (.int x0)] [(.int x0.toInt8.toInt32), (.int (0 : Int32)), (.ref b1), (.ref b1)])) _
    refine st4 _ ?_
    show Steps p.tables e below (T4.setTop (mkF m 8 #[.val (.int x0)] [(.ref b1)])) _
    exact retOut X4 hx Bd.returns rfl (Or.inr (Or.inr (Or.inr (Or.inr ⟨rfl, rfl, rfl⟩)))) (hb hby d_jdk_43_method_46_code_8) hretL
  · show Q_rmtb Z x0 h0 n0 _ T4.heap _
    rw [e4]
    exact ⟨_, rfl, N5, K5⟩
theorem d_jdk_42_method_151_code_0 : decode jdk_42_method_151_code 0 = .ok (.aload_n 0, 1) := by decide +kernel
theorem d_jdk_42_method_151_code_1 : decode jdk_42_method_151_code 1 = .ok (.invokespecial 1, 3) := by decide +kernel
theorem d_jdk_42_method_151_code_4 : decode jdk_42_method_151_code 4 = .ok (.aload_n 0, 1) := by decide +kernel
theorem d_jdk_42_method_151_code_5 : decode jdk_42_method_151_code 5 = .ok (.aload_n 1, 1) := by decide +kernel
theorem d_jdk_42_method_151_code_6 : decode jdk_42_method_151_code 6 = .ok (.putfield 9, 3) := by decide +kernel
theorem d_jdk_42_method_151_code_9 : decode jdk_42_method_151_code 9 = .ok (.aload_n 0, 1) := by decide +kernel
theorem d_jdk_42_method_151_code_10 : decode jdk_42_method_151_code 10 = .ok (.iload_n 2, 1) := by decide +kernel
theorem d_jdk_42_method_151_code_11 : decode jdk_42_method_151_code 11 = .ok (.putfield 15, 3) := by decide +kernel
theorem d_jdk_42_method_151_code_14 : decode jdk_42_method_151_code 14 = .ok (.return_, 1) := by decide +kernel
def Q_rmbb (Z : State) (a : Addr) (tb : Addr) (h0 : Heap) (n0 : Nat) (v : Option Value) (h : Heap) (L : List Loc) : Prop := v = none ∧ Fr n0 L ∧ Keep h0 h [a]
theorem ef_rmbb (m : MethodId) (a : Addr) (tb : Addr) : entryFrame m #[(.ref a), (.ref tb), (.int (0 : Int32))] 3 = mkF m 0 #[.val (.ref a), .val (.ref tb), .val (.int (0 : Int32))] [] := by first | (simp [entryFrame, mkF, argsToLocals, Value.category]; done) | rfl
set_option maxRecDepth 65536 in
set_option maxHeartbeats 40000000 in
theorem rmbb (l : Launch) (Z : State) (a0 : Array Value) (hw : ∀ d ∈ tables_1, d.before a0 Z = true) (ws : List Jvm.Cond) (a : Addr) (tb : Addr) (h0 : Heap) (n0 : Nat) (O0 : Old Z n0 h0) (Ea : Exa Z h0 a "java/lang/String") (Fv : Fld Z h0 a "java/lang/String" "value" "[B" .null) (Fc : Fld Z h0 a "java/lang/String" "coder" "B" (.int (0 : Int32))) (ga : n0 ≤ a) :
    MetFree l (⟨"java/lang/String", "<init>", "([BB)V"⟩ : MethodName) (head1 (Jvm.Cond.code (⟨"java/lang/String", "<init>", "([BB)V"⟩ : MethodName) jdk_42_method_151_code 3 none :: ws) ({ frames := 1, cells := 0, slots := 0, locals := 12 } : Room)) (fun aa U => aa = #[(.ref a), (.ref tb), (.int (0 : Int32))] ∧ Z.Warmed39 U.vm ∧ U.heap = h0) (fun _ _ _ _ _ => True) (fun _ U o U' => ∃ v L, o = .returned v ∧ Q_rmbb Z a tb h0 n0 v U'.heap L ∧ FrameEnd U o U' L ({ frames := 1, cells := 0, slots := 0, locals := 12 } : Room).cells ({ frames := 1, cells := 0, slots := 0, locals := 12 } : Room).slots) := by
  refine MetFree.of_bodySF (plainFor_of_name pn0) hisR ?_
  intro p e s m args below meth c s₁ Bd hml0 hP hK
  obtain ⟨rfl, hZ, hh⟩ := hP
  have hx := Bd.exec
  have hby := Bd.bytes
  have hml : c.maxLocals = 3 := hml0
  have hown : s.vm.findClass "java/lang/String" = some m.cls := findClass_of_methodNamed Bd.named
  have hnm := (name_of_methodNamed Bd.named Bd.method).1
  have X0 : Stand p l e ({ frames := 1, cells := 0, slots := 0, locals := 12 } : Room) s m #[(.ref a), (.ref tb), (.int (0 : Int32))] below meth c s₁ [] 0 0 := Stand.of_body Bd
  have e0 : s₁.heap = h0 := by rw [← hh, Bd.state]; rfl
  have N0 := Fr.nil n0
  have K0 : Keep h0 h0 [a] := Keep.refl _ _
  have pre0 : ∀ tgt, Steps p.tables e below (s₁.setTop (mkF m 0 #[.val (.ref a), .val (.ref tb), .val (.int (0 : Int32))] [])) tgt → Steps p.tables e below (s₁.setTop (entryFrame m #[(.ref a), (.ref tb), (.int (0 : Int32))] 3)) tgt := fun tgt kgo => castTop (ef_rmbb m a tb) kgo
  obtain ⟨T1, X1, e1, st1⟩ := initO X0 hx hZ hown (ow101 hw) (ow8 hw) (ow9 hw) e0 (g := (mkF m 1 #[.val (.ref a), .val (.ref tb), .val (.int (0 : Int32))] [(.ref a)])) rfl (by rw [hml]; rfl) rfl (hb hby d_jdk_42_method_151_code_1) (by decide) (W := 0) (by show 2 * 0 + _ ≤ _; exact Nat.le_of_eq rfl) (by decide)
  obtain ⟨T2, h2, X2, e2, W2, st2⟩ := putF X1 hx hZ hown (host := "") (Or.inl (ow114 hw)) Via.refl e1 Fv Ea (Or.inr ⟨(ow19 hw), rfl, hnm⟩) (ow17 hw) (ty := (.array .byte)) (by decide) rfl rfl (g := (mkF m 6 #[.val (.ref a), .val (.ref tb), .val (.int (0 : Int32))] [(.ref tb), (.ref a)])) rfl rfl (hb hby d_jdk_42_method_151_code_6)
  have Fw2 := Fv.same W2
  have N3 := Fr.snoc X2 N0 ga
  have Ol3 := O0.wr W2 ga
  have K3 := K0.wr W2 (Or.inl (List.mem_of_getElem? (i := 0) rfl))
  have f4 := (Ea.wr W2)
  have f5 := (Fc.other W2 (Or.inr (slot_ne (Or.inr (ow20 hw)) (Or.inr (ow19 hw)) (by decide) (t := .byte) (t' := (.array .byte)) (by decide) (by decide))))
  obtain ⟨T6, h6, X6, e6, W6, st6⟩ := putFN X2 hx hZ hown (ow113 hw) Via.refl e2 f5 f4 (Or.inr ⟨(ow20 hw), rfl, hnm⟩) (ow17 hw) (ty := .byte) (v' := (.int (nar .byte (0 : Int32)))) (by decide) rfl (fits_nar_byte _) (g := (mkF m 11 #[.val (.ref a), .val (.ref tb), .val (.int (0 : Int32))] [(.int (0 : Int32)), (.ref a)])) rfl rfl (hb hby d_jdk_42_method_151_code_11)
  have Fw6 := f5.same W6
  have N7 := Fr.snoc X6 N3 ga
  have Ol7 := Ol3.wr W6 ga
  have K7 := K3.wr W6 (Or.inl (List.mem_of_getElem? (i := 0) rfl))
  obtain ⟨fs, hretL, hrun, hended, hW, hsame⟩ := X6.leave (v := none) (fun _ => rfl)
  refine ⟨_, _, pre0 _ ?_, hrun, hended, _, _, rfl, ?_, ⟨_, rfl⟩, hW, hsame.mono (by decide) (by decide)⟩
  · refine XS.aloadN X0.here hx rfl (hb hby d_jdk_42_method_151_code_0) rfl rfl ?_
    show Steps p.tables e below (s₁.setTop (mkF m 1 #[.val (.ref a), .val (.ref tb), .val (.int (0 : Int32))] [(.ref a)])) _
    refine st1 _ ?_
    show Steps p.tables e below (T1.setTop (mkF m 4 #[.val (.ref a), .val (.ref tb), .val (.int (0 : Int32))] [])) _
    refine XS.aloadN X1.here hx rfl (hb hby d_jdk_42_method_151_code_4) rfl rfl ?_
    show Steps p.tables e below (T1.setTop (mkF m 5 #[.val (.ref a), .val (.ref tb), .val (.int (0 : Int32))] [(.ref a)])) _
    refine XS.aloadN X1.here hx rfl (hb hby d_jdk_42_method_151_code_5) rfl rfl ?_
    show Steps p.tables e below (T1.setTop (mkF m 6 #[.val (.ref a), .val (.ref tb), .val (.int (0 : Int32))] [(.ref tb), (.ref a)])) _
    refine st2 _ ?_
    show Steps p.tables e below (T2.setTop (mkF m 9 #[.val (.ref a), .val (.ref tb), .val (.int (0 : Int32))] [])) _
    refine XS.aloadN X2.here hx rfl (hb hby d_jdk_42_method_151_code_9) rfl rfl ?_
    show Steps p.tables e below (T2.setTop (mkF m 10 #[.val (.ref a), .val (.ref tb), .val (.int (0 : Int32))] [(.ref a)])) _
    refine XS.iloadN X2.here hx rfl (hb hby d_jdk_42_method_151_code_10) rfl ?_
    show Steps p.tables e below (T2.setTop (mkF m 11 #[.val (.ref a), .val (.ref tb), .val (.int (0 : Int32))] [(.int (0 : Int32)), (.ref a)])) _
    refine st6 _ ?_
    show Steps p.tables e below (T6.setTop (mkF m 14 #[.val (.ref a), .val (.ref tb), .val (.int (0 : Int32))] [])) _
    exact X6.returnOut hx Bd.returns (hb hby d_jdk_42_method_151_code_14) hretL
  · show Q_rmbb Z a tb h0 n0 _ T6.heap _
    rw [e6]
    exact ⟨rfl, N7, K7⟩
theorem d_jdk_42_method_139_code_0 : decode jdk_42_method_139_code 0 = .ok (.getstatic 38, 3) := by decide +kernel
theorem d_jdk_42_method_139_code_3 : decode jdk_42_method_139_code 3 = .ok (.ifCond .eq 23, 3) := by decide +kernel
theorem d_jdk_42_method_139_code_6 : decode jdk_42_method_139_code 6 = .ok (.iload_n 0, 1) := by decide +kernel
theorem d_jdk_42_method_139_code_7 : decode jdk_42_method_139_code 7 = .ok (.invokestatic 1015, 3) := by decide +kernel
theorem d_jdk_42_method_139_code_10 : decode jdk_42_method_139_code 10 = .ok (.ifCond .eq 16, 3) := by decide +kernel
theorem d_jdk_42_method_139_code_13 : decode jdk_42_method_139_code 13 = .ok (.new 10, 3) := by decide +kernel
theorem d_jdk_42_method_139_code_16 : decode jdk_42_method_139_code 16 = .ok (.dup, 1) := by decide +kernel
theorem d_jdk_42_method_139_code_17 : decode jdk_42_method_139_code 17 = .ok (.iload_n 0, 1) := by decide +kernel
theorem d_jdk_42_method_139_code_18 : decode jdk_42_method_139_code 18 = .ok (.invokestatic 1018, 3) := by decide +kernel
theorem d_jdk_42_method_139_code_21 : decode jdk_42_method_139_code 21 = .ok (.iconst 0, 1) := by decide +kernel
theorem d_jdk_42_method_139_code_22 : decode jdk_42_method_139_code 22 = .ok (.invokespecial 209, 3) := by decide +kernel
theorem d_jdk_42_method_139_code_25 : decode jdk_42_method_139_code 25 = .ok (.areturn, 1) := by decide +kernel
def Q_rmvo (Z : State) (x0 : Int32) (G1 : Int32) (h0 : Heap) (n0 : Nat) (v : Option Value) (h : Heap) (L : List Loc) : Prop := ∃ b : Addr, v = some (.ref b) ∧ Fr n0 L ∧ Keep h0 h []
theorem ef_rmvo (m : MethodId) (x0 : Int32) : entryFrame m #[(.int x0)] 1 = mkF m 0 #[.val (.int x0)] [] := by first | (simp [entryFrame, mkF, argsToLocals, Value.category]; done) | rfl
set_option maxRecDepth 65536 in
set_option maxHeartbeats 40000000 in
theorem rmvo (l : Launch) (Z : State) (a0 : Array Value) (hw : ∀ d ∈ tables_1, d.before a0 Z = true) (ws : List Jvm.Cond) (x0 : Int32) (G1 : Int32) (h0 : Heap) (n0 : Nat) (O0 : Old Z n0 h0) (O2 : Sta Z Z.heap "java/lang/String" "COMPACT_STRINGS" "Z" (.int G1)) (P5 : ¬ (G1 = (0 : Int32))) (hle : ¬ (255 : Int32) < x0) :
    MetFree l (⟨"java/lang/String", "valueOf", "(C)Ljava/lang/String;"⟩ : MethodName) (head1 (Jvm.Cond.code (⟨"java/lang/String", "valueOf", "(C)Ljava/lang/String;"⟩ : MethodName) jdk_42_method_139_code 1 (some (.object "java/lang/String")) :: ws) ({ frames := 2, cells := 2, slots := 5, locals := 27 } : Room)) (fun aa U => aa = #[(.int x0)] ∧ Z.Warmed39 U.vm ∧ U.heap = h0) (fun _ _ _ _ _ => True) (fun _ U o U' => ∃ v L, o = .returned v ∧ Q_rmvo Z x0 G1 h0 n0 v U'.heap L ∧ FrameEnd U o U' L ({ frames := 2, cells := 2, slots := 5, locals := 27 } : Room).cells ({ frames := 2, cells := 2, slots := 5, locals := 27 } : Room).slots) := by
  refine MetFree.of_bodySF (plainFor_of_name pn0) hisR ?_
  intro p e s m args below meth c s₁ Bd hml0 hP hK
  obtain ⟨rfl, hZ, hh⟩ := hP
  have hx := Bd.exec
  have hby := Bd.bytes
  have hml : c.maxLocals = 1 := hml0
  have hown : s.vm.findClass "java/lang/String" = some m.cls := findClass_of_methodNamed Bd.named
  have hnm := (name_of_methodNamed Bd.named Bd.method).1
  have X0 : Stand p l e ({ frames := 2, cells := 2, slots := 5, locals := 27 } : Room) s m #[(.int x0)] below meth c s₁ [] 0 0 := Stand.of_body Bd
  have e0 : s₁.heap = h0 := by rw [← hh, Bd.state]; rfl
  have N0 := Fr.nil n0
  have K0 : Keep h0 h0 [] := Keep.refl _ _
  have pre0 : ∀ tgt, Steps p.tables e below (s₁.setTop (mkF m 0 #[.val (.int x0)] [])) tgt → Steps p.tables e below (s₁.setTop (entryFrame m #[(.int x0)] 1)) tgt := fun tgt kgo => castTop (ef_rmvo m x0) kgo
  obtain ⟨T1, X1, e1, st1⟩ := getS2 X0 hx hZ hown (host := "") (Or.inl (ow102 hw)) Via.refl e0 (O2.ext O0.2) (g := (mkF m 0 #[.val (.int x0)] [])) rfl (hb hby d_jdk_42_method_139_code_0)
  obtain ⟨_, _, ⟨T2, L2, k2, n2⟩, -, X2, ⟨Lc2, hQ2, l2, y2, z2⟩, st2⟩ := Jvm.LawKit.callS X1 hx (y := (⟨"java/lang/StringLatin1", "canEncode", "(C)Z"⟩ : MethodName)) hown (mvT hZ (ow119 hw)) (mvT hZ (ow120 hw)) (mvT hZ (ow121 hw)) (mvT hZ (ow122 hw)) (by decide) (backOf (W := 0) (rmce l Z a0 hw [] x0  h0 n0 O0 hle) hZ (ow122 hw) (ow121 hw) (by decide) (by decide)) (g := (mkF m 7 #[.val (.int x0)] [(.int x0)])) rfl (by rw [hml]; rfl) (argsL := [(.int x0)]) (rest := []) (lenOf pd1 rfl) rfl (by show 2 * 0 + _ ≤ _; exact Nat.le_of_eq rfl) (hb hby d_jdk_42_method_139_code_7) (fun _ _ => ⟨rfl, e1, (by decide : 0 + 0 ≤ _), (by decide : 0 + 0 ≤ _)⟩)
  dsimp only [Pt.U, Pt.locs, Pt.cells, Pt.slots] at X2 l2 y2 z2 st2 hQ2
  subst l2 y2 z2
  obtain ⟨rfl, Nq2, eq2⟩ := hQ2
  have N3 := Fr.app N0 Nq2
  obtain ⟨T4, h4, X4, e4, E4, A4, D4, U4, st4⟩ := newO X2 hx hZ hown (ow123 hw) (ow17 hw) (ow16 hw) eq2 (g := (mkF m 13 #[.val (.int x0)] [])) rfl (hb hby d_jdk_42_method_139_code_13) (by decide) (by decide)
  obtain ⟨b4, g4⟩ : ∃ z, z = h0.size := ⟨_, rfl⟩
  rw [← g4] at A4 D4 U4 st4
  have gn4 : n0 ≤ b4 := Nat.le_trans (own_sz O0) (Nat.le_of_eq g4.symm)
  have sz4 : h0.size ≤ b4 := Nat.le_trans K0.1 (Nat.le_of_eq g4.symm)
  have Ol5 := O0.ext E4
  have K5 := K0.ext E4
  have Fvalue_4 : Fld Z h4 b4 "java/lang/String" "value" "[B" .null := D4 (Or.inr (ow19 hw)) (ty := (.array .byte)) (by decide)
  have Fcoder_4 : Fld Z h4 b4 "java/lang/String" "coder" "B" (.int (0 : Int32)) := D4 (Or.inr (ow20 hw)) (ty := .byte) (by decide)
  obtain ⟨_, _, ⟨T6, L6, k6, n6⟩, -, X6, ⟨Lc6, hQ6, l6, y6, z6⟩, st6⟩ := Jvm.LawKit.callS X4 hx (y := (⟨"java/lang/StringLatin1", "toBytes", "(C)[B"⟩ : MethodName)) hown (mvT hZ (ow124 hw)) (mvT hZ (ow125 hw)) (mvT hZ (ow121 hw)) (mvT hZ (ow126 hw)) (by decide) (backOf (W := 2) (rmtb l Z a0 hw [] x0  h4 n0 Ol5 ) hZ (ow126 hw) (ow121 hw) (by decide) (by decide)) (g := (mkF m 18 #[.val (.int x0)] [(.int x0), (.ref b4), (.ref b4)])) rfl (by rw [hml]; rfl) (argsL := [(.int x0)]) (rest := [(.ref b4), (.ref b4)]) (lenOf pd2 rfl) rfl (by show 2 * 0 + _ ≤ _; exact Nat.le_of_eq rfl) (hb hby d_jdk_42_method_139_code_18) (fun _ _ => ⟨rfl, e4, (by decide : 1 + 1 ≤ _), (by decide : 4 + 1 ≤ _)⟩)
  dsimp only [Pt.U, Pt.locs, Pt.cells, Pt.slots] at X6 l6 y6 z6 st6 hQ6
  subst l6 y6 z6
  obtain ⟨tb6, rfl, Nq6, kp6⟩ := hQ6
  have N7 := Fr.app N3 Nq6
  have Ol8 := Ol5.keep kp6 all0
  have K8 := K5.trans kp6 all0
  have f9 := (A4.keep kp6)
  have f10 := (Fvalue_4.keep kp6 nin0)
  have f11 := (Fcoder_4.keep kp6 nin0)
  obtain ⟨_, _, ⟨T12, L12, k12, n12⟩, -, X12, ⟨Lc12, hQ12, l12, y12, z12⟩, st12⟩ := X6.specialBack hx (y := (⟨"java/lang/String", "<init>", "([BB)V"⟩ : MethodName)) rfl hown (mvT hZ (ow127 hw)) (mvT hZ (ow128 hw)) (mvT hZ (ow129 hw)) (by decide) (backOf (W := 1) (rmbb l Z a0 hw [] b4 tb6  T6.heap n0 Ol8 f9 f10 f11 gn4) hZ (ow129 hw) (ow16 hw) (by decide) (by decide)) (g := (mkF m 22 #[.val (.int x0)] [(.int (0 : Int32)), (.ref tb6), (.ref b4), (.ref b4)])) rfl (by rw [hml]; rfl) (Steps.refl _) (a := b4) (argsL := [(.ref tb6), (.int (0 : Int32))]) (rest := [(.ref b4)]) (lenOf pd3 rfl) rfl (by show 2 * 0 + _ ≤ _; exact Nat.le_of_eq rfl) (hb hby d_jdk_42_method_139_code_22) (fun _ _ => ⟨rfl, rfl, (by decide : 2 + 0 ≤ _), (by decide : 5 + 0 ≤ _)⟩)
  dsimp only [Pt.U, Pt.locs, Pt.cells, Pt.slots] at X12 l12 y12 z12 st12 hQ12
  subst l12 y12 z12
  obtain ⟨rfl, Nq12, kp12⟩ := hQ12
  have N13 := Fr.app N7 Nq12
  have Ol14 := Ol8.keep kp12 (allS gn4 all0)
  have K14 := K8.trans kp12 (allS (Or.inr sz4) all0)
  obtain ⟨fs, hretL, hrun, hended, hW, hsame⟩ := X12.leave (v := some (.ref b4)) (fun h => by rw [Bd.returns] at h; cases h)
  refine ⟨_, _, pre0 _ ?_, hrun, hended, _, _, rfl, ?_, ⟨_, rfl⟩, hW, hsame.mono (by decide) (by decide)⟩
  · refine st1 _ ?_
    show Steps p.tables e below (T1.setTop (mkF m 3 #[.val (.int x0)] [(.int G1)])) _
    refine XS.ifNo X1.here hx rfl (hb hby d_jdk_42_method_139_code_3) rfl ((if0 _ _).trans (feq P5).1) ?_
    show Steps p.tables e below (T1.setTop (mkF m 6 #[.val (.int x0)] [])) _
    refine XS.iloadN X1.here hx rfl (hb hby d_jdk_42_method_139_code_6) rfl ?_
    show Steps p.tables e below (T1.setTop (mkF m 7 #[.val (.int x0)] [(.int x0)])) _
    refine st2 _ ?_
    show Steps p.tables e below (T2.setTop (mkF m 10 #[.val (.int x0)] [(.int (1 : Int32))])) _
    refine XS.ifNo X2.here hx rfl (hb hby d_jdk_42_method_139_code_10) rfl ((if0 _ _).trans (feq (by decide : ¬ ((1 : Int32) = (0 : Int32)))).1) ?_
    show Steps p.tables e below (T2.setTop (mkF m 13 #[.val (.int x0)] [])) _
    refine st4 _ ?_
    show Steps p.tables e below (T4.setTop (mkF m 16 #[.val (.int x0)] [(.ref b4)])) _
    refine XS.dup X4.here hx rfl (hb hby d_jdk_42_method_139_code_16) rfl rfl ?_
    show Steps p.tables e below (T4.setTop (mkF m 17 #[.val (.int x0)] [(.ref b4), (.ref b4)])) _
    refine XS.iloadN X4.here hx rfl (hb hby d_jdk_42_method_139_code_17) rfl ?_
    show Steps p.tables e below (T4.setTop (mkF m 18 #[.val (.int x0)] [(.int x0), (.ref b4), (.ref b4)])) _
    refine st6 _ ?_
    show Steps p.tables e below (T6.setTop (mkF m 21 #[.val (.int x0)] [(.ref tb6), (.ref b4), (.ref b4)])) _
    refine XS.iconst X6.here hx rfl (hb hby d_jdk_42_method_139_code_21) ?_
    show Steps p.tables e below (T6.setTop (mkF m 22 #[.val (.int x0)] [(.int (0 : Int32)), (.ref tb6), (.ref b4), (.ref b4)])) _
    refine st12.trans ?_
    show Steps p.tables e below (T12.setTop (mkF m 25 #[.val (.int x0)] [(.ref b4)])) _
    exact retOut X12 hx Bd.returns rfl (Or.inr (Or.inr (Or.inr (Or.inr ⟨rfl, rfl, rfl⟩)))) (hb hby d_jdk_42_method_139_code_25) hretL
  · show Q_rmvo Z x0 G1 h0 n0 _ T12.heap _
    exact ⟨_, rfl, N13, K14⟩
theorem d_prog_38_method_1_code_0 : decode prog_38_method_1_code 0 = .ok (.aload_n 0, 1) := by decide +kernel
theorem d_prog_38_method_1_code_1 : decode prog_38_method_1_code 1 = .ok (.invokespecial 1, 3) := by decide +kernel
theorem d_prog_38_method_1_code_4 : decode prog_38_method_1_code 4 = .ok (.return_, 1) := by decide +kernel
def Q_rmji (Z : State) (a : Addr) (h0 : Heap) (n0 : Nat) (v : Option Value) (h : Heap) (L : List Loc) : Prop := v = none ∧ Fr n0 L ∧ h = h0
theorem ef_rmji (m : MethodId) (a : Addr) : entryFrame m #[(.ref a)] 1 = mkF m 0 #[.val (.ref a)] [] := by first | (simp [entryFrame, mkF, argsToLocals, Value.category]; done) | rfl
set_option maxRecDepth 65536 in
set_option maxHeartbeats 40000000 in
theorem rmji (l : Launch) (Z : State) (a0 : Array Value) (hw : ∀ d ∈ tables_1, d.before a0 Z = true) (ws : List Jvm.Cond) (a : Addr) (h0 : Heap) (n0 : Nat) (O0 : Old Z n0 h0) :
    MetFree l (⟨"com/example/tx_at_boundaries/txatboundaries/mybatis/JoinedSessions", "<init>", "()V"⟩ : MethodName) (head1 (Jvm.Cond.code (⟨"com/example/tx_at_boundaries/txatboundaries/mybatis/JoinedSessions", "<init>", "()V"⟩ : MethodName) prog_38_method_1_code 1 none :: ws) ({ frames := 1, cells := 0, slots := 0, locals := 12 } : Room)) (fun aa U => aa = #[(.ref a)] ∧ Z.Warmed39 U.vm ∧ U.heap = h0) (fun _ _ _ _ _ => True) (fun _ U o U' => ∃ v L, o = .returned v ∧ Q_rmji Z a h0 n0 v U'.heap L ∧ FrameEnd U o U' L ({ frames := 1, cells := 0, slots := 0, locals := 12 } : Room).cells ({ frames := 1, cells := 0, slots := 0, locals := 12 } : Room).slots) := by
  refine MetFree.of_bodySF (plainFor_of_name pn2) hisR ?_
  intro p e s m args below meth c s₁ Bd hml0 hP hK
  obtain ⟨rfl, hZ, hh⟩ := hP
  have hx := Bd.exec
  have hby := Bd.bytes
  have hml : c.maxLocals = 1 := hml0
  have hown : s.vm.findClass "com/example/tx_at_boundaries/txatboundaries/mybatis/JoinedSessions" = some m.cls := findClass_of_methodNamed Bd.named
  have hnm := (name_of_methodNamed Bd.named Bd.method).1
  have X0 : Stand p l e ({ frames := 1, cells := 0, slots := 0, locals := 12 } : Room) s m #[(.ref a)] below meth c s₁ [] 0 0 := Stand.of_body Bd
  have e0 : s₁.heap = h0 := by rw [← hh, Bd.state]; rfl
  have N0 := Fr.nil n0
  have K0 : Keep h0 h0 [] := Keep.refl _ _
  have pre0 : ∀ tgt, Steps p.tables e below (s₁.setTop (mkF m 0 #[.val (.ref a)] [])) tgt → Steps p.tables e below (s₁.setTop (entryFrame m #[(.ref a)] 1)) tgt := fun tgt kgo => castTop (ef_rmji m a) kgo
  obtain ⟨T1, X1, e1, st1⟩ := initO X0 hx hZ hown (ow7 hw) (ow8 hw) (ow9 hw) e0 (g := (mkF m 1 #[.val (.ref a)] [(.ref a)])) rfl (by rw [hml]; rfl) rfl (hb hby d_prog_38_method_1_code_1) (by decide) (W := 0) (by show 2 * 0 + _ ≤ _; exact Nat.le_of_eq rfl) (by decide)
  obtain ⟨fs, hretL, hrun, hended, hW, hsame⟩ := X1.leave (v := none) (fun _ => rfl)
  refine ⟨_, _, pre0 _ ?_, hrun, hended, _, _, rfl, ?_, ⟨_, rfl⟩, hW, hsame.mono (by decide) (by decide)⟩
  · refine XS.aloadN X0.here hx rfl (hb hby d_prog_38_method_1_code_0) rfl rfl ?_
    show Steps p.tables e below (s₁.setTop (mkF m 1 #[.val (.ref a)] [(.ref a)])) _
    refine st1 _ ?_
    show Steps p.tables e below (T1.setTop (mkF m 4 #[.val (.ref a)] [])) _
    exact X1.returnOut hx Bd.returns (hb hby d_prog_38_method_1_code_4) hretL
  · show Q_rmji Z a h0 n0 _ T1.heap _
    rw [e1]
    exact ⟨rfl, N0, rfl⟩
theorem d_prog_38_method_3_code_0 : decode prog_38_method_3_code 0 = .ok (.aload_n 0, 1) := by decide +kernel
theorem d_prog_38_method_3_code_1 : decode prog_38_method_3_code 1 = .ok (.getfield 22, 3) := by decide +kernel
theorem d_prog_38_method_3_code_4 : decode prog_38_method_3_code 4 = .ok (.ifCond .eq 17, 3) := by decide +kernel
theorem d_prog_38_method_3_code_21 : decode prog_38_method_3_code 21 = .ok (.return_, 1) := by decide +kernel
def Q_rmrq (Z : State) (a : Addr) (ac : Value) (h0 : Heap) (n0 : Nat) (v : Option Value) (h : Heap) (L : List Loc) : Prop := v = none ∧ Fr n0 L ∧ h = h0
theorem ef_rmrq (m : MethodId) (a : Addr) (ac : Value) (rac : ac.isRef = true) : entryFrame m #[(.ref a), ac] 2 = mkF m 0 #[.val (.ref a), .val ac] [] := by rcases ref_cases rac with rfl | ⟨_, rfl⟩ <;> first | (simp [entryFrame, mkF, argsToLocals, Value.category]; done) | rfl
set_option maxRecDepth 65536 in
set_option maxHeartbeats 40000000 in
theorem rmrq (l : Launch) (Z : State) (a0 : Array Value) (hw : ∀ d ∈ tables_1, d.before a0 Z = true) (ws : List Jvm.Cond) (a : Addr) (ac : Value) (h0 : Heap) (n0 : Nat) (O0 : Old Z n0 h0) (rac : ac.isRef = true) (Fe : Fld Z h0 a "com/example/tx_at_boundaries/txatboundaries/mybatis/JoinedSessions" "ended" "Z" (.int (0 : Int32))) :
    MetFree l (⟨"com/example/tx_at_boundaries/txatboundaries/mybatis/JoinedSessions", "requireRunning", "(Ljava/lang/String;)V"⟩ : MethodName) (head1 (Jvm.Cond.code (⟨"com/example/tx_at_boundaries/txatboundaries/mybatis/JoinedSessions", "requireRunning", "(Ljava/lang/String;)V"⟩ : MethodName) prog_38_method_3_code 2 none :: ws) ({ frames := 0, cells := 0, slots := 0, locals := 0 } : Room)) (fun aa U => aa = #[(.ref a), ac] ∧ Z.Warmed39 U.vm ∧ U.heap = h0) (fun _ _ _ _ _ => True) (fun _ U o U' => ∃ v L, o = .returned v ∧ Q_rmrq Z a ac h0 n0 v U'.heap L ∧ FrameEnd U o U' L ({ frames := 0, cells := 0, slots := 0, locals := 0 } : Room).cells ({ frames := 0, cells := 0, slots := 0, locals := 0 } : Room).slots) := by
  refine MetFree.of_bodySF (plainFor_of_name pn2) hisR ?_
  intro p e s m args below meth c s₁ Bd hml0 hP hK
  obtain ⟨rfl, hZ, hh⟩ := hP
  have hx := Bd.exec
  have hby := Bd.bytes
  have hml : c.maxLocals = 2 := hml0
  have hown : s.vm.findClass "com/example/tx_at_boundaries/txatboundaries/mybatis/JoinedSessions" = some m.cls := findClass_of_methodNamed Bd.named
  have hnm := (name_of_methodNamed Bd.named Bd.method).1
  have X0 : Stand p l e ({ frames := 0, cells := 0, slots := 0, locals := 0 } : Room) s m #[(.ref a), ac] below meth c s₁ [] 0 0 := Stand.of_body Bd
  have e0 : s₁.heap = h0 := by rw [← hh, Bd.state]; rfl
  have N0 := Fr.nil n0
  have K0 : Keep h0 h0 [] := Keep.refl _ _
  have pre0 : ∀ tgt, Steps p.tables e below (s₁.setTop (mkF m 0 #[.val (.ref a), .val ac] [])) tgt → Steps p.tables e below (s₁.setTop (entryFrame m #[(.ref a), ac] 2)) tgt := fun tgt kgo => castTop (ef_rmrq m a ac rac) kgo
  obtain ⟨T1, X1, e1, st1⟩ := getF X0 hx hZ hown (host := "") (Or.inl (ow28 hw)) Via.refl e0 Fe (g := (mkF m 1 #[.val (.ref a), .val ac] [(.ref a)])) rfl rfl (hb hby d_prog_38_method_3_code_1)
  obtain ⟨fs, hretL, hrun, hended, hW, hsame⟩ := X1.leave (v := none) (fun _ => rfl)
  refine ⟨_, _, pre0 _ ?_, hrun, hended, _, _, rfl, ?_, ⟨_, rfl⟩, hW, hsame.mono (by decide) (by decide)⟩
  · refine XS.aloadN X0.here hx rfl (hb hby d_prog_38_method_3_code_0) rfl rfl ?_
    show Steps p.tables e below (s₁.setTop (mkF m 1 #[.val (.ref a), .val ac] [(.ref a)])) _
    refine st1 _ ?_
    show Steps p.tables e below (T1.setTop (mkF m 4 #[.val (.ref a), .val ac] [(.int (0 : Int32))])) _
    refine XS.ifYes X1.here hx rfl (pc0 := 4) (pc' := 21) rfl (hb hby d_prog_38_method_3_code_4) rfl ((if0 _ _).trans (teq (by decide : (0 : Int32) = (0 : Int32))).1) (by decide) (by decide) ?_
    show Steps p.tables e below (T1.setTop (mkF m 21 #[.val (.ref a), .val ac] [])) _
    exact X1.returnOut hx Bd.returns (hb hby d_prog_38_method_3_code_21) hretL
  · show Q_rmrq Z a ac h0 n0 _ T1.heap _
    rw [e1]
    exact ⟨rfl, N0, rfl⟩
theorem d_prog_38_method_7_code_0 : decode prog_38_method_7_code 0 = .ok (.aload_n 0, 1) := by decide +kernel
theorem d_prog_38_method_7_code_1 : decode prog_38_method_7_code 1 = .ok (.getfield 15, 3) := by decide +kernel
theorem d_prog_38_method_7_code_4 : decode prog_38_method_7_code 4 = .ok (.areturn, 1) := by decide +kernel
def Q_rmfl (Z : State) (a : Addr) (rb : Value) (h0 : Heap) (n0 : Nat) (v : Option Value) (h : Heap) (L : List Loc) : Prop := v = some rb ∧ Fr n0 L ∧ h = h0
theorem ef_rmfl (m : MethodId) (a : Addr) : entryFrame m #[(.ref a)] 1 = mkF m 0 #[.val (.ref a)] [] := by first | (simp [entryFrame, mkF, argsToLocals, Value.category]; done) | rfl
set_option maxRecDepth 65536 in
set_option maxHeartbeats 40000000 in
theorem rmfl (l : Launch) (Z : State) (a0 : Array Value) (hw : ∀ d ∈ tables_1, d.before a0 Z = true) (ws : List Jvm.Cond) (a : Addr) (rb : Value) (h0 : Heap) (n0 : Nat) (O0 : Old Z n0 h0) (rrb : rb.isRef = true) (Fr_ : Fld Z h0 a "com/example/tx_at_boundaries/txatboundaries/mybatis/JoinedSessions" "rollback" "Lcom/example/tx_at_boundaries/txatboundaries/mybatis/JoinedSessions$SessionRollback;" rb) :
    MetFree l (⟨"com/example/tx_at_boundaries/txatboundaries/mybatis/JoinedSessions", "failure", "()Ljava/lang/Throwable;"⟩ : MethodName) (head1 (Jvm.Cond.code (⟨"com/example/tx_at_boundaries/txatboundaries/mybatis/JoinedSessions", "failure", "()Ljava/lang/Throwable;"⟩ : MethodName) prog_38_method_7_code 1 (some (.object "java/lang/Throwable")) :: ws) ({ frames := 0, cells := 0, slots := 0, locals := 0 } : Room)) (fun aa U => aa = #[(.ref a)] ∧ Z.Warmed39 U.vm ∧ U.heap = h0) (fun _ _ _ _ _ => True) (fun _ U o U' => ∃ v L, o = .returned v ∧ Q_rmfl Z a rb h0 n0 v U'.heap L ∧ FrameEnd U o U' L ({ frames := 0, cells := 0, slots := 0, locals := 0 } : Room).cells ({ frames := 0, cells := 0, slots := 0, locals := 0 } : Room).slots) := by
  refine MetFree.of_bodySF (plainFor_of_name pn2) hisR ?_
  intro p e s m args below meth c s₁ Bd hml0 hP hK
  obtain ⟨rfl, hZ, hh⟩ := hP
  have hx := Bd.exec
  have hby := Bd.bytes
  have hml : c.maxLocals = 1 := hml0
  have hown : s.vm.findClass "com/example/tx_at_boundaries/txatboundaries/mybatis/JoinedSessions" = some m.cls := findClass_of_methodNamed Bd.named
  have hnm := (name_of_methodNamed Bd.named Bd.method).1
  have X0 : Stand p l e ({ frames := 0, cells := 0, slots := 0, locals := 0 } : Room) s m #[(.ref a)] below meth c s₁ [] 0 0 := Stand.of_body Bd
  have e0 : s₁.heap = h0 := by rw [← hh, Bd.state]; rfl
  have N0 := Fr.nil n0
  have K0 : Keep h0 h0 [] := Keep.refl _ _
  have pre0 : ∀ tgt, Steps p.tables e below (s₁.setTop (mkF m 0 #[.val (.ref a)] [])) tgt → Steps p.tables e below (s₁.setTop (entryFrame m #[(.ref a)] 1)) tgt := fun tgt kgo => castTop (ef_rmfl m a) kgo
  obtain ⟨T1, X1, e1, st1⟩ := getF X0 hx hZ hown (host := "") (Or.inl (ow30 hw)) Via.refl e0 Fr_ (g := (mkF m 1 #[.val (.ref a)] [(.ref a)])) rfl rfl (hb hby d_prog_38_method_7_code_1)
  obtain ⟨fs, hretL, hrun, hended, hW, hsame⟩ := X1.leave (v := some rb) (fun h => by rw [Bd.returns] at h; cases h)
  refine ⟨_, _, pre0 _ ?_, hrun, hended, _, _, rfl, ?_, ⟨_, rfl⟩, hW, hsame.mono (by decide) (by decide)⟩
  · refine XS.aloadN X0.here hx rfl (hb hby d_prog_38_method_7_code_0) rfl rfl ?_
    show Steps p.tables e below (s₁.setTop (mkF m 1 #[.val (.ref a)] [(.ref a)])) _
    refine st1 _ ?_
    show Steps p.tables e below (T1.setTop (mkF m 4 #[.val (.ref a)] [rb])) _
    exact retOut X1 hx Bd.returns (own_nref rrb) (Or.inr (Or.inr (Or.inr (Or.inr ⟨rfl, rfl, rrb⟩)))) (hb hby d_prog_38_method_7_code_4) hretL
  · show Q_rmfl Z a rb h0 n0 _ T1.heap _
    rw [e1]
    exact ⟨rfl, N0, rfl⟩
theorem d_jdk_78_method_2_code_0 : decode jdk_78_method_2_code 0 = .ok (.aload_n 0, 1) := by decide +kernel
theorem d_jdk_78_method_2_code_1 : decode jdk_78_method_2_code 1 = .ok (.invokespecial 1, 3) := by decide +kernel
theorem d_jdk_78_method_2_code_4 : decode jdk_78_method_2_code 4 = .ok (.aload_n 0, 1) := by decide +kernel
theorem d_jdk_78_method_2_code_5 : decode jdk_78_method_2_code 5 = .ok (.aload_n 0, 1) := by decide +kernel
theorem d_jdk_78_method_2_code_6 : decode jdk_78_method_2_code 6 = .ok (.putfield 7, 3) := by decide +kernel
theorem d_jdk_78_method_2_code_9 : decode jdk_78_method_2_code 9 = .ok (.aload_n 0, 1) := by decide +kernel
theorem d_jdk_78_method_2_code_10 : decode jdk_78_method_2_code 10 = .ok (.getstatic 13, 3) := by decide +kernel
theorem d_jdk_78_method_2_code_13 : decode jdk_78_method_2_code 13 = .ok (.putfield 17, 3) := by decide +kernel
theorem d_jdk_78_method_2_code_16 : decode jdk_78_method_2_code 16 = .ok (.aload_n 0, 1) := by decide +kernel
theorem d_jdk_78_method_2_code_17 : decode jdk_78_method_2_code 17 = .ok (.getstatic 20, 3) := by decide +kernel
theorem d_jdk_78_method_2_code_20 : decode jdk_78_method_2_code 20 = .ok (.putfield 24, 3) := by decide +kernel
theorem d_jdk_78_method_2_code_23 : decode jdk_78_method_2_code 23 = .ok (.aload_n 0, 1) := by decide +kernel
theorem d_jdk_78_method_2_code_24 : decode jdk_78_method_2_code 24 = .ok (.invokevirtual 27, 3) := by decide +kernel
theorem d_jdk_78_method_2_code_27 : decode jdk_78_method_2_code 27 = .ok (.pop, 1) := by decide +kernel
theorem d_jdk_78_method_2_code_28 : decode jdk_78_method_2_code 28 = .ok (.aload_n 0, 1) := by decide +kernel
theorem d_jdk_78_method_2_code_29 : decode jdk_78_method_2_code 29 = .ok (.aload_n 1, 1) := by decide +kernel
theorem d_jdk_78_method_2_code_30 : decode jdk_78_method_2_code 30 = .ok (.putfield 31, 3) := by decide +kernel
theorem d_jdk_78_method_2_code_33 : decode jdk_78_method_2_code 33 = .ok (.return_, 1) := by decide +kernel
def Q_rmth (Z : State) (a : Addr) (ms : Value) (us : Addr) (se : Addr) (h0 : Heap) (n0 : Nat) (v : Option Value) (h : Heap) (L : List Loc) : Prop := v = none ∧ Fr n0 L ∧ Keep h0 h [a]
theorem ef_rmth (m : MethodId) (a : Addr) (ms : Value) (rms : ms.isRef = true) : entryFrame m #[(.ref a), ms] 2 = mkF m 0 #[.val (.ref a), .val ms] [] := by rcases ref_cases rms with rfl | ⟨_, rfl⟩ <;> first | (simp [entryFrame, mkF, argsToLocals, Value.category]; done) | rfl
set_option maxRecDepth 65536 in
set_option maxHeartbeats 40000000 in
theorem rmth (l : Launch) (Z : State) (a0 : Array Value) (hw : ∀ d ∈ tables_1, d.before a0 Z = true) (ws : List Jvm.Cond) (a : Addr) (ms : Value) (us : Addr) (se : Addr) (h0 : Heap) (n0 : Nat) (O0 : Old Z n0 h0) (rms : ms.isRef = true) (hst : l.stackTraces = true) (SU : Sta Z Z.heap "java/lang/Throwable" "UNASSIGNED_STACK" "[Ljava/lang/StackTraceElement;" (.ref us)) (SS : Sta Z Z.heap "java/lang/Throwable" "SUPPRESSED_SENTINEL" "Ljava/util/List;" (.ref se)) (Ea : Exa Z h0 a "com/example/tx_at_boundaries/txatboundaries/mybatis/JoinedSessions$SessionRollback") (Ua : Unt h0 a) (F_cause : Fld Z h0 a "java/lang/Throwable" "cause" "Ljava/lang/Throwable;" .null) (F_stackTrace : Fld Z h0 a "java/lang/Throwable" "stackTrace" "[Ljava/lang/StackTraceElement;" .null) (F_suppressedExceptions : Fld Z h0 a "java/lang/Throwable" "suppressedExceptions" "Ljava/util/List;" .null) (F_detailMessage : Fld Z h0 a "java/lang/Throwable" "detailMessage" "Ljava/lang/String;" .null) (F_backtrace : Fld Z h0 a "java/lang/Throwable" "backtrace" "Ljava/lang/Object;" .null) (ga : n0 ≤ a) :
    MetFree l (⟨"java/lang/Throwable", "<init>", "(Ljava/lang/String;)V"⟩ : MethodName) (head1 (Jvm.Cond.code (⟨"java/lang/Throwable", "<init>", "(Ljava/lang/String;)V"⟩ : MethodName) jdk_78_method_2_code 2 none :: ws) ({ frames := 3, cells := 1, slots := 2752, locals := 42 } : Room)) (fun aa U => aa = #[(.ref a), ms] ∧ Z.Warmed39 U.vm ∧ U.heap = h0) (fun _ _ bl st _ => st.vm.MethodsKnown ∧ st.vm.FramesKnown bl) (fun _ U o U' => ∃ v L, o = .returned v ∧ Q_rmth Z a ms us se h0 n0 v U'.heap L ∧ FrameEnd U o U' L ({ frames := 3, cells := 1, slots := 2752, locals := 42 } : Room).cells ({ frames := 3, cells := 1, slots := 2752, locals := 42 } : Room).slots) := by
  refine MetFree.of_bodySF (plainFor_of_name pn3) hisR ?_
  intro p e s m args below meth c s₁ Bd hml0 hP hK
  obtain ⟨rfl, hZ, hh⟩ := hP
  have hx := Bd.exec
  have hby := Bd.bytes
  have hml : c.maxLocals = 2 := hml0
  have hown : s.vm.findClass "java/lang/Throwable" = some m.cls := findClass_of_methodNamed Bd.named
  have hnm := (name_of_methodNamed Bd.named Bd.method).1
  have X0 : Stand p l e ({ frames := 3, cells := 1, slots := 2752, locals := 42 } : Room) s m #[(.ref a), ms] below meth c s₁ [] 0 0 := Stand.of_body Bd
  have e0 : s₁.heap = h0 := by rw [← hh, Bd.state]; rfl
  have N0 := Fr.nil n0
  have K0 : Keep h0 h0 [a] := Keep.refl _ _
  have pre0 : ∀ tgt, Steps p.tables e below (s₁.setTop (mkF m 0 #[.val (.ref a), .val ms] [])) tgt → Steps p.tables e below (s₁.setTop (entryFrame m #[(.ref a), ms] 2)) tgt := fun tgt kgo => castTop (ef_rmth m a ms rms) kgo
  have hZ0 := hZ
  obtain ⟨T1, X1, e1, st1⟩ := initO X0 hx hZ hown (ow50 hw) (ow8 hw) (ow9 hw) e0 (g := (mkF m 1 #[.val (.ref a), .val ms] [(.ref a)])) rfl (by rw [hml]; rfl) rfl (hb hby d_jdk_78_method_2_code_1) (by decide) (W := 0) (by show 2 * 0 + _ ≤ _; exact Nat.le_of_eq rfl) (by decide)
  obtain ⟨T2, h2, X2, e2, W2, st2⟩ := putF X1 hx hZ hown (host := "") (Or.inl (ow51 hw)) Via.refl e1 F_cause Ea (Or.inl (ow52 hw)) (ow33 hw) (ty := (.object "java/lang/Throwable")) (by decide) rfl rfl (g := (mkF m 6 #[.val (.ref a), .val ms] [(.ref a), (.ref a)])) rfl rfl (hb hby d_jdk_78_method_2_code_6)
  have Fw2 := F_cause.same W2
  have N3 := Fr.snoc X2 N0 ga
  have Ol3 := O0.wr W2 ga
  have K3 := K0.wr W2 (Or.inl (List.mem_of_getElem? (i := 0) rfl))
  obtain ⟨T4, X4, e4, st4⟩ := getS2 X2 hx hZ hown (host := "") (Or.inl (ow53 hw)) Via.refl e2 (SU.ext Ol3.2) (g := (mkF m 10 #[.val (.ref a), .val ms] [(.ref a)])) rfl (hb hby d_jdk_78_method_2_code_10)
  have f5 := (Ea.wr W2)
  have f6 := (F_stackTrace.other W2 (Or.inr (slot_ne (Or.inl (ow55 hw)) (Or.inl (ow52 hw)) (by decide) (t := (.array (.object "java/lang/StackTraceElement"))) (t' := (.object "java/lang/Throwable")) (by decide) (by decide))))
  obtain ⟨T7, h7, X7, e7, W7, st7⟩ := putF X4 hx hZ hown (host := "") (Or.inl (ow54 hw)) Via.refl e4 f6 f5 (Or.inl (ow55 hw)) (ow33 hw) (ty := (.array (.object "java/lang/StackTraceElement"))) (by decide) rfl rfl (g := (mkF m 13 #[.val (.ref a), .val ms] [(.ref us), (.ref a)])) rfl rfl (hb hby d_jdk_78_method_2_code_13)
  have Fw7 := f6.same W7
  have N8 := Fr.snoc X7 N3 ga
  have Ol8 := Ol3.wr W7 ga
  have K8 := K3.wr W7 (Or.inl (List.mem_of_getElem? (i := 0) rfl))
  obtain ⟨T9, X9, e9, st9⟩ := getS2 X7 hx hZ hown (host := "") (Or.inl (ow56 hw)) Via.refl e7 (SS.ext Ol8.2) (g := (mkF m 17 #[.val (.ref a), .val ms] [(.ref a)])) rfl (hb hby d_jdk_78_method_2_code_17)
  have f10 := (f5.wr W7)
  have f11 := ((F_suppressedExceptions.other W2 (Or.inr (slot_ne (Or.inl (ow58 hw)) (Or.inl (ow52 hw)) (by decide) (t := (.object "java/util/List")) (t' := (.object "java/lang/Throwable")) (by decide) (by decide)))).other W7 (Or.inr (slot_ne (Or.inl (ow58 hw)) (Or.inl (ow55 hw)) (by decide) (t := (.object "java/util/List")) (t' := (.array (.object "java/lang/StackTraceElement"))) (by decide) (by decide))))
  obtain ⟨T12, h12, X12, e12, W12, st12⟩ := putF X9 hx hZ hown (host := "") (Or.inl (ow57 hw)) Via.refl e9 f11 f10 (Or.inl (ow58 hw)) (ow33 hw) (ty := (.object "java/util/List")) (by decide) rfl rfl (g := (mkF m 20 #[.val (.ref a), .val ms] [(.ref se), (.ref a)])) rfl rfl (hb hby d_jdk_78_method_2_code_20)
  have Fw12 := f11.same W12
  have N13 := Fr.snoc X12 N8 ga
  have Ol13 := Ol8.wr W12 ga
  have K13 := K8.wr W12 (Or.inl (List.mem_of_getElem? (i := 0) rfl))
  have f14 := (f10.wr W12)
  have f15 := (Unt.wr W12 (Unt.wr W7 (Unt.wr W2 Ua)))
  have f16 := (Fw7.other W12 (Or.inr (slot_ne (Or.inl (ow55 hw)) (Or.inl (ow58 hw)) (by decide) (t := (.array (.object "java/lang/StackTraceElement"))) (t' := (.object "java/util/List")) (by decide) (by decide))))
  have f17 := (((F_backtrace.other W2 (Or.inr (slot_ne (Or.inl (ow83 hw)) (Or.inl (ow52 hw)) (by decide) (t := (.object "java/lang/Object")) (t' := (.object "java/lang/Throwable")) (by decide) (by decide)))).other W7 (Or.inr (slot_ne (Or.inl (ow83 hw)) (Or.inl (ow55 hw)) (by decide) (t := (.object "java/lang/Object")) (t' := (.array (.object "java/lang/StackTraceElement"))) (by decide) (by decide)))).other W12 (Or.inr (slot_ne (Or.inl (ow83 hw)) (Or.inl (ow58 hw)) (by decide) (t := (.object "java/lang/Object")) (t' := (.object "java/util/List")) (by decide) (by decide))))
  have f18 := (((F_detailMessage.other W2 (Or.inr (slot_ne (Or.inl (ow82 hw)) (Or.inl (ow52 hw)) (by decide) (t := (.object "java/lang/String")) (t' := (.object "java/lang/Throwable")) (by decide) (by decide)))).other W7 (Or.inr (slot_ne (Or.inl (ow82 hw)) (Or.inl (ow55 hw)) (by decide) (t := (.object "java/lang/String")) (t' := (.array (.object "java/lang/StackTraceElement"))) (by decide) (by decide)))).other W12 (Or.inr (slot_ne (Or.inl (ow82 hw)) (Or.inl (ow58 hw)) (by decide) (t := (.object "java/lang/String")) (t' := (.object "java/util/List")) (by decide) (by decide))))
  obtain ⟨T19, h19, L19, X19, e19, hL19, Ex19, FM19, st19⟩ := own_fill X12 hx hst hZ hw hown (ThS.ext (show Ext Z.heap s.heap by rw [hh]; exact O0.2) ThS.start) hK.1 hK.2 e12 f14 f15 f16 f17 f18 (SU.ext Ol13.2) (g := (mkF m 24 #[.val (.ref a), .val ms] [(.ref a)])) rfl (by rw [hml]; rfl) rfl (hb hby d_jdk_78_method_2_code_24) (by decide) (W := 0) (by show 2 * 0 + _ ≤ _; exact Nat.le_of_eq rfl) (by decide) (by decide) (by decide)
  have hLa19 : ∀ x ∈ L19, x.base = a := fun x hx => (hL19 x hx).elim (fun q => by simp only [List.nil_append, List.append_assoc, List.cons_append, List.mem_cons, List.not_mem_nil, or_false] at q; rcases q with rfl | rfl | rfl <;> rfl) id
  have K19 : Keep h0 h19 [a] := by have q := own_keep X19 hLa19; rw [hh, e19] at q; exact q
  have Ol19 := O0.keep K19 (allS ga all0)
  have N19 : Fr n0 L19 := fun y hy => by rw [hLa19 y hy]; exact ga
  obtain ⟨T20, h20, X20, e20, W20, st20⟩ := putF X19 hx hZ hown (host := "") (Or.inl (ow86 hw)) Via.refl e19 FM19 Ex19 (Or.inl (ow82 hw)) (ow33 hw) (ty := (.object "java/lang/String")) (by decide) (own_nref rms) (own_fref rms) (g := (mkF m 30 #[.val (.ref a), .val ms] [ms, (.ref a)])) rfl rfl (hb hby d_jdk_78_method_2_code_30)
  have Fw20 := FM19.same W20
  have N21 := Fr.snoc X20 N19 ga
  have Ol21 := Ol19.wr W20 ga
  have K21 := K19.wr W20 (Or.inl (List.mem_of_getElem? (i := 0) rfl))
  obtain ⟨fs, hretL, hrun, hended, hW, hsame⟩ := X20.leave (v := none) (fun _ => rfl)
  refine ⟨_, _, pre0 _ ?_, hrun, hended, _, _, rfl, ?_, ⟨_, rfl⟩, hW, hsame.mono (by decide) (by decide)⟩
  · refine XS.aloadN X0.here hx rfl (hb hby d_jdk_78_method_2_code_0) rfl rfl ?_
    show Steps p.tables e below (s₁.setTop (mkF m 1 #[.val (.ref a), .val ms] [(.ref a)])) _
    refine st1 _ ?_
    show Steps p.tables e below (T1.setTop (mkF m 4 #[.val (.ref a), .val ms] [])) _
    refine XS.aloadN X1.here hx rfl (hb hby d_jdk_78_method_2_code_4) rfl rfl ?_
    show Steps p.tables e below (T1.setTop (mkF m 5 #[.val (.ref a), .val ms] [(.ref a)])) _
    refine XS.aloadN X1.here hx rfl (hb hby d_jdk_78_method_2_code_5) rfl rfl ?_
    show Steps p.tables e below (T1.setTop (mkF m 6 #[.val (.ref a), .val ms] [(.ref a), (.ref a)])) _
    refine st2 _ ?_
    show Steps p.tables e below (T2.setTop (mkF m 9 #[.val (.ref a), .val ms] [])) _
    refine XS.aloadN X2.here hx rfl (hb hby d_jdk_78_method_2_code_9) rfl rfl ?_
    show Steps p.tables e below (T2.setTop (mkF m 10 #[.val (.ref a), .val ms] [(.ref a)])) _
    refine st4 _ ?_
    show Steps p.tables e below (T4.setTop (mkF m 13 #[.val (.ref a), .val ms] [(.ref us), (.ref a)])) _
    refine st7 _ ?_
    show Steps p.tables e below (T7.setTop (mkF m 16 #[.val (.ref a), .val ms] [])) _
    refine XS.aloadN X7.here hx rfl (hb hby d_jdk_78_method_2_code_16) rfl rfl ?_
    show Steps p.tables e below (T7.setTop (mkF m 17 #[.val (.ref a), .val ms] [(.ref a)])) _
    refine st9 _ ?_
    show Steps p.tables e below (T9.setTop (mkF m 20 #[.val (.ref a), .val ms] [(.ref se), (.ref a)])) _
    refine st12 _ ?_
    show Steps p.tables e below (T12.setTop (mkF m 23 #[.val (.ref a), .val ms] [])) _
    refine XS.aloadN X12.here hx rfl (hb hby d_jdk_78_method_2_code_23) rfl rfl ?_
    show Steps p.tables e below (T12.setTop (mkF m 24 #[.val (.ref a), .val ms] [(.ref a)])) _
    refine st19 _ ?_
    show Steps p.tables e below (T19.setTop (mkF m 27 #[.val (.ref a), .val ms] [(.ref a)])) _
    refine XS.pop X19.here hx rfl (hb hby d_jdk_78_method_2_code_27) rfl rfl ?_
    show Steps p.tables e below (T19.setTop (mkF m 28 #[.val (.ref a), .val ms] [])) _
    refine XS.aloadN X19.here hx rfl (hb hby d_jdk_78_method_2_code_28) rfl rfl ?_
    show Steps p.tables e below (T19.setTop (mkF m 29 #[.val (.ref a), .val ms] [(.ref a)])) _
    refine XS.aloadN X19.here hx rfl (hb hby d_jdk_78_method_2_code_29) rfl rms ?_
    show Steps p.tables e below (T19.setTop (mkF m 30 #[.val (.ref a), .val ms] [ms, (.ref a)])) _
    refine st20 _ ?_
    show Steps p.tables e below (T20.setTop (mkF m 33 #[.val (.ref a), .val ms] [])) _
    exact X20.returnOut hx Bd.returns (hb hby d_jdk_78_method_2_code_33) hretL
  · show Q_rmth Z a ms us se h0 n0 _ T20.heap _
    rw [e20]
    exact ⟨rfl, N21, K21⟩
theorem d_jdk_59_method_2_code_0 : decode jdk_59_method_2_code 0 = .ok (.aload_n 0, 1) := by decide +kernel
theorem d_jdk_59_method_2_code_1 : decode jdk_59_method_2_code 1 = .ok (.aload_n 1, 1) := by decide +kernel
theorem d_jdk_59_method_2_code_2 : decode jdk_59_method_2_code 2 = .ok (.invokespecial 7, 3) := by decide +kernel
theorem d_jdk_59_method_2_code_5 : decode jdk_59_method_2_code 5 = .ok (.return_, 1) := by decide +kernel
def Q_rmex (Z : State) (a : Addr) (ms : Value) (us : Addr) (se : Addr) (h0 : Heap) (n0 : Nat) (v : Option Value) (h : Heap) (L : List Loc) : Prop := v = none ∧ Fr n0 L ∧ Keep h0 h [a]
theorem ef_rmex (m : MethodId) (a : Addr) (ms : Value) (rms : ms.isRef = true) : entryFrame m #[(.ref a), ms] 2 = mkF m 0 #[.val (.ref a), .val ms] [] := by rcases ref_cases rms with rfl | ⟨_, rfl⟩ <;> first | (simp [entryFrame, mkF, argsToLocals, Value.category]; done) | rfl
set_option maxRecDepth 65536 in
set_option maxHeartbeats 40000000 in
theorem rmex (l : Launch) (Z : State) (a0 : Array Value) (hw : ∀ d ∈ tables_1, d.before a0 Z = true) (ws : List Jvm.Cond) (a : Addr) (ms : Value) (us : Addr) (se : Addr) (h0 : Heap) (n0 : Nat) (O0 : Old Z n0 h0) (rms : ms.isRef = true) (hst : l.stackTraces = true) (SU : Sta Z Z.heap "java/lang/Throwable" "UNASSIGNED_STACK" "[Ljava/lang/StackTraceElement;" (.ref us)) (SS : Sta Z Z.heap "java/lang/Throwable" "SUPPRESSED_SENTINEL" "Ljava/util/List;" (.ref se)) (Ea : Exa Z h0 a "com/example/tx_at_boundaries/txatboundaries/mybatis/JoinedSessions$SessionRollback") (Ua : Unt h0 a) (F_cause : Fld Z h0 a "java/lang/Throwable" "cause" "Ljava/lang/Throwable;" .null) (F_stackTrace : Fld Z h0 a "java/lang/Throwable" "stackTrace" "[Ljava/lang/StackTraceElement;" .null) (F_suppressedExceptions : Fld Z h0 a "java/lang/Throwable" "suppressedExceptions" "Ljava/util/List;" .null) (F_detailMessage : Fld Z h0 a "java/lang/Throwable" "detailMessage" "Ljava/lang/String;" .null) (F_backtrace : Fld Z h0 a "java/lang/Throwable" "backtrace" "Ljava/lang/Object;" .null) (ga : n0 ≤ a) :
    MetFree l (⟨"java/lang/Exception", "<init>", "(Ljava/lang/String;)V"⟩ : MethodName) (head1 (Jvm.Cond.code (⟨"java/lang/Exception", "<init>", "(Ljava/lang/String;)V"⟩ : MethodName) jdk_59_method_2_code 2 none :: ws) ({ frames := 4, cells := 1, slots := 2752, locals := 55 } : Room)) (fun aa U => aa = #[(.ref a), ms] ∧ Z.Warmed39 U.vm ∧ U.heap = h0) (fun _ _ bl st _ => st.vm.MethodsKnown ∧ st.vm.FramesKnown bl) (fun _ U o U' => ∃ v L, o = .returned v ∧ Q_rmex Z a ms us se h0 n0 v U'.heap L ∧ FrameEnd U o U' L ({ frames := 4, cells := 1, slots := 2752, locals := 55 } : Room).cells ({ frames := 4, cells := 1, slots := 2752, locals := 55 } : Room).slots) := by
  refine MetFree.of_bodySF (plainFor_of_name pn4) hisR ?_
  intro p e s m args below meth c s₁ Bd hml0 hP hK
  obtain ⟨rfl, hZ, hh⟩ := hP
  have hx := Bd.exec
  have hby := Bd.bytes
  have hml : c.maxLocals = 2 := hml0
  have hown : s.vm.findClass "java/lang/Exception" = some m.cls := findClass_of_methodNamed Bd.named
  have hnm := (name_of_methodNamed Bd.named Bd.method).1
  have X0 : Stand p l e ({ frames := 4, cells := 1, slots := 2752, locals := 55 } : Room) s m #[(.ref a), ms] below meth c s₁ [] 0 0 := Stand.of_body Bd
  have e0 : s₁.heap = h0 := by rw [← hh, Bd.state]; rfl
  have N0 := Fr.nil n0
  have K0 : Keep h0 h0 [a] := Keep.refl _ _
  have pre0 : ∀ tgt, Steps p.tables e below (s₁.setTop (mkF m 0 #[.val (.ref a), .val ms] [])) tgt → Steps p.tables e below (s₁.setTop (entryFrame m #[(.ref a), ms] 2)) tgt := fun tgt kgo => castTop (ef_rmex m a ms rms) kgo
  have hZ0 := hZ
  obtain ⟨_, _, ⟨T1, L1, k1, n1⟩, -, X1, ⟨Lc1, hQ1, l1, y1, z1⟩, st1⟩ := X0.specialBack hx (y := (⟨"java/lang/Throwable", "<init>", "(Ljava/lang/String;)V"⟩ : MethodName)) rfl hown (mvT hZ (ow44 hw)) (mvT hZ (ow45 hw)) (mvT hZ (ow49 hw)) (by decide) (backOfKL (W := 0) (rmth l Z a0 hw [] a ms us se h0 n0 O0 rms hst SU SS Ea Ua F_cause F_stackTrace F_suppressedExceptions F_detailMessage F_backtrace ga) hZ (ow49 hw) (ow48 hw) (by decide) (by decide) (own_tk hZ0 hZ hK.1) (own_fk hZ0 hZ hK.2)) (g := (mkF m 2 #[.val (.ref a), .val ms] [ms, (.ref a)])) rfl (by rw [hml]; rfl) (Steps.refl _) (a := a) (argsL := [ms]) (rest := []) (lenOf pd4 rfl) rfl (by show 2 * 0 + _ ≤ _; exact Nat.le_of_eq rfl) (hb hby d_jdk_59_method_2_code_2) (fun _ _ => ⟨rfl, e0, (by decide : 0 + 1 ≤ _), (by decide : 0 + 2752 ≤ _)⟩)
  dsimp only [Pt.U, Pt.locs, Pt.cells, Pt.slots] at X1 l1 y1 z1 st1 hQ1
  subst l1 y1 z1
  obtain ⟨rfl, Nq1, kp1⟩ := hQ1
  have N2 := Fr.app N0 Nq1
  have Ol3 := O0.keep kp1 (allS ga all0)
  have K3 := K0.trans kp1 (allS (Or.inl (List.mem_of_getElem? (i := 0) rfl)) all0)
  obtain ⟨fs, hretL, hrun, hended, hW, hsame⟩ := X1.leave (v := none) (fun _ => rfl)
  refine ⟨_, _, pre0 _ ?_, hrun, hended, _, _, rfl, ?_, ⟨_, rfl⟩, hW, hsame.mono (by decide) (by decide)⟩
  · refine XS.aloadN X0.here hx rfl (hb hby d_jdk_59_method_2_code_0) rfl rfl ?_
    show Steps p.tables e below (s₁.setTop (mkF m 1 #[.val (.ref a), .val ms] [(.ref a)])) _
    refine XS.aloadN X0.here hx rfl (hb hby d_jdk_59_method_2_code_1) rfl rms ?_
    show Steps p.tables e below (s₁.setTop (mkF m 2 #[.val (.ref a), .val ms] [ms, (.ref a)])) _
    refine st1.trans ?_
    show Steps p.tables e below (T1.setTop (mkF m 5 #[.val (.ref a), .val ms] [])) _
    exact X1.returnOut hx Bd.returns (hb hby d_jdk_59_method_2_code_5) hretL
  · show Q_rmex Z a ms us se h0 n0 _ T1.heap _
    exact ⟨rfl, N2, K3⟩
theorem d_prog_39_method_1_code_0 : decode prog_39_method_1_code 0 = .ok (.aload_n 0, 1) := by decide +kernel
theorem d_prog_39_method_1_code_1 : decode prog_39_method_1_code 1 = .ok (.ldc 1, 2) := by decide +kernel
theorem d_prog_39_method_1_code_3 : decode prog_39_method_1_code 3 = .ok (.invokespecial 3, 3) := by decide +kernel
theorem d_prog_39_method_1_code_6 : decode prog_39_method_1_code 6 = .ok (.return_, 1) := by decide +kernel
def Q_rmsr (Z : State) (a : Addr) (us : Addr) (se : Addr) (h0 : Heap) (n0 : Nat) (v : Option Value) (h : Heap) (L : List Loc) : Prop := v = none ∧ Fr n0 L ∧ Keep h0 h [a]
theorem ef_rmsr (m : MethodId) (a : Addr) : entryFrame m #[(.ref a)] 1 = mkF m 0 #[.val (.ref a)] [] := by first | (simp [entryFrame, mkF, argsToLocals, Value.category]; done) | rfl
set_option maxRecDepth 65536 in
set_option maxHeartbeats 40000000 in
theorem rmsr (l : Launch) (Z : State) (a0 : Array Value) (hw : ∀ d ∈ tables_1, d.before a0 Z = true) (ws : List Jvm.Cond) (a : Addr) (us : Addr) (se : Addr) (h0 : Heap) (n0 : Nat) (O0 : Old Z n0 h0) (hst : l.stackTraces = true) (SU : Sta Z Z.heap "java/lang/Throwable" "UNASSIGNED_STACK" "[Ljava/lang/StackTraceElement;" (.ref us)) (SS : Sta Z Z.heap "java/lang/Throwable" "SUPPRESSED_SENTINEL" "Ljava/util/List;" (.ref se)) (Ea : Exa Z h0 a "com/example/tx_at_boundaries/txatboundaries/mybatis/JoinedSessions$SessionRollback") (Ua : Unt h0 a) (F_cause : Fld Z h0 a "java/lang/Throwable" "cause" "Ljava/lang/Throwable;" .null) (F_stackTrace : Fld Z h0 a "java/lang/Throwable" "stackTrace" "[Ljava/lang/StackTraceElement;" .null) (F_suppressedExceptions : Fld Z h0 a "java/lang/Throwable" "suppressedExceptions" "Ljava/util/List;" .null) (F_detailMessage : Fld Z h0 a "java/lang/Throwable" "detailMessage" "Ljava/lang/String;" .null) (F_backtrace : Fld Z h0 a "java/lang/Throwable" "backtrace" "Ljava/lang/Object;" .null) (ga : n0 ≤ a) :
    MetFree l (⟨"com/example/tx_at_boundaries/txatboundaries/mybatis/JoinedSessions$SessionRollback", "<init>", "()V"⟩ : MethodName) (head1 (Jvm.Cond.code (⟨"com/example/tx_at_boundaries/txatboundaries/mybatis/JoinedSessions$SessionRollback", "<init>", "()V"⟩ : MethodName) prog_39_method_1_code 1 none :: ws) ({ frames := 5, cells := 3, slots := 3020, locals := 68 } : Room)) (fun aa U => aa = #[(.ref a)] ∧ Z.Warmed39 U.vm ∧ U.heap = h0 ∧ CHv Z EL0 U.vm h0) (fun _ _ bl st _ => st.vm.MethodsKnown ∧ st.vm.FramesKnown bl) (fun _ U o U' => ∃ v L, o = .returned v ∧ Q_rmsr Z a us se h0 n0 v U'.heap L ∧ CHr Z EL0 U.vm U.heap U'.vm U'.heap ∧ ReturnedEndW U o U' L ({ frames := 5, cells := 3, slots := 3020, locals := 68 } : Room).cells ({ frames := 5, cells := 3, slots := 3020, locals := 68 } : Room).slots) := by
  refine MetFree.of_bodySF (plainFor_of_name pn5) hisR ?_
  intro p e s m args below meth c s₁ Bd hml0 hP hK
  obtain ⟨rfl, hZ, hh, hCH⟩ := hP
  have hx := Bd.exec
  have hby := Bd.bytes
  have hml : c.maxLocals = 1 := hml0
  have hown : s.vm.findClass "com/example/tx_at_boundaries/txatboundaries/mybatis/JoinedSessions$SessionRollback" = some m.cls := findClass_of_methodNamed Bd.named
  have hnm := (name_of_methodNamed Bd.named Bd.method).1
  have X0 : Stand p l e ({ frames := 5, cells := 3, slots := 3020, locals := 68 } : Room) (s.setVm s.vm) m #[(.ref a)] below meth c s₁ [] 0 0 := Stand.of_body Bd
  have e0 : s₁.heap = h0 := by rw [← hh, Bd.state]; rfl
  have N0 := Fr.nil n0
  have K0 : Keep h0 h0 [a] := Keep.refl _ _
  have pre0 : ∀ tgt, Steps p.tables e below (s₁.setTop (mkF m 0 #[.val (.ref a)] [])) tgt → Steps p.tables e below (s₁.setTop (entryFrame m #[(.ref a)] 1)) tgt := fun tgt kgo => castTop (ef_rmsr m a) kgo
  have hZ0 := hZ
  have hS0 : s.Since s.vm 0 := (State.WarmedH.refl s).since 0
  have hk0 : 0 ≤ h0.size := Nat.zero_le _
  have CH0 : CHr Z EL0 s.vm h0 s.vm h0 := CHr.refl hCH
  obtain ⟨b1, T1, h1, kk1, d1, k1, X1, e1, E1, hS1, hk1, hZ1, hown1, Ex1, Fc1, Fv1, Av1, -, -, CR1, -, sn1, st1⟩ := ldcCH X0 hx hZ hown (ow38 hw) (own_wS hw) e0 hS0 hk0 (own_EW hw) (by decide) CH0.1 (vs := [(.int (97 : Int32)), (.int (32 : Int32)), (.int (77 : Int32)), (.int (121 : Int32)), (.int (66 : Int32)), (.int (97 : Int32)), (.int (116 : Int32)), (.int (105 : Int32)), (.int (115 : Int32)), (.int (32 : Int32)), (.int (115 : Int32)), (.int (101 : Int32)), (.int (115 : Int32)), (.int (115 : Int32)), (.int (105 : Int32)), (.int (111 : Int32)), (.int (110 : Int32)), (.int (32 : Int32)), (.int (116 : Int32)), (.int (104 : Int32)), (.int (97 : Int32)), (.int (116 : Int32)), (.int (32 : Int32)), (.int (106 : Int32)), (.int (111 : Int32)), (.int (105 : Int32)), (.int (110 : Int32)), (.int (101 : Int32)), (.int (100 : Int32)), (.int (32 : Int32)), (.int (116 : Int32)), (.int (104 : Int32)), (.int (101 : Int32)), (.int (32 : Int32)), (.int (116 : Int32)), (.int (114 : Int32)), (.int (97 : Int32)), (.int (110 : Int32)), (.int (115 : Int32)), (.int (97 : Int32)), (.int (99 : Int32)), (.int (116 : Int32)), (.int (105 : Int32)), (.int (111 : Int32)), (.int (110 : Int32)), (.int (32 : Int32)), (.int (114 : Int32)), (.int (111 : Int32)), (.int (108 : Int32)), (.int (108 : Int32)), (.int (101 : Int32)), (.int (100 : Int32)), (.int (32 : Int32)), (.int (105 : Int32)), (.int (116 : Int32)), (.int (115 : Int32)), (.int (32 : Int32)), (.int (119 : Int32)), (.int (111 : Int32)), (.int (114 : Int32)), (.int (107 : Int32)), (.int (32 : Int32)), (.int (98 : Int32)), (.int (97 : Int32)), (.int (99 : Int32)), (.int (107 : Int32))]) (z := (66 : Int32)) ⟨by decide, rfl⟩ (by decide) (by decide) (g := (mkF m 1 #[.val (.ref a)] [(.ref a)])) rfl (hb hby d_prog_39_method_1_code_1) (n := 264) (by decide) (by decide) (by decide) (by decide)
  have Ol2 := O0.ext E1
  have K2 := K0.ext E1
  have CH2 := CH0.trans CR1
  have f3 := (Ea.ext E1)
  have sq1_0 := sn1 a (Safe.exa hZ1.alike f3 (by decide) (by decide))
  have f4 := (Unt.ext E1 Ua)
  have f5 := (F_cause.ext E1)
  have f6 := (F_stackTrace.ext E1)
  have f7 := (F_suppressedExceptions.ext E1)
  have f8 := (F_detailMessage.ext E1)
  have f9 := (F_backtrace.ext E1)
  obtain ⟨_, _, ⟨T10, L10, k10, n10⟩, -, X10, ⟨Lc10, hQ10, l10, y10, z10⟩, st10⟩ := X1.specialBack hx (y := (⟨"java/lang/Exception", "<init>", "(Ljava/lang/String;)V"⟩ : MethodName)) rfl hown1 (mvT hZ1 (ow39 hw)) (mvT hZ1 (ow40 hw)) (mvT hZ1 (ow43 hw)) (by decide) (backOfKL (W := 0) (rmex l Z a0 hw [] a (.ref b1) us se h1 n0 Ol2 rfl hst SU SS f3 f4 f5 f6 f7 f8 f9 ga) hZ1 (ow43 hw) (ow42 hw) (by decide) (by decide) (own_tk hZ0 hZ1 hK.1) (own_fk hZ0 hZ1 hK.2)) (g := (mkF m 3 #[.val (.ref a)] [(.ref b1), (.ref a)])) rfl (by rw [hml]; rfl) (Steps.refl _) (a := a) (argsL := [(.ref b1)]) (rest := []) (lenOf pd4 rfl) rfl (by show 2 * 0 + _ ≤ _; exact Nat.le_of_eq rfl) (hb hby d_prog_39_method_1_code_3) (fun _ _ => ⟨rfl, e1, (by decide : 2 + 1 ≤ _), (by decide : 268 + 2752 ≤ _)⟩)
  dsimp only [Pt.U, Pt.locs, Pt.cells, Pt.slots] at X10 l10 y10 z10 st10 hQ10
  subst l10 y10 z10
  obtain ⟨rfl, Nq10, kp10⟩ := hQ10
  have N11 := Fr.app N0 Nq10
  have CH12 := CH2.trans (CHr.keep kp10 (sfS (Safe.exa hZ1.alike f3 (by decide) (by decide)) sf0) CH2.1)
  have hk12 := Nat.le_trans hk1 kp10.1
  have Ol13 := Ol2.keep kp10 (allS ga all0)
  have K13 := K2.trans kp10 (allS (Or.inl (List.mem_of_getElem? (i := 0) rfl)) all0)
  obtain ⟨fs, hretL, hrun, hended, hEnd⟩ := Stand.leaveW X10 hS1 hk12 (v := none) (fun _ => rfl)
  have hCf : CHr Z EL0 s.vm s.heap T10.vm T10.heap := by rw [hh]; exact CH12.trans (CHv.at X10 hZ1 (own_EW hw) CH12.1)
  refine ⟨_, _, pre0 _ ?_, hrun, hended, _, _, rfl, ?_, hCf, hEnd.1, hEnd.2.1, hEnd.2.2.1, hEnd.2.2.2.mono (by decide) (by decide)⟩
  · refine XS.aloadN X0.here hx rfl (hb hby d_prog_39_method_1_code_0) rfl rfl ?_
    show Steps p.tables e below (s₁.setTop (mkF m 1 #[.val (.ref a)] [(.ref a)])) _
    refine st1 _ ?_
    show Steps p.tables e below (T1.setTop (mkF m 3 #[.val (.ref a)] [(.ref b1), (.ref a)])) _
    refine st10.trans ?_
    show Steps p.tables e below (T10.setTop (mkF m 6 #[.val (.ref a)] [])) _
    exact X10.returnOut hx Bd.returns (hb hby d_prog_39_method_1_code_6) hretL
  · show Q_rmsr Z a us se h0 n0 _ T10.heap _
    exact ⟨rfl, N11, K13⟩
theorem d_prog_38_method_2_code_0 : decode prog_38_method_2_code 0 = .ok (.aload_n 0, 1) := by decide +kernel
theorem d_prog_38_method_2_code_1 : decode prog_38_method_2_code 1 = .ok (.ldc 7, 2) := by decide +kernel
theorem d_prog_38_method_2_code_3 : decode prog_38_method_2_code 3 = .ok (.invokevirtual 9, 3) := by decide +kernel
theorem d_prog_38_method_2_code_6 : decode prog_38_method_2_code 6 = .ok (.aload_n 0, 1) := by decide +kernel
theorem d_prog_38_method_2_code_7 : decode prog_38_method_2_code 7 = .ok (.getfield 15, 3) := by decide +kernel
theorem d_prog_38_method_2_code_10 : decode prog_38_method_2_code 10 = .ok (.ifnonnull 14, 3) := by decide +kernel
theorem d_prog_38_method_2_code_13 : decode prog_38_method_2_code 13 = .ok (.aload_n 0, 1) := by decide +kernel
theorem d_prog_38_method_2_code_14 : decode prog_38_method_2_code 14 = .ok (.new 19, 3) := by decide +kernel
theorem d_prog_38_method_2_code_17 : decode prog_38_method_2_code 17 = .ok (.dup, 1) := by decide +kernel
theorem d_prog_38_method_2_code_18 : decode prog_38_method_2_code 18 = .ok (.invokespecial 21, 3) := by decide +kernel
theorem d_prog_38_method_2_code_21 : decode prog_38_method_2_code 21 = .ok (.putfield 15, 3) := by decide +kernel
theorem d_prog_38_method_2_code_24 : decode prog_38_method_2_code 24 = .ok (.return_, 1) := by decide +kernel
def Q_rmrb (Z : State) (a : Addr) (us : Addr) (se : Addr) (h0 : Heap) (n0 : Nat) (v : Option Value) (h : Heap) (L : List Loc) : Prop := ∃ r : Addr, v = none ∧ Fr n0 L ∧ Keep h0 h [a] ∧ Fld Z h a "com/example/tx_at_boundaries/txatboundaries/mybatis/JoinedSessions" "ended" "Z" (.int (0 : Int32)) ∧ Fld Z h a "com/example/tx_at_boundaries/txatboundaries/mybatis/JoinedSessions" "rollback" "Lcom/example/tx_at_boundaries/txatboundaries/mybatis/JoinedSessions$SessionRollback;" (.ref r)
theorem ef_rmrb (m : MethodId) (a : Addr) : entryFrame m #[(.ref a)] 1 = mkF m 0 #[.val (.ref a)] [] := by first | (simp [entryFrame, mkF, argsToLocals, Value.category]; done) | rfl
set_option maxRecDepth 65536 in
set_option maxHeartbeats 40000000 in
theorem rmrb (l : Launch) (Z : State) (a0 : Array Value) (hw : ∀ d ∈ tables_1, d.before a0 Z = true) (ws : List Jvm.Cond) (a : Addr) (us : Addr) (se : Addr) (h0 : Heap) (n0 : Nat) (O0 : Old Z n0 h0) (hst : l.stackTraces = true) (SU : Sta Z Z.heap "java/lang/Throwable" "UNASSIGNED_STACK" "[Ljava/lang/StackTraceElement;" (.ref us)) (SS : Sta Z Z.heap "java/lang/Throwable" "SUPPRESSED_SENTINEL" "Ljava/util/List;" (.ref se)) (Ea : Exa Z h0 a "com/example/tx_at_boundaries/txatboundaries/mybatis/JoinedSessions") (Fe : Fld Z h0 a "com/example/tx_at_boundaries/txatboundaries/mybatis/JoinedSessions" "ended" "Z" (.int (0 : Int32))) (Fr_ : Fld Z h0 a "com/example/tx_at_boundaries/txatboundaries/mybatis/JoinedSessions" "rollback" "Lcom/example/tx_at_boundaries/txatboundaries/mybatis/JoinedSessions$SessionRollback;" .null) (ga : n0 ≤ a) :
    MetFree l (⟨"com/example/tx_at_boundaries/txatboundaries/mybatis/JoinedSessions", "rollBack", "()V"⟩ : MethodName) (head1 (Jvm.Cond.code (⟨"com/example/tx_at_boundaries/txatboundaries/mybatis/JoinedSessions", "rollBack", "()V"⟩ : MethodName) prog_38_method_2_code 1 none :: ws) ({ frames := 6, cells := 6, slots := 3066, locals := 82 } : Room)) (fun aa U => aa = #[(.ref a)] ∧ Z.Warmed39 U.vm ∧ U.heap = h0 ∧ CHv Z EL0 U.vm h0) (fun _ _ bl st _ => st.vm.MethodsKnown ∧ st.vm.FramesKnown bl) (fun _ U o U' => ∃ v L, o = .returned v ∧ Q_rmrb Z a us se h0 n0 v U'.heap L ∧ CHr Z EL0 U.vm U.heap U'.vm U'.heap ∧ ReturnedEndW U o U' L ({ frames := 6, cells := 6, slots := 3066, locals := 82 } : Room).cells ({ frames := 6, cells := 6, slots := 3066, locals := 82 } : Room).slots) := by
  refine MetFree.of_bodySF (plainFor_of_name pn2) hisR ?_
  intro p e s m args below meth c s₁ Bd hml0 hP hK
  obtain ⟨rfl, hZ, hh, hCH⟩ := hP
  have hx := Bd.exec
  have hby := Bd.bytes
  have hml : c.maxLocals = 1 := hml0
  have hown : s.vm.findClass "com/example/tx_at_boundaries/txatboundaries/mybatis/JoinedSessions" = some m.cls := findClass_of_methodNamed Bd.named
  have hnm := (name_of_methodNamed Bd.named Bd.method).1
  have X0 : Stand p l e ({ frames := 6, cells := 6, slots := 3066, locals := 82 } : Room) (s.setVm s.vm) m #[(.ref a)] below meth c s₁ [] 0 0 := Stand.of_body Bd
  have e0 : s₁.heap = h0 := by rw [← hh, Bd.state]; rfl
  have N0 := Fr.nil n0
  have K0 : Keep h0 h0 [a] := Keep.refl _ _
  have pre0 : ∀ tgt, Steps p.tables e below (s₁.setTop (mkF m 0 #[.val (.ref a)] [])) tgt → Steps p.tables e below (s₁.setTop (entryFrame m #[(.ref a)] 1)) tgt := fun tgt kgo => castTop (ef_rmrb m a) kgo
  have hZ0 := hZ
  have hS0 : s.Since s.vm 0 := (State.WarmedH.refl s).since 0
  have hk0 : 0 ≤ h0.size := Nat.zero_le _
  have CH0 : CHr Z EL0 s.vm h0 s.vm h0 := CHr.refl hCH
  obtain ⟨b1, T1, h1, kk1, d1, k1, X1, e1, E1, hS1, hk1, hZ1, hown1, Ex1, Fc1, Fv1, Av1, -, -, CR1, -, sn1, st1⟩ := ldcCH X0 hx hZ hown (ow15 hw) (own_wS hw) e0 hS0 hk0 (own_EW hw) (by decide) CH0.1 (vs := [(.int (114 : Int32)), (.int (111 : Int32)), (.int (108 : Int32)), (.int (108 : Int32)), (.int (32 : Int32)), (.int (98 : Int32)), (.int (97 : Int32)), (.int (99 : Int32)), (.int (107 : Int32))]) (z := (9 : Int32)) ⟨by decide, rfl⟩ (by decide) (by decide) (g := (mkF m 1 #[.val (.ref a)] [(.ref a)])) rfl (hb hby d_prog_38_method_2_code_1) (n := 36) (by decide) (by decide) (by decide) (by decide)
  have Ol2 := O0.ext E1
  have K2 := K0.ext E1
  have CH2 := CH0.trans CR1
  have f3 := (Ea.ext E1)
  have sq1_0 := sn1 a (Safe.exa hZ1.alike f3 (by decide) (by decide))
  have f4 := (Fe.ext E1)
  obtain ⟨cq5, kq5, q5a, q5b, q5c⟩ := isOf hZ1 e1 f3
  obtain ⟨_, _, ⟨T5, L5, k5, n5⟩, -, X5, ⟨Lc5, hQ5, l5, y5, z5⟩, st5⟩ := X1.virtualBack hx (y := (⟨"com/example/tx_at_boundaries/txatboundaries/mybatis/JoinedSessions", "requireRunning", "(Ljava/lang/String;)V"⟩ : MethodName)) (z := (⟨"com/example/tx_at_boundaries/txatboundaries/mybatis/JoinedSessions", "requireRunning", "(Ljava/lang/String;)V"⟩ : MethodName)) hown1 (mvT hZ1 (ow23 hw)) (mvT hZ1 (ow24 hw)) (notFace_of_selects (args := #[]) (mvT hZ1 (ow26 hw))) (mvT hZ1 (ow26 hw)) (mvT hZ1 (ow25 hw)) (by decide) (backOf (W := 0) (rmrq l Z a0 hw [] a (.ref b1)  h1 n0 Ol2 rfl f4) hZ1 (ow27 hw) (ow3 hw) (by decide) (by decide)) q5a q5c (g := (mkF m 3 #[.val (.ref a)] [(.ref b1), (.ref a)])) rfl (by rw [hml]; rfl) (Steps.refl _) (argsL := [(.ref b1)]) (rest := []) (lenOf pd4 rfl) rfl (by show 2 * 0 + _ ≤ _; exact Nat.le_of_eq rfl) (hb hby d_prog_38_method_2_code_3) (fun _ _ => ⟨rfl, e1, (by decide : 2 + 0 ≤ _), (by decide : 40 + 0 ≤ _)⟩)
  dsimp only [Pt.U, Pt.locs, Pt.cells, Pt.slots] at X5 l5 y5 z5 st5 hQ5
  subst l5 y5 z5
  obtain ⟨rfl, Nq5, eq5⟩ := hQ5
  have N6 := Fr.app N0 Nq5
  have f7 := (Fr_.ext E1)
  obtain ⟨T8, X8, e8, st8⟩ := getF X5 hx hZ1 hown1 (host := "") (Or.inl (ow30 hw)) Via.refl eq5 f7 (g := (mkF m 7 #[.val (.ref a)] [(.ref a)])) rfl rfl (hb hby d_prog_38_method_2_code_7)
  obtain ⟨T9, h9, X9, e9, E9, A9, D9, U9, st9⟩ := newO X8 hx hZ1 hown1 (ow32 hw) (ow33 hw) (ow34 hw) e8 (g := (mkF m 14 #[.val (.ref a)] [(.ref a)])) rfl (hb hby d_prog_38_method_2_code_14) (by decide) (by decide)
  obtain ⟨b9, g9⟩ : ∃ z, z = h1.size := ⟨_, rfl⟩
  rw [← g9] at A9 D9 U9 st9
  have gn9 : n0 ≤ b9 := Nat.le_trans (own_sz Ol2) (Nat.le_of_eq g9.symm)
  have sz9 : h0.size ≤ b9 := Nat.le_trans K2.1 (Nat.le_of_eq g9.symm)
  have nea_9 : a ≠ b9 := Nat.ne_of_lt (Nat.lt_of_lt_of_le f3.lt (Nat.le_of_eq g9.symm))
  have neb1_9 : b1 ≠ b9 := Nat.ne_of_lt (Nat.lt_of_lt_of_le Ex1.lt (Nat.le_of_eq g9.symm))
  have ned1_9 : d1 ≠ b9 := Nat.ne_of_lt (Nat.lt_of_lt_of_le Av1.lt (Nat.le_of_eq g9.symm))
  have Y9 := Safe.ext E9 CH2.1 (Safe.new (x := b9) (Nat.le_of_eq g9.symm))
  have CH10 := CH2.trans (CHr.ext E9 CH2.1)
  have hk10 := Nat.le_trans hk1 E9.1
  have Ol11 := Ol2.ext E9
  have K11 := K2.ext E9
  have Fcause_9 : Fld Z h9 b9 "java/lang/Throwable" "cause" "Ljava/lang/Throwable;" .null := D9 (Or.inl (ow52 hw)) (ty := (.object "java/lang/Throwable")) (by decide)
  have FstackTrace_9 : Fld Z h9 b9 "java/lang/Throwable" "stackTrace" "[Ljava/lang/StackTraceElement;" .null := D9 (Or.inl (ow55 hw)) (ty := (.array (.object "java/lang/StackTraceElement"))) (by decide)
  have FsuppressedExceptions_9 : Fld Z h9 b9 "java/lang/Throwable" "suppressedExceptions" "Ljava/util/List;" .null := D9 (Or.inl (ow58 hw)) (ty := (.object "java/util/List")) (by decide)
  have FdetailMessage_9 : Fld Z h9 b9 "java/lang/Throwable" "detailMessage" "Ljava/lang/String;" .null := D9 (Or.inl (ow82 hw)) (ty := (.object "java/lang/String")) (by decide)
  have Fbacktrace_9 : Fld Z h9 b9 "java/lang/Throwable" "backtrace" "Ljava/lang/Object;" .null := D9 (Or.inl (ow83 hw)) (ty := (.object "java/lang/Object")) (by decide)
  have Fdepth_9 : Fld Z h9 b9 "java/lang/Throwable" "depth" "I" (.int (0 : Int32)) := D9 (Or.inl (ow84 hw)) (ty := .int) (by decide)
  obtain ⟨_, _, ⟨T12, L12, k12, n12⟩, -, Xr12, hSr12, hgr12, ⟨Lc12, hQ12, l12, y12, z12, CR12⟩, st12⟩ := X9.specialBackS hx (y := (⟨"com/example/tx_at_boundaries/txatboundaries/mybatis/JoinedSessions$SessionRollback", "<init>", "()V"⟩ : MethodName)) rfl hown1 (mvT hZ1 (ow35 hw)) (mvT hZ1 (ow36 hw)) (mvT hZ1 (ow37 hw)) (by decide) (backOfSKH (W := 2) (rmsr l Z a0 hw [] b9 us se h9 n0 Ol11 hst SU SS A9 U9 Fcause_9 FstackTrace_9 FsuppressedExceptions_9 FdetailMessage_9 Fbacktrace_9 gn9) hZ1 (ow37 hw) (ow34 hw) (by decide) (by decide) (own_EW hw) CH10.1 (own_tk hZ0 hZ1 hK.1) (own_fk hZ0 hZ1 hK.2)) (g := (mkF m 18 #[.val (.ref a)] [(.ref b9), (.ref b9), (.ref a)])) rfl (by rw [hml]; rfl) (Steps.refl _) (a := b9) (argsL := []) (rest := [(.ref b9), (.ref a)]) (lenOf pd5 rfl) rfl (by show 2 * 0 + _ ≤ _; exact Nat.le_of_eq rfl) (hb hby d_prog_38_method_2_code_18) (fun _ _ => ⟨rfl, e9, (by decide : 3 + 3 ≤ _), (by decide : 46 + 3020 ≤ _)⟩)
  dsimp only [Pt.U, Pt.locs, Pt.cells, Pt.slots] at Xr12 hSr12 hgr12 l12 y12 z12 CR12 st12 hQ12
  subst l12 y12 z12
  obtain ⟨X12, hS12, hZ12, hown12⟩ := rebS hS1 (by rw [e9]; exact hk10) Xr12 hSr12 hgr12 hZ1 hown1
  have hk12 : T12.heap.size ≤ T12.heap.size := Nat.le_refl _
  obtain ⟨rfl, Nq12, kp12⟩ := hQ12
  have N13 := Fr.app N6 Nq12
  have CH14 := CH10.trans CR12
  have Ol15 := Ol11.keep kp12 (allS gn9 all0)
  have K15 := K11.trans kp12 (allS (Or.inr sz9) all0)
  have f16 := ((f3.ext E9).keep kp12)
  have f17 := ((f7.ext E9).keep kp12 (ninS nea_9 nin0))
  obtain ⟨T18, h18, X18, e18, W18, st18⟩ := putF X12 hx hZ12 hown12 (host := "") (Or.inl (ow30 hw)) Via.refl rfl f17 f16 (Or.inl (ow31 hw)) (ow2 hw) (ty := (.object "com/example/tx_at_boundaries/txatboundaries/mybatis/JoinedSessions$SessionRollback")) (by decide) rfl rfl (g := (mkF m 21 #[.val (.ref a)] [(.ref b9), (.ref a)])) rfl rfl (hb hby d_prog_38_method_2_code_21)
  have Fw18 := f17.same W18
  have CH19 := CH14.trans (CHr.wr W18 (Safe.exa hZ12.alike f16 (by decide) (by decide)) CH14.1)
  have hk19 := Nat.le_trans hk12 (Keep.of_wr W18).1
  have N20 := Fr.snoc X18 N13 ga
  have Ol20 := Ol15.wr W18 ga
  have K20 := K15.wr W18 (Or.inl (List.mem_of_getElem? (i := 0) rfl))
  have f21 := (((f4.ext E9).keep kp12 (ninS nea_9 nin0)).other W18 (Or.inr (slot_ne (Or.inl (ow29 hw)) (Or.inl (ow31 hw)) (by decide) (t := .boolean) (t' := (.object "com/example/tx_at_boundaries/txatboundaries/mybatis/JoinedSessions$SessionRollback")) (by decide) (by decide))))
  obtain ⟨fs, hretL, hrun, hended, hEnd⟩ := Stand.leaveW X18 hS12 (by rw [e18]; exact hk19) (v := none) (fun _ => rfl)
  have hCf : CHr Z EL0 s.vm s.heap T18.vm T18.heap := by rw [hh, e18]; exact CH19.trans (CHv.at X18 hZ12 (own_EW hw) CH19.1)
  refine ⟨_, _, pre0 _ ?_, hrun, hended, _, _, rfl, ?_, hCf, hEnd.1, hEnd.2.1, hEnd.2.2.1, hEnd.2.2.2.mono (by decide) (by decide)⟩
  · refine XS.aloadN X0.here hx rfl (hb hby d_prog_38_method_2_code_0) rfl rfl ?_
    show Steps p.tables e below (s₁.setTop (mkF m 1 #[.val (.ref a)] [(.ref a)])) _
    refine st1 _ ?_
    show Steps p.tables e below (T1.setTop (mkF m 3 #[.val (.ref a)] [(.ref b1), (.ref a)])) _
    refine st5.trans ?_
    show Steps p.tables e below (T5.setTop (mkF m 6 #[.val (.ref a)] [])) _
    refine XS.aloadN X5.here hx rfl (hb hby d_prog_38_method_2_code_6) rfl rfl ?_
    show Steps p.tables e below (T5.setTop (mkF m 7 #[.val (.ref a)] [(.ref a)])) _
    refine st8 _ ?_
    show Steps p.tables e below (T8.setTop (mkF m 10 #[.val (.ref a)] [.null])) _
    refine XS.ifnonnullNo X8.here hx rfl (hb hby d_prog_38_method_2_code_10) rfl ?_
    show Steps p.tables e below (T8.setTop (mkF m 13 #[.val (.ref a)] [])) _
    refine XS.aloadN X8.here hx rfl (hb hby d_prog_38_method_2_code_13) rfl rfl ?_
    show Steps p.tables e below (T8.setTop (mkF m 14 #[.val (.ref a)] [(.ref a)])) _
    refine st9 _ ?_
    show Steps p.tables e below (T9.setTop (mkF m 17 #[.val (.ref a)] [(.ref b9), (.ref a)])) _
    refine XS.dup X9.here hx rfl (hb hby d_prog_38_method_2_code_17) rfl rfl ?_
    show Steps p.tables e below (T9.setTop (mkF m 18 #[.val (.ref a)] [(.ref b9), (.ref b9), (.ref a)])) _
    refine st12.trans ?_
    show Steps p.tables e below (T12.setTop (mkF m 21 #[.val (.ref a)] [(.ref b9), (.ref a)])) _
    refine st18 _ ?_
    show Steps p.tables e below (T18.setTop (mkF m 24 #[.val (.ref a)] [])) _
    exact X18.returnOut hx Bd.returns (hb hby d_prog_38_method_2_code_24) hretL
  · show Q_rmrb Z a us se h0 n0 _ T18.heap _
    rw [e18]
    exact ⟨_, rfl, N20, K20, f21, Fw18⟩
def Q_rm0 (Z : State) (x0 : Int32) (x1 : Int32) (x2 : Int32) (x3 : Int32) (G1 : Int32) (us : Addr) (se : Addr) (h0 : Heap) (n0 : Nat) (v : Option Value) (h : Heap) (L : List Loc) : Prop := v = some (.int (1 : Int32)) ∧ Fr n0 L
theorem ef_rm0 (m : MethodId) (x0 : Int32) (x1 : Int32) (x2 : Int32) (x3 : Int32) : entryFrame m #[(.int x0), (.int x1), (.int x2), (.int x3)] maxLocals = mkF m 0 #[.val (.int x0), .val (.int x1), .val (.int x2), .val (.int x3), .unset, .unset, .unset, .unset, .unset, .unset, .unset, .unset, .unset] [] := by first | (simp [entryFrame, mkF, argsToLocals, Value.category, maxLocals]; done) | rfl
set_option maxRecDepth 65536 in
set_option maxHeartbeats 40000000 in
theorem rm0 (l : Launch) (Z : State) (a0 : Array Value) (hw : ∀ d ∈ tables_1, d.before a0 Z = true) (ws : List Jvm.Cond) (x0 : Int32) (x1 : Int32) (x2 : Int32) (x3 : Int32) (G1 : Int32) (us : Addr) (se : Addr) (h0 : Heap) (n0 : Nat) (O0 : Old Z n0 h0) (O2 : Sta Z Z.heap "java/lang/String" "COMPACT_STRINGS" "Z" (.int G1)) (P5 : ¬ (G1 = (0 : Int32))) (hst : l.stackTraces = true) (SU : Sta Z Z.heap "java/lang/Throwable" "UNASSIGNED_STACK" "[Ljava/lang/StackTraceElement;" (.ref us)) (SS : Sta Z Z.heap "java/lang/Throwable" "SUPPRESSED_SENTINEL" "Ljava/util/List;" (.ref se)) :
    MetFree l x (head1 (Jvm.Cond.code x code maxLocals ret :: ws) room_1) (fun aa U => aa = #[(.int x0), (.int x1), (.int x2), (.int x3)] ∧ Z.Warmed39 U.vm ∧ U.heap = h0 ∧ CHv Z EL0 U.vm h0) (fun _ _ bl st _ => st.vm.MethodsKnown ∧ st.vm.FramesKnown bl) (fun _ U o U' => ∃ v L, o = .returned v ∧ Q_rm0 Z x0 x1 x2 x3 G1 us se h0 n0 v U'.heap L ∧ CHr Z EL0 U.vm U.heap U'.vm U'.heap ∧ ReturnedEndW U o U' L 15 3085) := by
  refine MetFree.of_bodySF (plainFor_of_name pn6) hisR ?_
  intro p e s m args below meth c s₁ Bd hml0 hP hK
  obtain ⟨rfl, hZ, hh, hCH⟩ := hP
  have hx := Bd.exec
  have hby := Bd.bytes
  have hml : c.maxLocals = 13 := hml0
  have hown : s.vm.findClass "com/example/tx_at_boundaries/txatboundaries/mybatis/JoinedSessionsRequireRunningPinLaw" = some m.cls := findClass_of_methodNamed Bd.named
  have hnm := (name_of_methodNamed Bd.named Bd.method).1
  have X0 : Stand p l e room_1 (s.setVm s.vm) m #[(.int x0), (.int x1), (.int x2), (.int x3)] below meth c s₁ [] 0 0 := Stand.of_body Bd
  have e0 : s₁.heap = h0 := by rw [← hh, Bd.state]; rfl
  have N0 := Fr.nil n0
  have pre0 : ∀ tgt, Steps p.tables e below (s₁.setTop (mkF m 0 #[.val (.int x0), .val (.int x1), .val (.int x2), .val (.int x3), .unset, .unset, .unset, .unset, .unset, .unset, .unset, .unset, .unset] [])) tgt → Steps p.tables e below (s₁.setTop (entryFrame m #[(.int x0), (.int x1), (.int x2), (.int x3)] maxLocals)) tgt := fun tgt kgo => castTop (ef_rm0 m x0 x1 x2 x3) kgo
  have hZ0 := hZ
  have hS0 : s.Since s.vm 0 := (State.WarmedH.refl s).since 0
  have hk0 : 0 ≤ h0.size := Nat.zero_le _
  have CH0 : CHr Z EL0 s.vm h0 s.vm h0 := CHr.refl hCH
  obtain ⟨T1, h1, k1, X1, e1, E1, A1, st1⟩ := newP (aty := .char) X0 hx hZ (ow0 hw) e0 (g := (mkF m 1 #[.val (.int x0), .val (.int x1), .val (.int x2), .val (.int x3), .unset, .unset, .unset, .unset, .unset, .unset, .unset, .unset, .unset] [(.int (3 : Int32))])) rfl (hb hby at_1) rfl (by decide) (cap := 3) (by decide) (by decide) (by decide) (by decide)
  obtain ⟨b1, g1⟩ : ∃ z, z = h0.size := ⟨_, rfl⟩
  rw [← g1] at A1 st1
  have V1 : Arv Z h1 b1 k1 .char (3 : Int32) [(.int (0 : Int32)), (.int (0 : Int32)), (.int (0 : Int32))] (.int (0 : Int32)) := (Arv.new A1 (by decide)).pad (pad_rep [] (.int (0 : Int32)) 3)
  have gn1 : n0 ≤ b1 := Nat.le_trans (own_sz O0) (Nat.le_of_eq g1.symm)
  have Y1 := Safe.ext E1 CH0.1 (Safe.new (x := b1) (Nat.le_of_eq g1.symm))
  have CH2 := CH0.trans (CHr.ext E1 CH0.1)
  have hk2 := Nat.le_trans hk0 E1.1
  have Ol3 := O0.ext E1
  obtain ⟨cl4, Ar4, q4, S4, M4, H4, G4⟩ := id V1
  have hin4 : ¬ ((0 : Int32) < 0 ∨ cl4.slots.size ≤ ((0 : Int32)).toNatClampNeg) := inb_of S4 ⟨by decide, by decide⟩
  obtain ⟨T5, h5, X5, e5, W5, st5⟩ := stC X1 hx hZ e1 Ar4 (j := (0 : Int32)) hin4 (g := (mkF m 11 #[.val (.int x0), .val (.int x1), .val (.int x2), .val (.int x3), .unset, .unset, .unset, .unset, .unset, .unset, .unset, .unset, .unset] [(.int (x0 &&& (255 : Int32)).toUInt32.toUInt16.toUInt32.toInt32), (.int (0 : Int32)), (.ref b1), (.ref b1)])) rfl rfl (hb hby at_11)
  have V5 : Arv Z h5 b1 k1 .char (3 : Int32) [(.int (nar .char (x0 &&& (255 : Int32)).toUInt32.toUInt16.toUInt32.toInt32)), (.int (0 : Int32)), (.int (0 : Int32))] (.int (0 : Int32)) := Arv.set Ar4 q4 S4 M4 H4 G4 (fits_nar_char _) W5 0 rfl (Nat.le_of_ble_eq_true rfl)
  have CH6 := CH2.trans (CHr.wr W5 Y1 CH2.1)
  have hk6 := Nat.le_trans hk2 (Keep.of_wr W5).1
  have N7 := Fr.snoc X5 N0 gn1
  have Ol7 := Ol3.wr W5 gn1
  obtain ⟨cl8, Ar8, q8, S8, M8, H8, G8⟩ := id V5
  have hin8 : ¬ ((1 : Int32) < 0 ∨ cl8.slots.size ≤ ((1 : Int32)).toNatClampNeg) := inb_of S8 ⟨by decide, by decide⟩
  obtain ⟨T9, h9, X9, e9, W9, st9⟩ := stC X5 hx hZ e5 Ar8 (j := (1 : Int32)) hin8 (g := (mkF m 20 #[.val (.int x0), .val (.int x1), .val (.int x2), .val (.int x3), .unset, .unset, .unset, .unset, .unset, .unset, .unset, .unset, .unset] [(.int (x1 &&& (255 : Int32)).toUInt32.toUInt16.toUInt32.toInt32), (.int (1 : Int32)), (.ref b1), (.ref b1)])) rfl rfl (hb hby at_20)
  have V9 : Arv Z h9 b1 k1 .char (3 : Int32) [(.int (nar .char (x0 &&& (255 : Int32)).toUInt32.toUInt16.toUInt32.toInt32)), (.int (nar .char (x1 &&& (255 : Int32)).toUInt32.toUInt16.toUInt32.toInt32)), (.int (0 : Int32))] (.int (0 : Int32)) := Arv.set Ar8 q8 S8 M8 H8 G8 (fits_nar_char _) W9 1 rfl (Nat.le_of_ble_eq_true rfl)
  have f10 := (Safe.wr W5 Y1 CH2.1 Y1)
  have CH11 := CH6.trans (CHr.wr W9 f10 CH6.1)
  have hk11 := Nat.le_trans hk6 (Keep.of_wr W9).1
  have N12 := Fr.snoc X9 N7 gn1
  have Ol12 := Ol7.wr W9 gn1
  obtain ⟨cl13, Ar13, q13, S13, M13, H13, G13⟩ := id V9
  have hin13 : ¬ ((2 : Int32) < 0 ∨ cl13.slots.size ≤ ((2 : Int32)).toNatClampNeg) := inb_of S13 ⟨by decide, by decide⟩
  obtain ⟨T14, h14, X14, e14, W14, st14⟩ := stC X9 hx hZ e9 Ar13 (j := (2 : Int32)) hin13 (g := (mkF m 29 #[.val (.int x0), .val (.int x1), .val (.int x2), .val (.int x3), .unset, .unset, .unset, .unset, .unset, .unset, .unset, .unset, .unset] [(.int (x2 &&& (255 : Int32)).toUInt32.toUInt16.toUInt32.toInt32), (.int (2 : Int32)), (.ref b1), (.ref b1)])) rfl rfl (hb hby at_29)
  have V14 : Arv Z h14 b1 k1 .char (3 : Int32) [(.int (nar .char (x0 &&& (255 : Int32)).toUInt32.toUInt16.toUInt32.toInt32)), (.int (nar .char (x1 &&& (255 : Int32)).toUInt32.toUInt16.toUInt32.toInt32)), (.int (nar .char (x2 &&& (255 : Int32)).toUInt32.toUInt16.toUInt32.toInt32))] (.int (0 : Int32)) := Arv.set Ar13 q13 S13 M13 H13 G13 (fits_nar_char _) W14 2 rfl (Nat.le_of_ble_eq_true rfl)
  have f15 := (Safe.wr W9 f10 CH6.1 f10)
  have CH16 := CH11.trans (CHr.wr W14 f15 CH11.1)
  have hk16 := Nat.le_trans hk11 (Keep.of_wr W14).1
  have N17 := Fr.snoc X14 N12 gn1
  have Ol17 := Ol12.wr W14 gn1
  obtain ⟨T18, h18, k18, X18, e18, E18, A18, st18⟩ := newP (aty := .char) X14 hx hZ (ow0 hw) e14 (g := (mkF m 33 #[.val (.int x0), .val (.int x1), .val (.int x2), .val (.int x3), .val (.ref b1), .unset, .unset, .unset, .unset, .unset, .unset, .unset, .unset] [(.int (2 : Int32))])) rfl (hb hby at_33) rfl (by decide) (cap := 2) (by decide) (by decide) (by decide) (by decide)
  obtain ⟨b18, g18⟩ : ∃ z, z = h14.size := ⟨_, rfl⟩
  rw [← g18] at A18 st18
  have V18 : Arv Z h18 b18 k18 .char (2 : Int32) [(.int (0 : Int32)), (.int (0 : Int32))] (.int (0 : Int32)) := (Arv.new A18 (by decide)).pad (pad_rep [] (.int (0 : Int32)) 2)
  have gn18 : n0 ≤ b18 := Nat.le_trans (own_sz Ol17) (Nat.le_of_eq g18.symm)
  have neb1_18 : b1 ≠ b18 := Nat.ne_of_lt (Nat.lt_of_lt_of_le V14.lt (Nat.le_of_eq g18.symm))
  have Y18 := Safe.ext E18 CH16.1 (Safe.new (x := b18) (Nat.le_of_eq g18.symm))
  have CH19 := CH16.trans (CHr.ext E18 CH16.1)
  have hk19 := Nat.le_trans hk16 E18.1
  have Ol20 := Ol17.ext E18
  have f22 := (V14.ext E18)
  obtain ⟨cl21, Ar21, q21, S21, M21, H21, G21⟩ := id f22
  have hin21 : ¬ ((0 : Int32) < 0 ∨ cl21.slots.size ≤ ((0 : Int32)).toNatClampNeg) := inb_of S21 ⟨by decide, by decide⟩
  have hat21 : cl21.slots[((0 : Int32)).toNatClampNeg]? = some (.int (nar .char (x0 &&& (255 : Int32)).toUInt32.toUInt16.toUInt32.toInt32)) := H21.at hin21 rfl
  obtain ⟨cl23, Ar23, q23, S23, M23, H23, G23⟩ := id V18
  have hin23 : ¬ ((0 : Int32) < 0 ∨ cl23.slots.size ≤ ((0 : Int32)).toNatClampNeg) := inb_of S23 ⟨by decide, by decide⟩
  obtain ⟨T24, h24, X24, e24, W24, st24⟩ := stC X18 hx hZ e18 Ar23 (j := (0 : Int32)) hin23 (g := (mkF m 41 #[.val (.int x0), .val (.int x1), .val (.int x2), .val (.int x3), .val (.ref b1), .unset, .unset, .unset, .unset, .unset, .unset, .unset, .unset] [(.int (nar .char (x0 &&& (255 : Int32)).toUInt32.toUInt16.toUInt32.toInt32)), (.int (0 : Int32)), (.ref b18), (.ref b18)])) rfl rfl (hb hby at_41)
  have V24 : Arv Z h24 b18 k18 .char (2 : Int32) [(.int (nar .char (nar .char (x0 &&& (255 : Int32)).toUInt32.toUInt16.toUInt32.toInt32))), (.int (0 : Int32))] (.int (0 : Int32)) := Arv.set Ar23 q23 S23 M23 H23 G23 (fits_nar_char _) W24 0 rfl (Nat.le_of_ble_eq_true rfl)
  have CH25 := CH19.trans (CHr.wr W24 Y18 CH19.1)
  have hk25 := Nat.le_trans hk19 (Keep.of_wr W24).1
  have N26 := Fr.snoc X24 N17 gn18
  have Ol26 := Ol20.wr W24 gn18
  have f28 := (f22.other W24 neb1_18)
  obtain ⟨cl27, Ar27, q27, S27, M27, H27, G27⟩ := id f28
  have hin27 : ¬ ((1 : Int32) < 0 ∨ cl27.slots.size ≤ ((1 : Int32)).toNatClampNeg) := inb_of S27 ⟨by decide, by decide⟩
  have hat27 : cl27.slots[((1 : Int32)).toNatClampNeg]? = some (.int (nar .char (x1 &&& (255 : Int32)).toUInt32.toUInt16.toUInt32.toInt32)) := H27.at hin27 rfl
  obtain ⟨cl29, Ar29, q29, S29, M29, H29, G29⟩ := id V24
  have hin29 : ¬ ((1 : Int32) < 0 ∨ cl29.slots.size ≤ ((1 : Int32)).toNatClampNeg) := inb_of S29 ⟨by decide, by decide⟩
  obtain ⟨T30, h30, X30, e30, W30, st30⟩ := stC X24 hx hZ e24 Ar29 (j := (1 : Int32)) hin29 (g := (mkF m 48 #[.val (.int x0), .val (.int x1), .val (.int x2), .val (.int x3), .val (.ref b1), .unset, .unset, .unset, .unset, .unset, .unset, .unset, .unset] [(.int (nar .char (x1 &&& (255 : Int32)).toUInt32.toUInt16.toUInt32.toInt32)), (.int (1 : Int32)), (.ref b18), (.ref b18)])) rfl rfl (hb hby at_48)
  have V30 : Arv Z h30 b18 k18 .char (2 : Int32) [(.int (nar .char (nar .char (x0 &&& (255 : Int32)).toUInt32.toUInt16.toUInt32.toInt32))), (.int (nar .char (nar .char (x1 &&& (255 : Int32)).toUInt32.toUInt16.toUInt32.toInt32)))] (.int (0 : Int32)) := Arv.set Ar29 q29 S29 M29 H29 G29 (fits_nar_char _) W30 1 rfl (Nat.le_of_ble_eq_true rfl)
  have f31 := (Safe.wr W24 Y18 CH19.1 Y18)
  have CH32 := CH25.trans (CHr.wr W30 f31 CH25.1)
  have hk32 := Nat.le_trans hk25 (Keep.of_wr W30).1
  have N33 := Fr.snoc X30 N26 gn18
  have Ol33 := Ol26.wr W30 gn18
  have f34 := (f28.other W30 neb1_18)
  obtain ⟨T35, h35, k35, X35, e35, E35, A35, st35⟩ := newP (aty := .char) X30 hx hZ (ow0 hw) e30 (g := (mkF m 52 #[.val (.int x0), .val (.int x1), .val (.int x2), .val (.int x3), .val (.ref b1), .val (.ref b18), .unset, .unset, .unset, .unset, .unset, .unset, .unset] [(.int (0 : Int32))])) rfl (hb hby at_52) rfl (by decide) (cap := 0) (by decide) (by decide) (by decide) (by decide)
  obtain ⟨b35, g35⟩ : ∃ z, z = h30.size := ⟨_, rfl⟩
  rw [← g35] at A35 st35
  have V35 : Arv Z h35 b35 k35 .char (0 : Int32) [] (.int (0 : Int32)) := Arv.new A35 (by decide)
  have gn35 : n0 ≤ b35 := Nat.le_trans (own_sz Ol33) (Nat.le_of_eq g35.symm)
  have neb1_35 : b1 ≠ b35 := Nat.ne_of_lt (Nat.lt_of_lt_of_le f34.lt (Nat.le_of_eq g35.symm))
  have neb18_35 : b18 ≠ b35 := Nat.ne_of_lt (Nat.lt_of_lt_of_le V30.lt (Nat.le_of_eq g35.symm))
  have Y35 := Safe.ext E35 CH32.1 (Safe.new (x := b35) (Nat.le_of_eq g35.symm))
  have CH36 := CH32.trans (CHr.ext E35 CH32.1)
  have hk36 := Nat.le_trans hk32 E35.1
  have Ol37 := Ol33.ext E35
  have pre38 : ∀ tgt, Steps p.tables e below (T35.setTop (mkF m 64 #[.val (.int x0), .val (.int x1), .val (.int x2), .val (.int x3), .val (.ref b1), .val (.ref b18), .val (.ref b35), .val (.int (((x3.toUInt32 >>> ((1 : Int32) &&& 31).toUInt32).toInt32) &&& (7 : Int32))), .unset, .unset, .unset, .unset, .unset] [])) tgt → Steps p.tables e below (s₁.setTop (entryFrame m #[(.int x0), (.int x1), (.int x2), (.int x3)] maxLocals)) tgt := by
    intro tgt kgo
    refine pre0 _ ?_
    refine XS.iconst X0.here hx rfl (hb hby at_0) ?_
    show Steps p.tables e below (s₁.setTop (mkF m 1 #[.val (.int x0), .val (.int x1), .val (.int x2), .val (.int x3), .unset, .unset, .unset, .unset, .unset, .unset, .unset, .unset, .unset] [(.int (3 : Int32))])) _
    refine st1 _ ?_
    show Steps p.tables e below (T1.setTop (mkF m 3 #[.val (.int x0), .val (.int x1), .val (.int x2), .val (.int x3), .unset, .unset, .unset, .unset, .unset, .unset, .unset, .unset, .unset] [(.ref b1)])) _
    refine XS.dup X1.here hx rfl (hb hby at_3) rfl rfl ?_
    show Steps p.tables e below (T1.setTop (mkF m 4 #[.val (.int x0), .val (.int x1), .val (.int x2), .val (.int x3), .unset, .unset, .unset, .unset, .unset, .unset, .unset, .unset, .unset] [(.ref b1), (.ref b1)])) _
    refine XS.iconst X1.here hx rfl (hb hby at_4) ?_
    show Steps p.tables e below (T1.setTop (mkF m 5 #[.val (.int x0), .val (.int x1), .val (.int x2), .val (.int x3), .unset, .unset, .unset, .unset, .unset, .unset, .unset, .unset, .unset] [(.int (0 : Int32)), (.ref b1), (.ref b1)])) _
    refine XS.iloadN X1.here hx rfl (hb hby at_5) rfl ?_
    show Steps p.tables e below (T1.setTop (mkF m 6 #[.val (.int x0), .val (.int x1), .val (.int x2), .val (.int x3), .unset, .unset, .unset, .unset, .unset, .unset, .unset, .unset, .unset] [(.int x0), (.int (0 : Int32)), (.ref b1), (.ref b1)])) _
    refine XS.sipush X1.here hx rfl (hb hby at_6) ?_
    show Steps p.tables e below (T1.setTop (mkF m 9 #[.val (.int x0), .val (.int x1), .val (.int x2), .val (.int x3), .unset, .unset, .unset, .unset, .unset, .unset, .unset, .unset, .unset] [(.int (255 : Int32)), (.int x0), (.int (0 : Int32)), (.ref b1), (.ref b1)])) _
    refine XS.iand X1.here hx rfl (hb hby at_9) rfl ?_
    show Steps p.tables e below (T1.setTop (mkF m 10 #[.val (.int x0), .val (.int x1), .val (.int x2), .val (.int x3), .unset, .unset, .unset, .unset, .unset, .unset, .unset, .unset, .unset] [(.int (x0 &&& (255 : Int32))), (.int (0 : Int32)), (.ref b1), (.ref b1)])) _
    refine XS.i2c X1.here hx rfl (hb hby at_10) rfl ?_
    show Steps p.tables e below (T1.setTop (mkF m 11 #[.val (.int x0), .val (.int x1), .val (.int x2), .val (.int x3), .unset, .unset, .unset, .unset, .unset, .unset, .unset, .unset, .unset] [(.int (x0 &&& (255 : Int32)).toUInt32.toUInt16.toUInt32.toInt32), (.int (0 : Int32)), (.ref b1), (.ref b1)])) _
    refine st5 _ ?_
    show Steps p.tables e below (T5.setTop (mkF m 12 #[.val (.int x0), .val (.int x1), .val (.int x2), .val (.int x3), .unset, .unset, .unset, .unset, .unset, .unset, .unset, .unset, .unset] [(.ref b1)])) _
    refine XS.dup X5.here hx rfl (hb hby at_12) rfl rfl ?_
    show Steps p.tables e below (T5.setTop (mkF m 13 #[.val (.int x0), .val (.int x1), .val (.int x2), .val (.int x3), .unset, .unset, .unset, .unset, .unset, .unset, .unset, .unset, .unset] [(.ref b1), (.ref b1)])) _
    refine XS.iconst X5.here hx rfl (hb hby at_13) ?_
    show Steps p.tables e below (T5.setTop (mkF m 14 #[.val (.int x0), .val (.int x1), .val (.int x2), .val (.int x3), .unset, .unset, .unset, .unset, .unset, .unset, .unset, .unset, .unset] [(.int (1 : Int32)), (.ref b1), (.ref b1)])) _
    refine XS.iloadN X5.here hx rfl (hb hby at_14) rfl ?_
    show Steps p.tables e below (T5.setTop (mkF m 15 #[.val (.int x0), .val (.int x1), .val (.int x2), .val (.int x3), .unset, .unset, .unset, .unset, .unset, .unset, .unset, .unset, .unset] [(.int x1), (.int (1 : Int32)), (.ref b1), (.ref b1)])) _
    refine XS.sipush X5.here hx rfl (hb hby at_15) ?_
    show Steps p.tables e below (T5.setTop (mkF m 18 #[.val (.int x0), .val (.int x1), .val (.int x2), .val (.int x3), .unset, .unset, .unset, .unset, .unset, .unset, .unset, .unset, .unset] [(.int (255 : Int32)), (.int x1), (.int (1 : Int32)), (.ref b1), (.ref b1)])) _
    refine XS.iand X5.here hx rfl (hb hby at_18) rfl ?_
    show Steps p.tables e below (T5.setTop (mkF m 19 #[.val (.int x0), .val (.int x1), .val (.int x2), .val (.int x3), .unset, .unset, .unset, .unset, .unset, .unset, .unset, .unset, .unset] [(.int (x1 &&& (255 : Int32))), (.int (1 : Int32)), (.ref b1), (.ref b1)])) _
    refine XS.i2c X5.here hx rfl (hb hby at_19) rfl ?_
    show Steps p.tables e below (T5.setTop (mkF m 20 #[.val (.int x0), .val (.int x1), .val (.int x2), .val (.int x3), .unset, .unset, .unset, .unset, .unset, .unset, .unset, .unset, .unset] [(.int (x1 &&& (255 : Int32)).toUInt32.toUInt16.toUInt32.toInt32), (.int (1 : Int32)), (.ref b1), (.ref b1)])) _
    refine st9 _ ?_
    show Steps p.tables e below (T9.setTop (mkF m 21 #[.val (.int x0), .val (.int x1), .val (.int x2), .val (.int x3), .unset, .unset, .unset, .unset, .unset, .unset, .unset, .unset, .unset] [(.ref b1)])) _
    refine XS.dup X9.here hx rfl (hb hby at_21) rfl rfl ?_
    show Steps p.tables e below (T9.setTop (mkF m 22 #[.val (.int x0), .val (.int x1), .val (.int x2), .val (.int x3), .unset, .unset, .unset, .unset, .unset, .unset, .unset, .unset, .unset] [(.ref b1), (.ref b1)])) _
    refine XS.iconst X9.here hx rfl (hb hby at_22) ?_
    show Steps p.tables e below (T9.setTop (mkF m 23 #[.val (.int x0), .val (.int x1), .val (.int x2), .val (.int x3), .unset, .unset, .unset, .unset, .unset, .unset, .unset, .unset, .unset] [(.int (2 : Int32)), (.ref b1), (.ref b1)])) _
    refine XS.iloadN X9.here hx rfl (hb hby at_23) rfl ?_
    show Steps p.tables e below (T9.setTop (mkF m 24 #[.val (.int x0), .val (.int x1), .val (.int x2), .val (.int x3), .unset, .unset, .unset, .unset, .unset, .unset, .unset, .unset, .unset] [(.int x2), (.int (2 : Int32)), (.ref b1), (.ref b1)])) _
    refine XS.sipush X9.here hx rfl (hb hby at_24) ?_
    show Steps p.tables e below (T9.setTop (mkF m 27 #[.val (.int x0), .val (.int x1), .val (.int x2), .val (.int x3), .unset, .unset, .unset, .unset, .unset, .unset, .unset, .unset, .unset] [(.int (255 : Int32)), (.int x2), (.int (2 : Int32)), (.ref b1), (.ref b1)])) _
    refine XS.iand X9.here hx rfl (hb hby at_27) rfl ?_
    show Steps p.tables e below (T9.setTop (mkF m 28 #[.val (.int x0), .val (.int x1), .val (.int x2), .val (.int x3), .unset, .unset, .unset, .unset, .unset, .unset, .unset, .unset, .unset] [(.int (x2 &&& (255 : Int32))), (.int (2 : Int32)), (.ref b1), (.ref b1)])) _
    refine XS.i2c X9.here hx rfl (hb hby at_28) rfl ?_
    show Steps p.tables e below (T9.setTop (mkF m 29 #[.val (.int x0), .val (.int x1), .val (.int x2), .val (.int x3), .unset, .unset, .unset, .unset, .unset, .unset, .unset, .unset, .unset] [(.int (x2 &&& (255 : Int32)).toUInt32.toUInt16.toUInt32.toInt32), (.int (2 : Int32)), (.ref b1), (.ref b1)])) _
    refine st14 _ ?_
    show Steps p.tables e below (T14.setTop (mkF m 30 #[.val (.int x0), .val (.int x1), .val (.int x2), .val (.int x3), .unset, .unset, .unset, .unset, .unset, .unset, .unset, .unset, .unset] [(.ref b1)])) _
    refine XS.astore X14.here hx rfl (hb hby at_30) rfl rfl (l' := #[.val (.int x0), .val (.int x1), .val (.int x2), .val (.int x3), .val (.ref b1), .unset, .unset, .unset, .unset, .unset, .unset, .unset, .unset]) rfl ?_
    show Steps p.tables e below (T14.setTop (mkF m 32 #[.val (.int x0), .val (.int x1), .val (.int x2), .val (.int x3), .val (.ref b1), .unset, .unset, .unset, .unset, .unset, .unset, .unset, .unset] [])) _
    refine XS.iconst X14.here hx rfl (hb hby at_32) ?_
    show Steps p.tables e below (T14.setTop (mkF m 33 #[.val (.int x0), .val (.int x1), .val (.int x2), .val (.int x3), .val (.ref b1), .unset, .unset, .unset, .unset, .unset, .unset, .unset, .unset] [(.int (2 : Int32))])) _
    refine st18 _ ?_
    show Steps p.tables e below (T18.setTop (mkF m 35 #[.val (.int x0), .val (.int x1), .val (.int x2), .val (.int x3), .val (.ref b1), .unset, .unset, .unset, .unset, .unset, .unset, .unset, .unset] [(.ref b18)])) _
    refine XS.dup X18.here hx rfl (hb hby at_35) rfl rfl ?_
    show Steps p.tables e below (T18.setTop (mkF m 36 #[.val (.int x0), .val (.int x1), .val (.int x2), .val (.int x3), .val (.ref b1), .unset, .unset, .unset, .unset, .unset, .unset, .unset, .unset] [(.ref b18), (.ref b18)])) _
    refine XS.iconst X18.here hx rfl (hb hby at_36) ?_
    show Steps p.tables e below (T18.setTop (mkF m 37 #[.val (.int x0), .val (.int x1), .val (.int x2), .val (.int x3), .val (.ref b1), .unset, .unset, .unset, .unset, .unset, .unset, .unset, .unset] [(.int (0 : Int32)), (.ref b18), (.ref b18)])) _
    refine XS.aload X18.here hx rfl (hb hby at_37) rfl rfl ?_
    show Steps p.tables e below (T18.setTop (mkF m 39 #[.val (.int x0), .val (.int x1), .val (.int x2), .val (.int x3), .val (.ref b1), .unset, .unset, .unset, .unset, .unset, .unset, .unset, .unset] [(.ref b1), (.int (0 : Int32)), (.ref b18), (.ref b18)])) _
    refine XS.iconst X18.here hx rfl (hb hby at_39) ?_
    show Steps p.tables e below (T18.setTop (mkF m 40 #[.val (.int x0), .val (.int x1), .val (.int x2), .val (.int x3), .val (.ref b1), .unset, .unset, .unset, .unset, .unset, .unset, .unset, .unset] [(.int (0 : Int32)), (.ref b1), (.int (0 : Int32)), (.ref b18), (.ref b18)])) _
    refine X18.caload hx (j := (0 : Int32)) (v := (.int (nar .char (x0 &&& (255 : Int32)).toUInt32.toUInt16.toUInt32.toInt32))) (by rw [e18]; exact Ar21.1) (State.isArrayOf_alike hZ.alike Ar21.2.1) Ar21.2.2 hin21 hat21 (g := (mkF m 40 #[.val (.int x0), .val (.int x1), .val (.int x2), .val (.int x3), .val (.ref b1), .unset, .unset, .unset, .unset, .unset, .unset, .unset, .unset] [(.int (0 : Int32)), (.ref b1), (.int (0 : Int32)), (.ref b18), (.ref b18)])) rfl rfl (hb hby at_40) _ ?_
    show Steps p.tables e below (T18.setTop (mkF m 41 #[.val (.int x0), .val (.int x1), .val (.int x2), .val (.int x3), .val (.ref b1), .unset, .unset, .unset, .unset, .unset, .unset, .unset, .unset] [(.int (nar .char (x0 &&& (255 : Int32)).toUInt32.toUInt16.toUInt32.toInt32)), (.int (0 : Int32)), (.ref b18), (.ref b18)])) _
    refine st24 _ ?_
    show Steps p.tables e below (T24.setTop (mkF m 42 #[.val (.int x0), .val (.int x1), .val (.int x2), .val (.int x3), .val (.ref b1), .unset, .unset, .unset, .unset, .unset, .unset, .unset, .unset] [(.ref b18)])) _
    refine XS.dup X24.here hx rfl (hb hby at_42) rfl rfl ?_
    show Steps p.tables e below (T24.setTop (mkF m 43 #[.val (.int x0), .val (.int x1), .val (.int x2), .val (.int x3), .val (.ref b1), .unset, .unset, .unset, .unset, .unset, .unset, .unset, .unset] [(.ref b18), (.ref b18)])) _
    refine XS.iconst X24.here hx rfl (hb hby at_43) ?_
    show Steps p.tables e below (T24.setTop (mkF m 44 #[.val (.int x0), .val (.int x1), .val (.int x2), .val (.int x3), .val (.ref b1), .unset, .unset, .unset, .unset, .unset, .unset, .unset, .unset] [(.int (1 : Int32)), (.ref b18), (.ref b18)])) _
    refine XS.aload X24.here hx rfl (hb hby at_44) rfl rfl ?_
    show Steps p.tables e below (T24.setTop (mkF m 46 #[.val (.int x0), .val (.int x1), .val (.int x2), .val (.int x3), .val (.ref b1), .unset, .unset, .unset, .unset, .unset, .unset, .unset, .unset] [(.ref b1), (.int (1 : Int32)), (.ref b18), (.ref b18)])) _
    refine XS.iconst X24.here hx rfl (hb hby at_46) ?_
    show Steps p.tables e below (T24.setTop (mkF m 47 #[.val (.int x0), .val (.int x1), .val (.int x2), .val (.int x3), .val (.ref b1), .unset, .unset, .unset, .unset, .unset, .unset, .unset, .unset] [(.int (1 : Int32)), (.ref b1), (.int (1 : Int32)), (.ref b18), (.ref b18)])) _
    refine X24.caload hx (j := (1 : Int32)) (v := (.int (nar .char (x1 &&& (255 : Int32)).toUInt32.toUInt16.toUInt32.toInt32))) (by rw [e24]; exact Ar27.1) (State.isArrayOf_alike hZ.alike Ar27.2.1) Ar27.2.2 hin27 hat27 (g := (mkF m 47 #[.val (.int x0), .val (.int x1), .val (.int x2), .val (.int x3), .val (.ref b1), .unset, .unset, .unset, .unset, .unset, .unset, .unset, .unset] [(.int (1 : Int32)), (.ref b1), (.int (1 : Int32)), (.ref b18), (.ref b18)])) rfl rfl (hb hby at_47) _ ?_
    show Steps p.tables e below (T24.setTop (mkF m 48 #[.val (.int x0), .val (.int x1), .val (.int x2), .val (.int x3), .val (.ref b1), .unset, .unset, .unset, .unset, .unset, .unset, .unset, .unset] [(.int (nar .char (x1 &&& (255 : Int32)).toUInt32.toUInt16.toUInt32.toInt32)), (.int (1 : Int32)), (.ref b18), (.ref b18)])) _
    refine st30 _ ?_
    show Steps p.tables e below (T30.setTop (mkF m 49 #[.val (.int x0), .val (.int x1), .val (.int x2), .val (.int x3), .val (.ref b1), .unset, .unset, .unset, .unset, .unset, .unset, .unset, .unset] [(.ref b18)])) _
    refine XS.astore X30.here hx rfl (hb hby at_49) rfl rfl (l' := #[.val (.int x0), .val (.int x1), .val (.int x2), .val (.int x3), .val (.ref b1), .val (.ref b18), .unset, .unset, .unset, .unset, .unset, .unset, .unset]) rfl ?_
    show Steps p.tables e below (T30.setTop (mkF m 51 #[.val (.int x0), .val (.int x1), .val (.int x2), .val (.int x3), .val (.ref b1), .val (.ref b18), .unset, .unset, .unset, .unset, .unset, .unset, .unset] [])) _
    refine XS.iconst X30.here hx rfl (hb hby at_51) ?_
    show Steps p.tables e below (T30.setTop (mkF m 52 #[.val (.int x0), .val (.int x1), .val (.int x2), .val (.int x3), .val (.ref b1), .val (.ref b18), .unset, .unset, .unset, .unset, .unset, .unset, .unset] [(.int (0 : Int32))])) _
    refine st35 _ ?_
    show Steps p.tables e below (T35.setTop (mkF m 54 #[.val (.int x0), .val (.int x1), .val (.int x2), .val (.int x3), .val (.ref b1), .val (.ref b18), .unset, .unset, .unset, .unset, .unset, .unset, .unset] [(.ref b35)])) _
    refine XS.astore X35.here hx rfl (hb hby at_54) rfl rfl (l' := #[.val (.int x0), .val (.int x1), .val (.int x2), .val (.int x3), .val (.ref b1), .val (.ref b18), .val (.ref b35), .unset, .unset, .unset, .unset, .unset, .unset]) rfl ?_
    show Steps p.tables e below (T35.setTop (mkF m 56 #[.val (.int x0), .val (.int x1), .val (.int x2), .val (.int x3), .val (.ref b1), .val (.ref b18), .val (.ref b35), .unset, .unset, .unset, .unset, .unset, .unset] [])) _
    refine XS.iloadN X35.here hx rfl (hb hby at_56) rfl ?_
    show Steps p.tables e below (T35.setTop (mkF m 57 #[.val (.int x0), .val (.int x1), .val (.int x2), .val (.int x3), .val (.ref b1), .val (.ref b18), .val (.ref b35), .unset, .unset, .unset, .unset, .unset, .unset] [(.int x3)])) _
    refine XS.iconst X35.here hx rfl (hb hby at_57) ?_
    show Steps p.tables e below (T35.setTop (mkF m 58 #[.val (.int x0), .val (.int x1), .val (.int x2), .val (.int x3), .val (.ref b1), .val (.ref b18), .val (.ref b35), .unset, .unset, .unset, .unset, .unset, .unset] [(.int (1 : Int32)), (.int x3)])) _
    refine XS.iushr X35.here hx rfl (hb hby at_58) rfl ?_
    show Steps p.tables e below (T35.setTop (mkF m 59 #[.val (.int x0), .val (.int x1), .val (.int x2), .val (.int x3), .val (.ref b1), .val (.ref b18), .val (.ref b35), .unset, .unset, .unset, .unset, .unset, .unset] [(.int ((x3.toUInt32 >>> ((1 : Int32) &&& 31).toUInt32).toInt32))])) _
    refine XS.bipush X35.here hx rfl (hb hby at_59) ?_
    show Steps p.tables e below (T35.setTop (mkF m 61 #[.val (.int x0), .val (.int x1), .val (.int x2), .val (.int x3), .val (.ref b1), .val (.ref b18), .val (.ref b35), .unset, .unset, .unset, .unset, .unset, .unset] [(.int (7 : Int32)), (.int ((x3.toUInt32 >>> ((1 : Int32) &&& 31).toUInt32).toInt32))])) _
    refine XS.iand X35.here hx rfl (hb hby at_61) rfl ?_
    show Steps p.tables e below (T35.setTop (mkF m 62 #[.val (.int x0), .val (.int x1), .val (.int x2), .val (.int x3), .val (.ref b1), .val (.ref b18), .val (.ref b35), .unset, .unset, .unset, .unset, .unset, .unset] [(.int (((x3.toUInt32 >>> ((1 : Int32) &&& 31).toUInt32).toInt32) &&& (7 : Int32)))])) _
    refine XS.istore X35.here hx rfl (hb hby at_62) rfl (l' := #[.val (.int x0), .val (.int x1), .val (.int x2), .val (.int x3), .val (.ref b1), .val (.ref b18), .val (.ref b35), .val (.int (((x3.toUInt32 >>> ((1 : Int32) &&& 31).toUInt32).toInt32) &&& (7 : Int32))), .unset, .unset, .unset, .unset, .unset]) rfl ?_
    show Steps p.tables e below (T35.setTop (mkF m 64 #[.val (.int x0), .val (.int x1), .val (.int x2), .val (.int x3), .val (.ref b1), .val (.ref b18), .val (.ref b35), .val (.int (((x3.toUInt32 >>> ((1 : Int32) &&& 31).toUInt32).toInt32) &&& (7 : Int32))), .unset, .unset, .unset, .unset, .unset] [])) _
    exact kgo
  obtain ⟨mv, hmv⟩ : ∃ z, z = (((x3.toUInt32 >>> ((1 : Int32) &&& 31).toUInt32).toInt32) &&& (7 : Int32)) := ⟨_, rfl⟩
  have pre39 : ∀ tgt, Steps p.tables e below (T35.setTop (mkF m 64 #[.val (.int x0), .val (.int x1), .val (.int x2), .val (.int x3), .val (.ref b1), .val (.ref b18), .val (.ref b35), .val (.int mv), .unset, .unset, .unset, .unset, .unset] [])) tgt → Steps p.tables e below (s₁.setTop (entryFrame m #[(.int x0), (.int x1), (.int x2), (.int x3)] maxLocals)) tgt := by
    rw [hmv]; exact pre38
  have pre40 : ∀ tgt, Steps p.tables e below (T35.setTop (mkF m 66 #[.val (.int x0), .val (.int x1), .val (.int x2), .val (.int x3), .val (.ref b1), .val (.ref b18), .val (.ref b35), .val (.int mv), .unset, .unset, .unset, .unset, .unset] [(.int mv)])) tgt → Steps p.tables e below (s₁.setTop (entryFrame m #[(.int x0), (.int x1), (.int x2), (.int x3)] maxLocals)) tgt := by
    intro tgt kgo
    refine pre39 _ ?_
    refine XS.iload X35.here hx rfl (hb hby at_64) rfl ?_
    show Steps p.tables e below (T35.setTop (mkF m 66 #[.val (.int x0), .val (.int x1), .val (.int x2), .val (.int x3), .val (.ref b1), .val (.ref b18), .val (.ref b35), .val (.int mv), .unset, .unset, .unset, .unset, .unset] [(.int mv)])) _
    exact kgo
  by_cases hc66_41 : mv = (0 : Int32)
  · have pre42 : ∀ tgt, Steps p.tables e below (T35.setTop (mkF m 147 #[.val (.int x0), .val (.int x1), .val (.int x2), .val (.int x3), .val (.ref b1), .val (.ref b18), .val (.ref b35), .val (.int mv), .val .null, .unset, .unset, .unset, .unset] [(.int (x3 &&& (1 : Int32)))])) tgt → Steps p.tables e below (s₁.setTop (entryFrame m #[(.int x0), (.int x1), (.int x2), (.int x3)] maxLocals)) tgt := by
      intro tgt kgo
      refine pre40 _ ?_
      refine XS.ifNo X35.here hx rfl (hb hby at_66) rfl ((if0 _ _).trans (teq hc66_41).2) ?_
      show Steps p.tables e below (T35.setTop (mkF m 69 #[.val (.int x0), .val (.int x1), .val (.int x2), .val (.int x3), .val (.ref b1), .val (.ref b18), .val (.ref b35), .val (.int mv), .unset, .unset, .unset, .unset, .unset] [])) _
      refine XS.aconstNull X35.here hx rfl (hb hby at_69) ?_
      show Steps p.tables e below (T35.setTop (mkF m 70 #[.val (.int x0), .val (.int x1), .val (.int x2), .val (.int x3), .val (.ref b1), .val (.ref b18), .val (.ref b35), .val (.int mv), .unset, .unset, .unset, .unset, .unset] [.null])) _
      refine XS.astore X35.here hx rfl (hb hby at_70) rfl rfl (l' := #[.val (.int x0), .val (.int x1), .val (.int x2), .val (.int x3), .val (.ref b1), .val (.ref b18), .val (.ref b35), .val (.int mv), .val .null, .unset, .unset, .unset, .unset]) rfl ?_
      show Steps p.tables e below (T35.setTop (mkF m 72 #[.val (.int x0), .val (.int x1), .val (.int x2), .val (.int x3), .val (.ref b1), .val (.ref b18), .val (.ref b35), .val (.int mv), .val .null, .unset, .unset, .unset, .unset] [])) _
      refine XS.goto X35.here hx rfl (pc0 := 72) (pc' := 144) rfl (hb hby at_72) (by decide) (by decide) ?_
      show Steps p.tables e below (T35.setTop (mkF m 144 #[.val (.int x0), .val (.int x1), .val (.int x2), .val (.int x3), .val (.ref b1), .val (.ref b18), .val (.ref b35), .val (.int mv), .val .null, .unset, .unset, .unset, .unset] [])) _
      refine XS.iloadN X35.here hx rfl (hb hby at_144) rfl ?_
      show Steps p.tables e below (T35.setTop (mkF m 145 #[.val (.int x0), .val (.int x1), .val (.int x2), .val (.int x3), .val (.ref b1), .val (.ref b18), .val (.ref b35), .val (.int mv), .val .null, .unset, .unset, .unset, .unset] [(.int x3)])) _
      refine XS.iconst X35.here hx rfl (hb hby at_145) ?_
      show Steps p.tables e below (T35.setTop (mkF m 146 #[.val (.int x0), .val (.int x1), .val (.int x2), .val (.int x3), .val (.ref b1), .val (.ref b18), .val (.ref b35), .val (.int mv), .val .null, .unset, .unset, .unset, .unset] [(.int (1 : Int32)), (.int x3)])) _
      refine XS.iand X35.here hx rfl (hb hby at_146) rfl ?_
      show Steps p.tables e below (T35.setTop (mkF m 147 #[.val (.int x0), .val (.int x1), .val (.int x2), .val (.int x3), .val (.ref b1), .val (.ref b18), .val (.ref b35), .val (.int mv), .val .null, .unset, .unset, .unset, .unset] [(.int (x3 &&& (1 : Int32)))])) _
      exact kgo
    by_cases hc147_43 : (x3 &&& (1 : Int32)) = (0 : Int32)
    · have f44 := (f34.ext E35)
      have f45 := (V30.ext E35)
      obtain ⟨T46, h46, X46, e46, E46, A46, D46, U46, st46⟩ := newO X35 hx hZ hown (ow1 hw) (ow2 hw) (ow3 hw) e35 (g := (mkF m 157 #[.val (.int x0), .val (.int x1), .val (.int x2), .val (.int x3), .val (.ref b1), .val (.ref b18), .val (.ref b35), .val (.int mv), .val .null, .val (.int (0 : Int32)), .unset, .unset, .unset] [])) rfl (hb hby at_157) (by decide) (by decide)
      obtain ⟨b46, g46⟩ : ∃ z, z = h35.size := ⟨_, rfl⟩
      rw [← g46] at A46 D46 U46 st46
      have gn46 : n0 ≤ b46 := Nat.le_trans (own_sz Ol37) (Nat.le_of_eq g46.symm)
      have neb1_46 : b1 ≠ b46 := Nat.ne_of_lt (Nat.lt_of_lt_of_le f44.lt (Nat.le_of_eq g46.symm))
      have neb18_46 : b18 ≠ b46 := Nat.ne_of_lt (Nat.lt_of_lt_of_le f45.lt (Nat.le_of_eq g46.symm))
      have neb35_46 : b35 ≠ b46 := Nat.ne_of_lt (Nat.lt_of_lt_of_le V35.lt (Nat.le_of_eq g46.symm))
      have Y46 := Safe.ext E46 CH36.1 (Safe.new (x := b46) (Nat.le_of_eq g46.symm))
      have CH47 := CH36.trans (CHr.ext E46 CH36.1)
      have hk47 := Nat.le_trans hk36 E46.1
      have Ol48 := Ol37.ext E46
      have Fended_46 : Fld Z h46 b46 "com/example/tx_at_boundaries/txatboundaries/mybatis/JoinedSessions" "ended" "Z" (.int (0 : Int32)) := D46 (Or.inl (ow29 hw)) (ty := .boolean) (by decide)
      have Frollback_46 : Fld Z h46 b46 "com/example/tx_at_boundaries/txatboundaries/mybatis/JoinedSessions" "rollback" "Lcom/example/tx_at_boundaries/txatboundaries/mybatis/JoinedSessions$SessionRollback;" .null := D46 (Or.inl (ow31 hw)) (ty := (.object "com/example/tx_at_boundaries/txatboundaries/mybatis/JoinedSessions$SessionRollback")) (by decide)
      obtain ⟨_, _, ⟨T49, L49, k49, n49⟩, -, X49, ⟨Lc49, hQ49, l49, y49, z49⟩, st49⟩ := X46.specialBack hx (y := (⟨"com/example/tx_at_boundaries/txatboundaries/mybatis/JoinedSessions", "<init>", "()V"⟩ : MethodName)) rfl hown (mvT hZ (ow4 hw)) (mvT hZ (ow5 hw)) (mvT hZ (ow6 hw)) (by decide) (backOf (W := 1) (rmji l Z a0 hw [] b46  h46 n0 Ol48 ) hZ (ow6 hw) (ow3 hw) (by decide) (by decide)) (g := (mkF m 161 #[.val (.int x0), .val (.int x1), .val (.int x2), .val (.int x3), .val (.ref b1), .val (.ref b18), .val (.ref b35), .val (.int mv), .val .null, .val (.int (0 : Int32)), .unset, .unset, .unset] [(.ref b46), (.ref b46)])) rfl (by rw [hml]; rfl) (Steps.refl _) (a := b46) (argsL := []) (rest := [(.ref b46)]) (lenOf pd5 rfl) rfl (by show 2 * 0 + _ ≤ _; exact Nat.le_of_eq rfl) (hb hby at_161) (fun _ _ => ⟨rfl, e46, (by decide : 4 + 0 ≤ _), (by decide : 7 + 0 ≤ _)⟩)
      dsimp only [Pt.U, Pt.locs, Pt.cells, Pt.slots] at X49 l49 y49 z49 st49 hQ49
      subst l49 y49 z49
      obtain ⟨rfl, Nq49, eq49⟩ := hQ49
      have N50 := Fr.app N33 Nq49
      obtain ⟨cq51, kq51, q51a, q51b, q51c⟩ := isOf hZ eq49 A46
      obtain ⟨_, _, ⟨T51, L51, k51, n51⟩, -, X51, ⟨Lc51, hQ51, l51, y51, z51⟩, st51⟩ := X49.virtualBack hx (y := (⟨"com/example/tx_at_boundaries/txatboundaries/mybatis/JoinedSessions", "failure", "()Ljava/lang/Throwable;"⟩ : MethodName)) (z := (⟨"com/example/tx_at_boundaries/txatboundaries/mybatis/JoinedSessions", "failure", "()Ljava/lang/Throwable;"⟩ : MethodName)) hown (mvT hZ (ow87 hw)) (mvT hZ (ow88 hw)) (notFace_of_selects (args := #[]) (mvT hZ (ow90 hw))) (mvT hZ (ow90 hw)) (mvT hZ (ow89 hw)) (by decide) (backOf (W := 0) (rmfl l Z a0 hw [] b46 .null h46 n0 Ol48 rfl Frollback_46) hZ (ow91 hw) (ow3 hw) (by decide) (by decide)) q51a q51c (g := (mkF m 178 #[.val (.int x0), .val (.int x1), .val (.int x2), .val (.int x3), .val (.ref b1), .val (.ref b18), .val (.ref b35), .val (.int mv), .val .null, .val (.int (0 : Int32)), .val (.ref b46), .unset, .unset] [(.ref b46)])) rfl (by rw [hml]; rfl) (Steps.refl _) (argsL := []) (rest := []) (lenOf pd6 rfl) rfl (by show 2 * 0 + _ ≤ _; exact Nat.le_of_eq rfl) (hb hby at_178) (fun _ _ => ⟨rfl, eq49, (by decide : 4 + 0 ≤ _), (by decide : 7 + 0 ≤ _)⟩)
      dsimp only [Pt.U, Pt.locs, Pt.cells, Pt.slots] at X51 l51 y51 z51 st51 hQ51
      subst l51 y51 z51
      obtain ⟨rfl, Nq51, eq51⟩ := hQ51
      have N52 := Fr.app N50 Nq51
      obtain ⟨cq53, kq53, q53a, q53b, q53c⟩ := isOf hZ eq51 A46
      obtain ⟨_, _, ⟨T53, L53, k53, n53⟩, -, X53, ⟨Lc53, hQ53, l53, y53, z53⟩, st53⟩ := X51.virtualBack hx (y := (⟨"com/example/tx_at_boundaries/txatboundaries/mybatis/JoinedSessions", "requireRunning", "(Ljava/lang/String;)V"⟩ : MethodName)) (z := (⟨"com/example/tx_at_boundaries/txatboundaries/mybatis/JoinedSessions", "requireRunning", "(Ljava/lang/String;)V"⟩ : MethodName)) hown (mvT hZ (ow92 hw)) (mvT hZ (ow24 hw)) (notFace_of_selects (args := #[]) (mvT hZ (ow26 hw))) (mvT hZ (ow26 hw)) (mvT hZ (ow25 hw)) (by decide) (backOf (W := 0) (rmrq l Z a0 hw [] b46 .null  h46 n0 Ol48 rfl Fended_46) hZ (ow27 hw) (ow3 hw) (by decide) (by decide)) q53a q53c (g := (mkF m 187 #[.val (.int x0), .val (.int x1), .val (.int x2), .val (.int x3), .val (.ref b1), .val (.ref b18), .val (.ref b35), .val (.int mv), .val .null, .val (.int (0 : Int32)), .val (.ref b46), .val .null, .unset] [.null, (.ref b46)])) rfl (by rw [hml]; rfl) (Steps.refl _) (argsL := [.null]) (rest := []) (lenOf pd4 rfl) rfl (by show 2 * 0 + _ ≤ _; exact Nat.le_of_eq rfl) (hb hby at_187) (fun _ _ => ⟨rfl, eq51, (by decide : 4 + 0 ≤ _), (by decide : 7 + 0 ≤ _)⟩)
      dsimp only [Pt.U, Pt.locs, Pt.cells, Pt.slots] at X53 l53 y53 z53 st53 hQ53
      subst l53 y53 z53
      obtain ⟨rfl, Nq53, eq53⟩ := hQ53
      have N54 := Fr.app N52 Nq53
      obtain ⟨cq55, kq55, q55a, q55b, q55c⟩ := isOf hZ eq53 A46
      obtain ⟨_, _, ⟨T55, L55, k55, n55⟩, -, X55, ⟨Lc55, hQ55, l55, y55, z55⟩, st55⟩ := X53.virtualBack hx (y := (⟨"com/example/tx_at_boundaries/txatboundaries/mybatis/JoinedSessions", "requireRunning", "(Ljava/lang/String;)V"⟩ : MethodName)) (z := (⟨"com/example/tx_at_boundaries/txatboundaries/mybatis/JoinedSessions", "requireRunning", "(Ljava/lang/String;)V"⟩ : MethodName)) hown (mvT hZ (ow92 hw)) (mvT hZ (ow24 hw)) (notFace_of_selects (args := #[]) (mvT hZ (ow26 hw))) (mvT hZ (ow26 hw)) (mvT hZ (ow25 hw)) (by decide) (backOf (W := 0) (rmrq l Z a0 hw [] b46 .null  h46 n0 Ol48 rfl Fended_46) hZ (ow27 hw) (ow3 hw) (by decide) (by decide)) q55a q55c (g := (mkF m 194 #[.val (.int x0), .val (.int x1), .val (.int x2), .val (.int x3), .val (.ref b1), .val (.ref b18), .val (.ref b35), .val (.int mv), .val .null, .val (.int (0 : Int32)), .val (.ref b46), .val .null, .unset] [.null, (.ref b46)])) rfl (by rw [hml]; rfl) (Steps.refl _) (argsL := [.null]) (rest := []) (lenOf pd4 rfl) rfl (by show 2 * 0 + _ ≤ _; exact Nat.le_of_eq rfl) (hb hby at_194) (fun _ _ => ⟨rfl, eq53, (by decide : 4 + 0 ≤ _), (by decide : 7 + 0 ≤ _)⟩)
      dsimp only [Pt.U, Pt.locs, Pt.cells, Pt.slots] at X55 l55 y55 z55 st55 hQ55
      subst l55 y55 z55
      obtain ⟨rfl, Nq55, eq55⟩ := hQ55
      have N56 := Fr.app N54 Nq55
      obtain ⟨cq57, kq57, q57a, q57b, q57c⟩ := isOf hZ eq55 A46
      obtain ⟨_, _, ⟨T57, L57, k57, n57⟩, -, X57, ⟨Lc57, hQ57, l57, y57, z57⟩, st57⟩ := X55.virtualBack hx (y := (⟨"com/example/tx_at_boundaries/txatboundaries/mybatis/JoinedSessions", "failure", "()Ljava/lang/Throwable;"⟩ : MethodName)) (z := (⟨"com/example/tx_at_boundaries/txatboundaries/mybatis/JoinedSessions", "failure", "()Ljava/lang/Throwable;"⟩ : MethodName)) hown (mvT hZ (ow87 hw)) (mvT hZ (ow88 hw)) (notFace_of_selects (args := #[]) (mvT hZ (ow90 hw))) (mvT hZ (ow90 hw)) (mvT hZ (ow89 hw)) (by decide) (backOf (W := 0) (rmfl l Z a0 hw [] b46 .null h46 n0 Ol48 rfl Frollback_46) hZ (ow91 hw) (ow3 hw) (by decide) (by decide)) q57a q57c (g := (mkF m 199 #[.val (.int x0), .val (.int x1), .val (.int x2), .val (.int x3), .val (.ref b1), .val (.ref b18), .val (.ref b35), .val (.int mv), .val .null, .val (.int (0 : Int32)), .val (.ref b46), .val .null, .unset] [(.ref b46)])) rfl (by rw [hml]; rfl) (Steps.refl _) (argsL := []) (rest := []) (lenOf pd6 rfl) rfl (by show 2 * 0 + _ ≤ _; exact Nat.le_of_eq rfl) (hb hby at_199) (fun _ _ => ⟨rfl, eq55, (by decide : 4 + 0 ≤ _), (by decide : 7 + 0 ≤ _)⟩)
      dsimp only [Pt.U, Pt.locs, Pt.cells, Pt.slots] at X57 l57 y57 z57 st57 hQ57
      subst l57 y57 z57
      obtain ⟨rfl, Nq57, eq57⟩ := hQ57
      have N58 := Fr.app N56 Nq57
      obtain ⟨fs, hretL, hrun, hended, hEnd⟩ := Stand.leaveW X57 hS0 (by rw [eq57]; exact hk47) (v := some (.int (1 : Int32))) (fun h => by rw [Bd.returns] at h; cases h)
      have hCf : CHr Z EL0 s.vm s.heap T57.vm T57.heap := by rw [hh, eq57]; exact CH47.trans (CHv.at X57 hZ (own_EW hw) CH47.1)
      refine ⟨_, _, pre42 _ ?_, hrun, hended, _, _, rfl, ?_, hCf, hEnd.1, hEnd.2.1, hEnd.2.2.1, hEnd.2.2.2.mono (by decide) (by decide)⟩
      · refine XS.ifYes X35.here hx rfl (pc0 := 147) (pc' := 154) rfl (hb hby at_147) rfl ((if0 _ _).trans (teq hc147_43).1) (by decide) (by decide) ?_
        show Steps p.tables e below (T35.setTop (mkF m 154 #[.val (.int x0), .val (.int x1), .val (.int x2), .val (.int x3), .val (.ref b1), .val (.ref b18), .val (.ref b35), .val (.int mv), .val .null, .unset, .unset, .unset, .unset] [])) _
        refine XS.iconst X35.here hx rfl (hb hby at_154) ?_
        show Steps p.tables e below (T35.setTop (mkF m 155 #[.val (.int x0), .val (.int x1), .val (.int x2), .val (.int x3), .val (.ref b1), .val (.ref b18), .val (.ref b35), .val (.int mv), .val .null, .unset, .unset, .unset, .unset] [(.int (0 : Int32))])) _
        refine XS.istore X35.here hx rfl (hb hby at_155) rfl (l' := #[.val (.int x0), .val (.int x1), .val (.int x2), .val (.int x3), .val (.ref b1), .val (.ref b18), .val (.ref b35), .val (.int mv), .val .null, .val (.int (0 : Int32)), .unset, .unset, .unset]) rfl ?_
        show Steps p.tables e below (T35.setTop (mkF m 157 #[.val (.int x0), .val (.int x1), .val (.int x2), .val (.int x3), .val (.ref b1), .val (.ref b18), .val (.ref b35), .val (.int mv), .val .null, .val (.int (0 : Int32)), .unset, .unset, .unset] [])) _
        refine st46 _ ?_
        show Steps p.tables e below (T46.setTop (mkF m 160 #[.val (.int x0), .val (.int x1), .val (.int x2), .val (.int x3), .val (.ref b1), .val (.ref b18), .val (.ref b35), .val (.int mv), .val .null, .val (.int (0 : Int32)), .unset, .unset, .unset] [(.ref b46)])) _
        refine XS.dup X46.here hx rfl (hb hby at_160) rfl rfl ?_
        show Steps p.tables e below (T46.setTop (mkF m 161 #[.val (.int x0), .val (.int x1), .val (.int x2), .val (.int x3), .val (.ref b1), .val (.ref b18), .val (.ref b35), .val (.int mv), .val .null, .val (.int (0 : Int32)), .unset, .unset, .unset] [(.ref b46), (.ref b46)])) _
        refine st49.trans ?_
        show Steps p.tables e below (T49.setTop (mkF m 164 #[.val (.int x0), .val (.int x1), .val (.int x2), .val (.int x3), .val (.ref b1), .val (.ref b18), .val (.ref b35), .val (.int mv), .val .null, .val (.int (0 : Int32)), .unset, .unset, .unset] [(.ref b46)])) _
        refine XS.astore X49.here hx rfl (hb hby at_164) rfl rfl (l' := #[.val (.int x0), .val (.int x1), .val (.int x2), .val (.int x3), .val (.ref b1), .val (.ref b18), .val (.ref b35), .val (.int mv), .val .null, .val (.int (0 : Int32)), .val (.ref b46), .unset, .unset]) rfl ?_
        show Steps p.tables e below (T49.setTop (mkF m 166 #[.val (.int x0), .val (.int x1), .val (.int x2), .val (.int x3), .val (.ref b1), .val (.ref b18), .val (.ref b35), .val (.int mv), .val .null, .val (.int (0 : Int32)), .val (.ref b46), .unset, .unset] [])) _
        refine XS.iload X49.here hx rfl (hb hby at_166) rfl ?_
        show Steps p.tables e below (T49.setTop (mkF m 168 #[.val (.int x0), .val (.int x1), .val (.int x2), .val (.int x3), .val (.ref b1), .val (.ref b18), .val (.ref b35), .val (.int mv), .val .null, .val (.int (0 : Int32)), .val (.ref b46), .unset, .unset] [(.int (0 : Int32))])) _
        refine XS.ifYes X49.here hx rfl (pc0 := 168) (pc' := 176) rfl (hb hby at_168) rfl ((if0 _ _).trans (teq (by decide : (0 : Int32) = (0 : Int32))).1) (by decide) (by decide) ?_
        show Steps p.tables e below (T49.setTop (mkF m 176 #[.val (.int x0), .val (.int x1), .val (.int x2), .val (.int x3), .val (.ref b1), .val (.ref b18), .val (.ref b35), .val (.int mv), .val .null, .val (.int (0 : Int32)), .val (.ref b46), .unset, .unset] [])) _
        refine XS.aload X49.here hx rfl (hb hby at_176) rfl rfl ?_
        show Steps p.tables e below (T49.setTop (mkF m 178 #[.val (.int x0), .val (.int x1), .val (.int x2), .val (.int x3), .val (.ref b1), .val (.ref b18), .val (.ref b35), .val (.int mv), .val .null, .val (.int (0 : Int32)), .val (.ref b46), .unset, .unset] [(.ref b46)])) _
        refine st51.trans ?_
        show Steps p.tables e below (T51.setTop (mkF m 181 #[.val (.int x0), .val (.int x1), .val (.int x2), .val (.int x3), .val (.ref b1), .val (.ref b18), .val (.ref b35), .val (.int mv), .val .null, .val (.int (0 : Int32)), .val (.ref b46), .unset, .unset] [.null])) _
        refine XS.astore X51.here hx rfl (hb hby at_181) rfl rfl (l' := #[.val (.int x0), .val (.int x1), .val (.int x2), .val (.int x3), .val (.ref b1), .val (.ref b18), .val (.ref b35), .val (.int mv), .val .null, .val (.int (0 : Int32)), .val (.ref b46), .val .null, .unset]) rfl ?_
        show Steps p.tables e below (T51.setTop (mkF m 183 #[.val (.int x0), .val (.int x1), .val (.int x2), .val (.int x3), .val (.ref b1), .val (.ref b18), .val (.ref b35), .val (.int mv), .val .null, .val (.int (0 : Int32)), .val (.ref b46), .val .null, .unset] [])) _
        refine XS.aload X51.here hx rfl (hb hby at_183) rfl rfl ?_
        show Steps p.tables e below (T51.setTop (mkF m 185 #[.val (.int x0), .val (.int x1), .val (.int x2), .val (.int x3), .val (.ref b1), .val (.ref b18), .val (.ref b35), .val (.int mv), .val .null, .val (.int (0 : Int32)), .val (.ref b46), .val .null, .unset] [(.ref b46)])) _
        refine XS.aload X51.here hx rfl (hb hby at_185) rfl rfl ?_
        show Steps p.tables e below (T51.setTop (mkF m 187 #[.val (.int x0), .val (.int x1), .val (.int x2), .val (.int x3), .val (.ref b1), .val (.ref b18), .val (.ref b35), .val (.int mv), .val .null, .val (.int (0 : Int32)), .val (.ref b46), .val .null, .unset] [.null, (.ref b46)])) _
        refine st53.trans ?_
        show Steps p.tables e below (T53.setTop (mkF m 190 #[.val (.int x0), .val (.int x1), .val (.int x2), .val (.int x3), .val (.ref b1), .val (.ref b18), .val (.ref b35), .val (.int mv), .val .null, .val (.int (0 : Int32)), .val (.ref b46), .val .null, .unset] [])) _
        refine XS.aload X53.here hx rfl (hb hby at_190) rfl rfl ?_
        show Steps p.tables e below (T53.setTop (mkF m 192 #[.val (.int x0), .val (.int x1), .val (.int x2), .val (.int x3), .val (.ref b1), .val (.ref b18), .val (.ref b35), .val (.int mv), .val .null, .val (.int (0 : Int32)), .val (.ref b46), .val .null, .unset] [(.ref b46)])) _
        refine XS.aload X53.here hx rfl (hb hby at_192) rfl rfl ?_
        show Steps p.tables e below (T53.setTop (mkF m 194 #[.val (.int x0), .val (.int x1), .val (.int x2), .val (.int x3), .val (.ref b1), .val (.ref b18), .val (.ref b35), .val (.int mv), .val .null, .val (.int (0 : Int32)), .val (.ref b46), .val .null, .unset] [.null, (.ref b46)])) _
        refine st55.trans ?_
        show Steps p.tables e below (T55.setTop (mkF m 197 #[.val (.int x0), .val (.int x1), .val (.int x2), .val (.int x3), .val (.ref b1), .val (.ref b18), .val (.ref b35), .val (.int mv), .val .null, .val (.int (0 : Int32)), .val (.ref b46), .val .null, .unset] [])) _
        refine XS.aload X55.here hx rfl (hb hby at_197) rfl rfl ?_
        show Steps p.tables e below (T55.setTop (mkF m 199 #[.val (.int x0), .val (.int x1), .val (.int x2), .val (.int x3), .val (.ref b1), .val (.ref b18), .val (.ref b35), .val (.int mv), .val .null, .val (.int (0 : Int32)), .val (.ref b46), .val .null, .unset] [(.ref b46)])) _
        refine st57.trans ?_
        show Steps p.tables e below (T57.setTop (mkF m 202 #[.val (.int x0), .val (.int x1), .val (.int x2), .val (.int x3), .val (.ref b1), .val (.ref b18), .val (.ref b35), .val (.int mv), .val .null, .val (.int (0 : Int32)), .val (.ref b46), .val .null, .unset] [.null])) _
        refine XS.astore X57.here hx rfl (hb hby at_202) rfl rfl (l' := #[.val (.int x0), .val (.int x1), .val (.int x2), .val (.int x3), .val (.ref b1), .val (.ref b18), .val (.ref b35), .val (.int mv), .val .null, .val (.int (0 : Int32)), .val (.ref b46), .val .null, .val .null]) rfl ?_
        show Steps p.tables e below (T57.setTop (mkF m 204 #[.val (.int x0), .val (.int x1), .val (.int x2), .val (.int x3), .val (.ref b1), .val (.ref b18), .val (.ref b35), .val (.int mv), .val .null, .val (.int (0 : Int32)), .val (.ref b46), .val .null, .val .null] [])) _
        refine XS.aload X57.here hx rfl (hb hby at_204) rfl rfl ?_
        show Steps p.tables e below (T57.setTop (mkF m 206 #[.val (.int x0), .val (.int x1), .val (.int x2), .val (.int x3), .val (.ref b1), .val (.ref b18), .val (.ref b35), .val (.int mv), .val .null, .val (.int (0 : Int32)), .val (.ref b46), .val .null, .val .null] [.null])) _
        refine XS.aload X57.here hx rfl (hb hby at_206) rfl rfl ?_
        show Steps p.tables e below (T57.setTop (mkF m 208 #[.val (.int x0), .val (.int x1), .val (.int x2), .val (.int x3), .val (.ref b1), .val (.ref b18), .val (.ref b35), .val (.int mv), .val .null, .val (.int (0 : Int32)), .val (.ref b46), .val .null, .val .null] [.null, .null])) _
        refine Jvm.RoadKit.acmp (g := (mkF m 208 #[.val (.int x0), .val (.int x1), .val (.int x2), .val (.int x3), .val (.ref b1), .val (.ref b18), .val (.ref b35), .val (.int mv), .val .null, .val (.int (0 : Int32)), .val (.ref b46), .val .null, .val .null] [.null, .null])) X57 hx rfl rfl rfl (pc0 := 208) (pc' := 211) (same := true) rfl (hb hby at_208) rfl (decide_eq_true rfl) (by decide) (by decide) ?_
        show Steps p.tables e below (T57.setTop (mkF m 211 #[.val (.int x0), .val (.int x1), .val (.int x2), .val (.int x3), .val (.ref b1), .val (.ref b18), .val (.ref b35), .val (.int mv), .val .null, .val (.int (0 : Int32)), .val (.ref b46), .val .null, .val .null] [])) _
        refine XS.iload X57.here hx rfl (hb hby at_211) rfl ?_
        show Steps p.tables e below (T57.setTop (mkF m 213 #[.val (.int x0), .val (.int x1), .val (.int x2), .val (.int x3), .val (.ref b1), .val (.ref b18), .val (.ref b35), .val (.int mv), .val .null, .val (.int (0 : Int32)), .val (.ref b46), .val .null, .val .null] [(.int (0 : Int32))])) _
        refine XS.aload X57.here hx rfl (hb hby at_213) rfl rfl ?_
        show Steps p.tables e below (T57.setTop (mkF m 215 #[.val (.int x0), .val (.int x1), .val (.int x2), .val (.int x3), .val (.ref b1), .val (.ref b18), .val (.ref b35), .val (.int mv), .val .null, .val (.int (0 : Int32)), .val (.ref b46), .val .null, .val .null] [.null, (.int (0 : Int32))])) _
        refine XS.ifnullYes X57.here hx rfl (pc0 := 215) (pc' := 222) rfl (hb hby at_215) rfl (by decide) (by decide) ?_
        show Steps p.tables e below (T57.setTop (mkF m 222 #[.val (.int x0), .val (.int x1), .val (.int x2), .val (.int x3), .val (.ref b1), .val (.ref b18), .val (.ref b35), .val (.int mv), .val .null, .val (.int (0 : Int32)), .val (.ref b46), .val .null, .val .null] [(.int (0 : Int32))])) _
        refine XS.iconst X57.here hx rfl (hb hby at_222) ?_
        show Steps p.tables e below (T57.setTop (mkF m 223 #[.val (.int x0), .val (.int x1), .val (.int x2), .val (.int x3), .val (.ref b1), .val (.ref b18), .val (.ref b35), .val (.int mv), .val .null, .val (.int (0 : Int32)), .val (.ref b46), .val .null, .val .null] [(.int (0 : Int32)), (.int (0 : Int32))])) _
        refine XS.icmpNo X57.here hx rfl (hb hby at_223) rfl (teq (by decide : (0 : Int32) = (0 : Int32))).2 ?_
        show Steps p.tables e below (T57.setTop (mkF m 226 #[.val (.int x0), .val (.int x1), .val (.int x2), .val (.int x3), .val (.ref b1), .val (.ref b18), .val (.ref b35), .val (.int mv), .val .null, .val (.int (0 : Int32)), .val (.ref b46), .val .null, .val .null] [])) _
        refine XS.iconst X57.here hx rfl (hb hby at_226) ?_
        show Steps p.tables e below (T57.setTop (mkF m 227 #[.val (.int x0), .val (.int x1), .val (.int x2), .val (.int x3), .val (.ref b1), .val (.ref b18), .val (.ref b35), .val (.int mv), .val .null, .val (.int (0 : Int32)), .val (.ref b46), .val .null, .val .null] [(.int (1 : Int32))])) _
        refine XS.goto X57.here hx rfl (pc0 := 227) (pc' := 231) rfl (hb hby at_227) (by decide) (by decide) ?_
        show Steps p.tables e below (T57.setTop (mkF m 231 #[.val (.int x0), .val (.int x1), .val (.int x2), .val (.int x3), .val (.ref b1), .val (.ref b18), .val (.ref b35), .val (.int mv), .val .null, .val (.int (0 : Int32)), .val (.ref b46), .val .null, .val .null] [(.int (1 : Int32))])) _
        exact retOut X57 hx Bd.returns rfl (Or.inl ⟨rfl, Or.inr (Or.inl rfl), _, rfl⟩) (hb hby at_231) hretL
      · show Q_rm0 Z x0 x1 x2 x3 G1 us se h0 n0 _ T57.heap _
        rw [eq57]
        exact ⟨rfl, N58⟩
    · have f59 := (f34.ext E35)
      have f60 := (V30.ext E35)
      obtain ⟨T61, h61, X61, e61, E61, A61, D61, U61, st61⟩ := newO X35 hx hZ hown (ow1 hw) (ow2 hw) (ow3 hw) e35 (g := (mkF m 157 #[.val (.int x0), .val (.int x1), .val (.int x2), .val (.int x3), .val (.ref b1), .val (.ref b18), .val (.ref b35), .val (.int mv), .val .null, .val (.int (1 : Int32)), .unset, .unset, .unset] [])) rfl (hb hby at_157) (by decide) (by decide)
      obtain ⟨b61, g61⟩ : ∃ z, z = h35.size := ⟨_, rfl⟩
      rw [← g61] at A61 D61 U61 st61
      have gn61 : n0 ≤ b61 := Nat.le_trans (own_sz Ol37) (Nat.le_of_eq g61.symm)
      have neb1_61 : b1 ≠ b61 := Nat.ne_of_lt (Nat.lt_of_lt_of_le f59.lt (Nat.le_of_eq g61.symm))
      have neb18_61 : b18 ≠ b61 := Nat.ne_of_lt (Nat.lt_of_lt_of_le f60.lt (Nat.le_of_eq g61.symm))
      have neb35_61 : b35 ≠ b61 := Nat.ne_of_lt (Nat.lt_of_lt_of_le V35.lt (Nat.le_of_eq g61.symm))
      have Y61 := Safe.ext E61 CH36.1 (Safe.new (x := b61) (Nat.le_of_eq g61.symm))
      have CH62 := CH36.trans (CHr.ext E61 CH36.1)
      have hk62 := Nat.le_trans hk36 E61.1
      have Ol63 := Ol37.ext E61
      have Fended_61 : Fld Z h61 b61 "com/example/tx_at_boundaries/txatboundaries/mybatis/JoinedSessions" "ended" "Z" (.int (0 : Int32)) := D61 (Or.inl (ow29 hw)) (ty := .boolean) (by decide)
      have Frollback_61 : Fld Z h61 b61 "com/example/tx_at_boundaries/txatboundaries/mybatis/JoinedSessions" "rollback" "Lcom/example/tx_at_boundaries/txatboundaries/mybatis/JoinedSessions$SessionRollback;" .null := D61 (Or.inl (ow31 hw)) (ty := (.object "com/example/tx_at_boundaries/txatboundaries/mybatis/JoinedSessions$SessionRollback")) (by decide)
      obtain ⟨_, _, ⟨T64, L64, k64, n64⟩, -, X64, ⟨Lc64, hQ64, l64, y64, z64⟩, st64⟩ := X61.specialBack hx (y := (⟨"com/example/tx_at_boundaries/txatboundaries/mybatis/JoinedSessions", "<init>", "()V"⟩ : MethodName)) rfl hown (mvT hZ (ow4 hw)) (mvT hZ (ow5 hw)) (mvT hZ (ow6 hw)) (by decide) (backOf (W := 1) (rmji l Z a0 hw [] b61  h61 n0 Ol63 ) hZ (ow6 hw) (ow3 hw) (by decide) (by decide)) (g := (mkF m 161 #[.val (.int x0), .val (.int x1), .val (.int x2), .val (.int x3), .val (.ref b1), .val (.ref b18), .val (.ref b35), .val (.int mv), .val .null, .val (.int (1 : Int32)), .unset, .unset, .unset] [(.ref b61), (.ref b61)])) rfl (by rw [hml]; rfl) (Steps.refl _) (a := b61) (argsL := []) (rest := [(.ref b61)]) (lenOf pd5 rfl) rfl (by show 2 * 0 + _ ≤ _; exact Nat.le_of_eq rfl) (hb hby at_161) (fun _ _ => ⟨rfl, e61, (by decide : 4 + 0 ≤ _), (by decide : 7 + 0 ≤ _)⟩)
      dsimp only [Pt.U, Pt.locs, Pt.cells, Pt.slots] at X64 l64 y64 z64 st64 hQ64
      subst l64 y64 z64
      obtain ⟨rfl, Nq64, eq64⟩ := hQ64
      have N65 := Fr.app N33 Nq64
      obtain ⟨cq66, kq66, q66a, q66b, q66c⟩ := isOf hZ eq64 A61
      obtain ⟨_, _, ⟨T66, L66, k66, n66⟩, -, Xr66, hSr66, hgr66, ⟨Lc66, hQ66, l66, y66, z66, CR66⟩, st66⟩ := X64.virtualBackS hx (y := (⟨"com/example/tx_at_boundaries/txatboundaries/mybatis/JoinedSessions", "rollBack", "()V"⟩ : MethodName)) (z := (⟨"com/example/tx_at_boundaries/txatboundaries/mybatis/JoinedSessions", "rollBack", "()V"⟩ : MethodName)) hown (mvT hZ (ow10 hw)) (mvT hZ (ow11 hw)) (notFace_of_selects (args := #[]) (mvT hZ (ow13 hw))) (mvT hZ (ow13 hw)) (mvT hZ (ow12 hw)) (by decide) (backOfSKH (W := 0) (rmrb l Z a0 hw [] b61 us se h61 n0 Ol63 hst SU SS A61 Fended_61 Frollback_61 gn61) hZ (ow14 hw) (ow3 hw) (by decide) (by decide) (own_EW hw) CH62.1 (own_tk hZ0 hZ hK.1) (own_fk hZ0 hZ hK.2)) q66a q66c (g := (mkF m 173 #[.val (.int x0), .val (.int x1), .val (.int x2), .val (.int x3), .val (.ref b1), .val (.ref b18), .val (.ref b35), .val (.int mv), .val .null, .val (.int (1 : Int32)), .val (.ref b61), .unset, .unset] [(.ref b61)])) rfl (by rw [hml]; rfl) (Steps.refl _) (argsL := []) (rest := []) (lenOf pd5 rfl) rfl (by show 2 * 0 + _ ≤ _; exact Nat.le_of_eq rfl) (hb hby at_173) (fun _ _ => ⟨rfl, eq64, (by decide : 4 + 6 ≤ _), (by decide : 7 + 3066 ≤ _)⟩)
      dsimp only [Pt.U, Pt.locs, Pt.cells, Pt.slots] at Xr66 hSr66 hgr66 l66 y66 z66 CR66 st66 hQ66
      subst l66 y66 z66
      obtain ⟨X66, hS66, hZ66, hown66⟩ := rebS hS0 (by rw [eq64]; exact hk62) Xr66 hSr66 hgr66 hZ hown
      have hk66 : T66.heap.size ≤ T66.heap.size := Nat.le_refl _
      obtain ⟨r66, rfl, Nq66, kp66, fe66, fr66⟩ := hQ66
      have N67 := Fr.app N65 Nq66
      have f68 := (f59.ext E61)
      have f69 := (f60.ext E61)
      have f70 := (V35.ext E61)
      have CH71 := CH62.trans CR66
      have Ol72 := Ol63.keep kp66 (allS gn61 all0)
      have f74 := (A61.keep kp66)
      obtain ⟨cq73, kq73, q73a, q73b, q73c⟩ := isOf hZ66 rfl f74
      obtain ⟨_, _, ⟨T73, L73, k73, n73⟩, -, X73, ⟨Lc73, hQ73, l73, y73, z73⟩, st73⟩ := X66.virtualBack hx (y := (⟨"com/example/tx_at_boundaries/txatboundaries/mybatis/JoinedSessions", "failure", "()Ljava/lang/Throwable;"⟩ : MethodName)) (z := (⟨"com/example/tx_at_boundaries/txatboundaries/mybatis/JoinedSessions", "failure", "()Ljava/lang/Throwable;"⟩ : MethodName)) hown66 (mvT hZ66 (ow87 hw)) (mvT hZ66 (ow88 hw)) (notFace_of_selects (args := #[]) (mvT hZ66 (ow90 hw))) (mvT hZ66 (ow90 hw)) (mvT hZ66 (ow89 hw)) (by decide) (backOf (W := 0) (rmfl l Z a0 hw [] b61 (.ref r66) T66.heap n0 Ol72 rfl fr66) hZ66 (ow91 hw) (ow3 hw) (by decide) (by decide)) q73a q73c (g := (mkF m 178 #[.val (.int x0), .val (.int x1), .val (.int x2), .val (.int x3), .val (.ref b1), .val (.ref b18), .val (.ref b35), .val (.int mv), .val .null, .val (.int (1 : Int32)), .val (.ref b61), .unset, .unset] [(.ref b61)])) rfl (by rw [hml]; rfl) (Steps.refl _) (argsL := []) (rest := []) (lenOf pd6 rfl) rfl (by show 2 * 0 + _ ≤ _; exact Nat.le_of_eq rfl) (hb hby at_178) (fun _ _ => ⟨rfl, rfl, (by decide : 10 + 0 ≤ _), (by decide : 3073 + 0 ≤ _)⟩)
      dsimp only [Pt.U, Pt.locs, Pt.cells, Pt.slots] at X73 l73 y73 z73 st73 hQ73
      subst l73 y73 z73
      obtain ⟨rfl, Nq73, eq73⟩ := hQ73
      have N75 := Fr.app N67 Nq73
      obtain ⟨cq76, kq76, q76a, q76b, q76c⟩ := isOf hZ66 eq73 f74
      obtain ⟨_, _, ⟨T76, L76, k76, n76⟩, -, X76, ⟨Lc76, hQ76, l76, y76, z76⟩, st76⟩ := X73.virtualBack hx (y := (⟨"com/example/tx_at_boundaries/txatboundaries/mybatis/JoinedSessions", "requireRunning", "(Ljava/lang/String;)V"⟩ : MethodName)) (z := (⟨"com/example/tx_at_boundaries/txatboundaries/mybatis/JoinedSessions", "requireRunning", "(Ljava/lang/String;)V"⟩ : MethodName)) hown66 (mvT hZ66 (ow92 hw)) (mvT hZ66 (ow24 hw)) (notFace_of_selects (args := #[]) (mvT hZ66 (ow26 hw))) (mvT hZ66 (ow26 hw)) (mvT hZ66 (ow25 hw)) (by decide) (backOf (W := 0) (rmrq l Z a0 hw [] b61 .null  T66.heap n0 Ol72 rfl fe66) hZ66 (ow27 hw) (ow3 hw) (by decide) (by decide)) q76a q76c (g := (mkF m 187 #[.val (.int x0), .val (.int x1), .val (.int x2), .val (.int x3), .val (.ref b1), .val (.ref b18), .val (.ref b35), .val (.int mv), .val .null, .val (.int (1 : Int32)), .val (.ref b61), .val (.ref r66), .unset] [.null, (.ref b61)])) rfl (by rw [hml]; rfl) (Steps.refl _) (argsL := [.null]) (rest := []) (lenOf pd4 rfl) rfl (by show 2 * 0 + _ ≤ _; exact Nat.le_of_eq rfl) (hb hby at_187) (fun _ _ => ⟨rfl, eq73, (by decide : 10 + 0 ≤ _), (by decide : 3073 + 0 ≤ _)⟩)
      dsimp only [Pt.U, Pt.locs, Pt.cells, Pt.slots] at X76 l76 y76 z76 st76 hQ76
      subst l76 y76 z76
      obtain ⟨rfl, Nq76, eq76⟩ := hQ76
      have N77 := Fr.app N75 Nq76
      obtain ⟨cq78, kq78, q78a, q78b, q78c⟩ := isOf hZ66 eq76 f74
      obtain ⟨_, _, ⟨T78, L78, k78, n78⟩, -, X78, ⟨Lc78, hQ78, l78, y78, z78⟩, st78⟩ := X76.virtualBack hx (y := (⟨"com/example/tx_at_boundaries/txatboundaries/mybatis/JoinedSessions", "requireRunning", "(Ljava/lang/String;)V"⟩ : MethodName)) (z := (⟨"com/example/tx_at_boundaries/txatboundaries/mybatis/JoinedSessions", "requireRunning", "(Ljava/lang/String;)V"⟩ : MethodName)) hown66 (mvT hZ66 (ow92 hw)) (mvT hZ66 (ow24 hw)) (notFace_of_selects (args := #[]) (mvT hZ66 (ow26 hw))) (mvT hZ66 (ow26 hw)) (mvT hZ66 (ow25 hw)) (by decide) (backOf (W := 0) (rmrq l Z a0 hw [] b61 .null  T66.heap n0 Ol72 rfl fe66) hZ66 (ow27 hw) (ow3 hw) (by decide) (by decide)) q78a q78c (g := (mkF m 194 #[.val (.int x0), .val (.int x1), .val (.int x2), .val (.int x3), .val (.ref b1), .val (.ref b18), .val (.ref b35), .val (.int mv), .val .null, .val (.int (1 : Int32)), .val (.ref b61), .val (.ref r66), .unset] [.null, (.ref b61)])) rfl (by rw [hml]; rfl) (Steps.refl _) (argsL := [.null]) (rest := []) (lenOf pd4 rfl) rfl (by show 2 * 0 + _ ≤ _; exact Nat.le_of_eq rfl) (hb hby at_194) (fun _ _ => ⟨rfl, eq76, (by decide : 10 + 0 ≤ _), (by decide : 3073 + 0 ≤ _)⟩)
      dsimp only [Pt.U, Pt.locs, Pt.cells, Pt.slots] at X78 l78 y78 z78 st78 hQ78
      subst l78 y78 z78
      obtain ⟨rfl, Nq78, eq78⟩ := hQ78
      have N79 := Fr.app N77 Nq78
      obtain ⟨cq80, kq80, q80a, q80b, q80c⟩ := isOf hZ66 eq78 f74
      obtain ⟨_, _, ⟨T80, L80, k80, n80⟩, -, X80, ⟨Lc80, hQ80, l80, y80, z80⟩, st80⟩ := X78.virtualBack hx (y := (⟨"com/example/tx_at_boundaries/txatboundaries/mybatis/JoinedSessions", "failure", "()Ljava/lang/Throwable;"⟩ : MethodName)) (z := (⟨"com/example/tx_at_boundaries/txatboundaries/mybatis/JoinedSessions", "failure", "()Ljava/lang/Throwable;"⟩ : MethodName)) hown66 (mvT hZ66 (ow87 hw)) (mvT hZ66 (ow88 hw)) (notFace_of_selects (args := #[]) (mvT hZ66 (ow90 hw))) (mvT hZ66 (ow90 hw)) (mvT hZ66 (ow89 hw)) (by decide) (backOf (W := 0) (rmfl l Z a0 hw [] b61 (.ref r66) T66.heap n0 Ol72 rfl fr66) hZ66 (ow91 hw) (ow3 hw) (by decide) (by decide)) q80a q80c (g := (mkF m 199 #[.val (.int x0), .val (.int x1), .val (.int x2), .val (.int x3), .val (.ref b1), .val (.ref b18), .val (.ref b35), .val (.int mv), .val .null, .val (.int (1 : Int32)), .val (.ref b61), .val (.ref r66), .unset] [(.ref b61)])) rfl (by rw [hml]; rfl) (Steps.refl _) (argsL := []) (rest := []) (lenOf pd6 rfl) rfl (by show 2 * 0 + _ ≤ _; exact Nat.le_of_eq rfl) (hb hby at_199) (fun _ _ => ⟨rfl, eq78, (by decide : 10 + 0 ≤ _), (by decide : 3073 + 0 ≤ _)⟩)
      dsimp only [Pt.U, Pt.locs, Pt.cells, Pt.slots] at X80 l80 y80 z80 st80 hQ80
      subst l80 y80 z80
      obtain ⟨rfl, Nq80, eq80⟩ := hQ80
      have N81 := Fr.app N79 Nq80
      obtain ⟨fs, hretL, hrun, hended, hEnd⟩ := Stand.leaveW X80 hS66 (by rw [eq80]; exact hk66) (v := some (.int (1 : Int32))) (fun h => by rw [Bd.returns] at h; cases h)
      have hCf : CHr Z EL0 s.vm s.heap T80.vm T80.heap := by rw [hh, eq80]; exact CH71.trans (CHv.at X80 hZ66 (own_EW hw) CH71.1)
      refine ⟨_, _, pre42 _ ?_, hrun, hended, _, _, rfl, ?_, hCf, hEnd.1, hEnd.2.1, hEnd.2.2.1, hEnd.2.2.2.mono (by decide) (by decide)⟩
      · refine XS.ifNo X35.here hx rfl (hb hby at_147) rfl ((if0 _ _).trans (feq hc147_43).1) ?_
        show Steps p.tables e below (T35.setTop (mkF m 150 #[.val (.int x0), .val (.int x1), .val (.int x2), .val (.int x3), .val (.ref b1), .val (.ref b18), .val (.ref b35), .val (.int mv), .val .null, .unset, .unset, .unset, .unset] [])) _
        refine XS.iconst X35.here hx rfl (hb hby at_150) ?_
        show Steps p.tables e below (T35.setTop (mkF m 151 #[.val (.int x0), .val (.int x1), .val (.int x2), .val (.int x3), .val (.ref b1), .val (.ref b18), .val (.ref b35), .val (.int mv), .val .null, .unset, .unset, .unset, .unset] [(.int (1 : Int32))])) _
        refine XS.goto X35.here hx rfl (pc0 := 151) (pc' := 155) rfl (hb hby at_151) (by decide) (by decide) ?_
        show Steps p.tables e below (T35.setTop (mkF m 155 #[.val (.int x0), .val (.int x1), .val (.int x2), .val (.int x3), .val (.ref b1), .val (.ref b18), .val (.ref b35), .val (.int mv), .val .null, .unset, .unset, .unset, .unset] [(.int (1 : Int32))])) _
        refine XS.istore X35.here hx rfl (hb hby at_155) rfl (l' := #[.val (.int x0), .val (.int x1), .val (.int x2), .val (.int x3), .val (.ref b1), .val (.ref b18), .val (.ref b35), .val (.int mv), .val .null, .val (.int (1 : Int32)), .unset, .unset, .unset]) rfl ?_
        show Steps p.tables e below (T35.setTop (mkF m 157 #[.val (.int x0), .val (.int x1), .val (.int x2), .val (.int x3), .val (.ref b1), .val (.ref b18), .val (.ref b35), .val (.int mv), .val .null, .val (.int (1 : Int32)), .unset, .unset, .unset] [])) _
        refine st61 _ ?_
        show Steps p.tables e below (T61.setTop (mkF m 160 #[.val (.int x0), .val (.int x1), .val (.int x2), .val (.int x3), .val (.ref b1), .val (.ref b18), .val (.ref b35), .val (.int mv), .val .null, .val (.int (1 : Int32)), .unset, .unset, .unset] [(.ref b61)])) _
        refine XS.dup X61.here hx rfl (hb hby at_160) rfl rfl ?_
        show Steps p.tables e below (T61.setTop (mkF m 161 #[.val (.int x0), .val (.int x1), .val (.int x2), .val (.int x3), .val (.ref b1), .val (.ref b18), .val (.ref b35), .val (.int mv), .val .null, .val (.int (1 : Int32)), .unset, .unset, .unset] [(.ref b61), (.ref b61)])) _
        refine st64.trans ?_
        show Steps p.tables e below (T64.setTop (mkF m 164 #[.val (.int x0), .val (.int x1), .val (.int x2), .val (.int x3), .val (.ref b1), .val (.ref b18), .val (.ref b35), .val (.int mv), .val .null, .val (.int (1 : Int32)), .unset, .unset, .unset] [(.ref b61)])) _
        refine XS.astore X64.here hx rfl (hb hby at_164) rfl rfl (l' := #[.val (.int x0), .val (.int x1), .val (.int x2), .val (.int x3), .val (.ref b1), .val (.ref b18), .val (.ref b35), .val (.int mv), .val .null, .val (.int (1 : Int32)), .val (.ref b61), .unset, .unset]) rfl ?_
        show Steps p.tables e below (T64.setTop (mkF m 166 #[.val (.int x0), .val (.int x1), .val (.int x2), .val (.int x3), .val (.ref b1), .val (.ref b18), .val (.ref b35), .val (.int mv), .val .null, .val (.int (1 : Int32)), .val (.ref b61), .unset, .unset] [])) _
        refine XS.iload X64.here hx rfl (hb hby at_166) rfl ?_
        show Steps p.tables e below (T64.setTop (mkF m 168 #[.val (.int x0), .val (.int x1), .val (.int x2), .val (.int x3), .val (.ref b1), .val (.ref b18), .val (.ref b35), .val (.int mv), .val .null, .val (.int (1 : Int32)), .val (.ref b61), .unset, .unset] [(.int (1 : Int32))])) _
        refine XS.ifNo X64.here hx rfl (hb hby at_168) rfl ((if0 _ _).trans (feq (by decide : ¬ ((1 : Int32) = (0 : Int32)))).1) ?_
        show Steps p.tables e below (T64.setTop (mkF m 171 #[.val (.int x0), .val (.int x1), .val (.int x2), .val (.int x3), .val (.ref b1), .val (.ref b18), .val (.ref b35), .val (.int mv), .val .null, .val (.int (1 : Int32)), .val (.ref b61), .unset, .unset] [])) _
        refine XS.aload X64.here hx rfl (hb hby at_171) rfl rfl ?_
        show Steps p.tables e below (T64.setTop (mkF m 173 #[.val (.int x0), .val (.int x1), .val (.int x2), .val (.int x3), .val (.ref b1), .val (.ref b18), .val (.ref b35), .val (.int mv), .val .null, .val (.int (1 : Int32)), .val (.ref b61), .unset, .unset] [(.ref b61)])) _
        refine st66.trans ?_
        show Steps p.tables e below (T66.setTop (mkF m 176 #[.val (.int x0), .val (.int x1), .val (.int x2), .val (.int x3), .val (.ref b1), .val (.ref b18), .val (.ref b35), .val (.int mv), .val .null, .val (.int (1 : Int32)), .val (.ref b61), .unset, .unset] [])) _
        refine XS.aload X66.here hx rfl (hb hby at_176) rfl rfl ?_
        show Steps p.tables e below (T66.setTop (mkF m 178 #[.val (.int x0), .val (.int x1), .val (.int x2), .val (.int x3), .val (.ref b1), .val (.ref b18), .val (.ref b35), .val (.int mv), .val .null, .val (.int (1 : Int32)), .val (.ref b61), .unset, .unset] [(.ref b61)])) _
        refine st73.trans ?_
        show Steps p.tables e below (T73.setTop (mkF m 181 #[.val (.int x0), .val (.int x1), .val (.int x2), .val (.int x3), .val (.ref b1), .val (.ref b18), .val (.ref b35), .val (.int mv), .val .null, .val (.int (1 : Int32)), .val (.ref b61), .unset, .unset] [(.ref r66)])) _
        refine XS.astore X73.here hx rfl (hb hby at_181) rfl rfl (l' := #[.val (.int x0), .val (.int x1), .val (.int x2), .val (.int x3), .val (.ref b1), .val (.ref b18), .val (.ref b35), .val (.int mv), .val .null, .val (.int (1 : Int32)), .val (.ref b61), .val (.ref r66), .unset]) rfl ?_
        show Steps p.tables e below (T73.setTop (mkF m 183 #[.val (.int x0), .val (.int x1), .val (.int x2), .val (.int x3), .val (.ref b1), .val (.ref b18), .val (.ref b35), .val (.int mv), .val .null, .val (.int (1 : Int32)), .val (.ref b61), .val (.ref r66), .unset] [])) _
        refine XS.aload X73.here hx rfl (hb hby at_183) rfl rfl ?_
        show Steps p.tables e below (T73.setTop (mkF m 185 #[.val (.int x0), .val (.int x1), .val (.int x2), .val (.int x3), .val (.ref b1), .val (.ref b18), .val (.ref b35), .val (.int mv), .val .null, .val (.int (1 : Int32)), .val (.ref b61), .val (.ref r66), .unset] [(.ref b61)])) _
        refine XS.aload X73.here hx rfl (hb hby at_185) rfl rfl ?_
        show Steps p.tables e below (T73.setTop (mkF m 187 #[.val (.int x0), .val (.int x1), .val (.int x2), .val (.int x3), .val (.ref b1), .val (.ref b18), .val (.ref b35), .val (.int mv), .val .null, .val (.int (1 : Int32)), .val (.ref b61), .val (.ref r66), .unset] [.null, (.ref b61)])) _
        refine st76.trans ?_
        show Steps p.tables e below (T76.setTop (mkF m 190 #[.val (.int x0), .val (.int x1), .val (.int x2), .val (.int x3), .val (.ref b1), .val (.ref b18), .val (.ref b35), .val (.int mv), .val .null, .val (.int (1 : Int32)), .val (.ref b61), .val (.ref r66), .unset] [])) _
        refine XS.aload X76.here hx rfl (hb hby at_190) rfl rfl ?_
        show Steps p.tables e below (T76.setTop (mkF m 192 #[.val (.int x0), .val (.int x1), .val (.int x2), .val (.int x3), .val (.ref b1), .val (.ref b18), .val (.ref b35), .val (.int mv), .val .null, .val (.int (1 : Int32)), .val (.ref b61), .val (.ref r66), .unset] [(.ref b61)])) _
        refine XS.aload X76.here hx rfl (hb hby at_192) rfl rfl ?_
        show Steps p.tables e below (T76.setTop (mkF m 194 #[.val (.int x0), .val (.int x1), .val (.int x2), .val (.int x3), .val (.ref b1), .val (.ref b18), .val (.ref b35), .val (.int mv), .val .null, .val (.int (1 : Int32)), .val (.ref b61), .val (.ref r66), .unset] [.null, (.ref b61)])) _
        refine st78.trans ?_
        show Steps p.tables e below (T78.setTop (mkF m 197 #[.val (.int x0), .val (.int x1), .val (.int x2), .val (.int x3), .val (.ref b1), .val (.ref b18), .val (.ref b35), .val (.int mv), .val .null, .val (.int (1 : Int32)), .val (.ref b61), .val (.ref r66), .unset] [])) _
        refine XS.aload X78.here hx rfl (hb hby at_197) rfl rfl ?_
        show Steps p.tables e below (T78.setTop (mkF m 199 #[.val (.int x0), .val (.int x1), .val (.int x2), .val (.int x3), .val (.ref b1), .val (.ref b18), .val (.ref b35), .val (.int mv), .val .null, .val (.int (1 : Int32)), .val (.ref b61), .val (.ref r66), .unset] [(.ref b61)])) _
        refine st80.trans ?_
        show Steps p.tables e below (T80.setTop (mkF m 202 #[.val (.int x0), .val (.int x1), .val (.int x2), .val (.int x3), .val (.ref b1), .val (.ref b18), .val (.ref b35), .val (.int mv), .val .null, .val (.int (1 : Int32)), .val (.ref b61), .val (.ref r66), .unset] [(.ref r66)])) _
        refine XS.astore X80.here hx rfl (hb hby at_202) rfl rfl (l' := #[.val (.int x0), .val (.int x1), .val (.int x2), .val (.int x3), .val (.ref b1), .val (.ref b18), .val (.ref b35), .val (.int mv), .val .null, .val (.int (1 : Int32)), .val (.ref b61), .val (.ref r66), .val (.ref r66)]) rfl ?_
        show Steps p.tables e below (T80.setTop (mkF m 204 #[.val (.int x0), .val (.int x1), .val (.int x2), .val (.int x3), .val (.ref b1), .val (.ref b18), .val (.ref b35), .val (.int mv), .val .null, .val (.int (1 : Int32)), .val (.ref b61), .val (.ref r66), .val (.ref r66)] [])) _
        refine XS.aload X80.here hx rfl (hb hby at_204) rfl rfl ?_
        show Steps p.tables e below (T80.setTop (mkF m 206 #[.val (.int x0), .val (.int x1), .val (.int x2), .val (.int x3), .val (.ref b1), .val (.ref b18), .val (.ref b35), .val (.int mv), .val .null, .val (.int (1 : Int32)), .val (.ref b61), .val (.ref r66), .val (.ref r66)] [(.ref r66)])) _
        refine XS.aload X80.here hx rfl (hb hby at_206) rfl rfl ?_
        show Steps p.tables e below (T80.setTop (mkF m 208 #[.val (.int x0), .val (.int x1), .val (.int x2), .val (.int x3), .val (.ref b1), .val (.ref b18), .val (.ref b35), .val (.int mv), .val .null, .val (.int (1 : Int32)), .val (.ref b61), .val (.ref r66), .val (.ref r66)] [(.ref r66), (.ref r66)])) _
        refine Jvm.RoadKit.acmp (g := (mkF m 208 #[.val (.int x0), .val (.int x1), .val (.int x2), .val (.int x3), .val (.ref b1), .val (.ref b18), .val (.ref b35), .val (.int mv), .val .null, .val (.int (1 : Int32)), .val (.ref b61), .val (.ref r66), .val (.ref r66)] [(.ref r66), (.ref r66)])) X80 hx rfl rfl rfl (pc0 := 208) (pc' := 211) (same := true) rfl (hb hby at_208) rfl (decide_eq_true (congrArg Value.ref rfl)) (by decide) (by decide) ?_
        show Steps p.tables e below (T80.setTop (mkF m 211 #[.val (.int x0), .val (.int x1), .val (.int x2), .val (.int x3), .val (.ref b1), .val (.ref b18), .val (.ref b35), .val (.int mv), .val .null, .val (.int (1 : Int32)), .val (.ref b61), .val (.ref r66), .val (.ref r66)] [])) _
        refine XS.iload X80.here hx rfl (hb hby at_211) rfl ?_
        show Steps p.tables e below (T80.setTop (mkF m 213 #[.val (.int x0), .val (.int x1), .val (.int x2), .val (.int x3), .val (.ref b1), .val (.ref b18), .val (.ref b35), .val (.int mv), .val .null, .val (.int (1 : Int32)), .val (.ref b61), .val (.ref r66), .val (.ref r66)] [(.int (1 : Int32))])) _
        refine XS.aload X80.here hx rfl (hb hby at_213) rfl rfl ?_
        show Steps p.tables e below (T80.setTop (mkF m 215 #[.val (.int x0), .val (.int x1), .val (.int x2), .val (.int x3), .val (.ref b1), .val (.ref b18), .val (.ref b35), .val (.int mv), .val .null, .val (.int (1 : Int32)), .val (.ref b61), .val (.ref r66), .val (.ref r66)] [(.ref r66), (.int (1 : Int32))])) _
        refine XS.ifnullNo X80.here hx rfl (hb hby at_215) rfl ?_
        show Steps p.tables e below (T80.setTop (mkF m 218 #[.val (.int x0), .val (.int x1), .val (.int x2), .val (.int x3), .val (.ref b1), .val (.ref b18), .val (.ref b35), .val (.int mv), .val .null, .val (.int (1 : Int32)), .val (.ref b61), .val (.ref r66), .val (.ref r66)] [(.int (1 : Int32))])) _
        refine XS.iconst X80.here hx rfl (hb hby at_218) ?_
        show Steps p.tables e below (T80.setTop (mkF m 219 #[.val (.int x0), .val (.int x1), .val (.int x2), .val (.int x3), .val (.ref b1), .val (.ref b18), .val (.ref b35), .val (.int mv), .val .null, .val (.int (1 : Int32)), .val (.ref b61), .val (.ref r66), .val (.ref r66)] [(.int (1 : Int32)), (.int (1 : Int32))])) _
        refine XS.goto X80.here hx rfl (pc0 := 219) (pc' := 223) rfl (hb hby at_219) (by decide) (by decide) ?_
        show Steps p.tables e below (T80.setTop (mkF m 223 #[.val (.int x0), .val (.int x1), .val (.int x2), .val (.int x3), .val (.ref b1), .val (.ref b18), .val (.ref b35), .val (.int mv), .val .null, .val (.int (1 : Int32)), .val (.ref b61), .val (.ref r66), .val (.ref r66)] [(.int (1 : Int32)), (.int (1 : Int32))])) _
        refine XS.icmpNo X80.here hx rfl (hb hby at_223) rfl (teq (by decide : (1 : Int32) = (1 : Int32))).2 ?_
        show Steps p.tables e below (T80.setTop (mkF m 226 #[.val (.int x0), .val (.int x1), .val (.int x2), .val (.int x3), .val (.ref b1), .val (.ref b18), .val (.ref b35), .val (.int mv), .val .null, .val (.int (1 : Int32)), .val (.ref b61), .val (.ref r66), .val (.ref r66)] [])) _
        refine XS.iconst X80.here hx rfl (hb hby at_226) ?_
        show Steps p.tables e below (T80.setTop (mkF m 227 #[.val (.int x0), .val (.int x1), .val (.int x2), .val (.int x3), .val (.ref b1), .val (.ref b18), .val (.ref b35), .val (.int mv), .val .null, .val (.int (1 : Int32)), .val (.ref b61), .val (.ref r66), .val (.ref r66)] [(.int (1 : Int32))])) _
        refine XS.goto X80.here hx rfl (pc0 := 227) (pc' := 231) rfl (hb hby at_227) (by decide) (by decide) ?_
        show Steps p.tables e below (T80.setTop (mkF m 231 #[.val (.int x0), .val (.int x1), .val (.int x2), .val (.int x3), .val (.ref b1), .val (.ref b18), .val (.ref b35), .val (.int mv), .val .null, .val (.int (1 : Int32)), .val (.ref b61), .val (.ref r66), .val (.ref r66)] [(.int (1 : Int32))])) _
        exact retOut X80 hx Bd.returns rfl (Or.inl ⟨rfl, Or.inr (Or.inl rfl), _, rfl⟩) (hb hby at_231) hretL
      · show Q_rm0 Z x0 x1 x2 x3 G1 us se h0 n0 _ T80.heap _
        rw [eq80]
        exact ⟨rfl, N81⟩
  · have pre82 : ∀ tgt, Steps p.tables e below (T35.setTop (mkF m 78 #[.val (.int x0), .val (.int x1), .val (.int x2), .val (.int x3), .val (.ref b1), .val (.ref b18), .val (.ref b35), .val (.int mv), .unset, .unset, .unset, .unset, .unset] [(.int (1 : Int32)), (.int mv)])) tgt → Steps p.tables e below (s₁.setTop (entryFrame m #[(.int x0), (.int x1), (.int x2), (.int x3)] maxLocals)) tgt := by
      intro tgt kgo
      refine pre40 _ ?_
      refine XS.ifYes X35.here hx rfl (pc0 := 66) (pc' := 75) rfl (hb hby at_66) rfl ((if0 _ _).trans (feq hc66_41).2) (by decide) (by decide) ?_
      show Steps p.tables e below (T35.setTop (mkF m 75 #[.val (.int x0), .val (.int x1), .val (.int x2), .val (.int x3), .val (.ref b1), .val (.ref b18), .val (.ref b35), .val (.int mv), .unset, .unset, .unset, .unset, .unset] [])) _
      refine XS.iload X35.here hx rfl (hb hby at_75) rfl ?_
      show Steps p.tables e below (T35.setTop (mkF m 77 #[.val (.int x0), .val (.int x1), .val (.int x2), .val (.int x3), .val (.ref b1), .val (.ref b18), .val (.ref b35), .val (.int mv), .unset, .unset, .unset, .unset, .unset] [(.int mv)])) _
      refine XS.iconst X35.here hx rfl (hb hby at_77) ?_
      show Steps p.tables e below (T35.setTop (mkF m 78 #[.val (.int x0), .val (.int x1), .val (.int x2), .val (.int x3), .val (.ref b1), .val (.ref b18), .val (.ref b35), .val (.int mv), .unset, .unset, .unset, .unset, .unset] [(.int (1 : Int32)), (.int mv)])) _
      exact kgo
    by_cases hc78_83 : mv = (1 : Int32)
    · have f84 := (f34.ext E35)
      have f85 := (V30.ext E35)
      obtain ⟨T86, h86, X86, e86, E86, A86, D86, U86, st86⟩ := newO X35 hx hZ hown (ow93 hw) (ow17 hw) (ow16 hw) e35 (g := (mkF m 81 #[.val (.int x0), .val (.int x1), .val (.int x2), .val (.int x3), .val (.ref b1), .val (.ref b18), .val (.ref b35), .val (.int mv), .unset, .unset, .unset, .unset, .unset] [])) rfl (hb hby at_81) (by decide) (by decide)
      obtain ⟨b86, g86⟩ : ∃ z, z = h35.size := ⟨_, rfl⟩
      rw [← g86] at A86 D86 U86 st86
      have gn86 : n0 ≤ b86 := Nat.le_trans (own_sz Ol37) (Nat.le_of_eq g86.symm)
      have neb1_86 : b1 ≠ b86 := Nat.ne_of_lt (Nat.lt_of_lt_of_le f84.lt (Nat.le_of_eq g86.symm))
      have neb18_86 : b18 ≠ b86 := Nat.ne_of_lt (Nat.lt_of_lt_of_le f85.lt (Nat.le_of_eq g86.symm))
      have neb35_86 : b35 ≠ b86 := Nat.ne_of_lt (Nat.lt_of_lt_of_le V35.lt (Nat.le_of_eq g86.symm))
      have Y86 := Safe.ext E86 CH36.1 (Safe.new (x := b86) (Nat.le_of_eq g86.symm))
      have CH87 := CH36.trans (CHr.ext E86 CH36.1)
      have hk87 := Nat.le_trans hk36 E86.1
      have Ol88 := Ol37.ext E86
      have Fvalue_86 : Fld Z h86 b86 "java/lang/String" "value" "[B" .null := D86 (Or.inr (ow19 hw)) (ty := (.array .byte)) (by decide)
      have Fcoder_86 : Fld Z h86 b86 "java/lang/String" "coder" "B" (.int (0 : Int32)) := D86 (Or.inr (ow20 hw)) (ty := .byte) (by decide)
      have f89 := (V35.ext E86)
      obtain ⟨_, _, ⟨T90, L90, k90, n90⟩, -, Xr90, hSr90, hgr90, ⟨Lc90, hQ90, l90, y90, z90, CR90⟩, st90⟩ := X86.specialBackS hx (y := (⟨"java/lang/String", "<init>", "([C)V"⟩ : MethodName)) rfl hown (mvT hZ (ow94 hw)) (mvT hZ (ow95 hw)) (mvT hZ (ow96 hw)) (by decide) (backOfSH (W := 1) (rme1 l Z a0 hw [] b86 b35 k35  h86 n0 Ol88 A86 Fvalue_86 Fcoder_86 gn86 f89) hZ (ow96 hw) (ow16 hw) (by decide) (by decide) (own_EW hw) CH87.1) (g := (mkF m 87 #[.val (.int x0), .val (.int x1), .val (.int x2), .val (.int x3), .val (.ref b1), .val (.ref b18), .val (.ref b35), .val (.int mv), .unset, .unset, .unset, .unset, .unset] [(.ref b35), (.ref b86), (.ref b86)])) rfl (by rw [hml]; rfl) (Steps.refl _) (a := b86) (argsL := [(.ref b35)]) (rest := [(.ref b86)]) (lenOf pd7 rfl) rfl (by show 2 * 0 + _ ≤ _; exact Nat.le_of_eq rfl) (hb hby at_87) (fun _ _ => ⟨rfl, e86, (by decide : 4 + 4 ≤ _), (by decide : 9 + 8 ≤ _)⟩)
      dsimp only [Pt.U, Pt.locs, Pt.cells, Pt.slots] at Xr90 hSr90 hgr90 l90 y90 z90 CR90 st90 hQ90
      subst l90 y90 z90
      obtain ⟨X90, hS90, hZ90, hown90⟩ := rebS hS0 (by rw [e86]; exact hk87) Xr90 hSr90 hgr90 hZ hown
      have hk90 : T90.heap.size ≤ T90.heap.size := Nat.le_refl _
      obtain ⟨rfl, Nq90, kp90, -⟩ := hQ90
      have N91 := Fr.app N33 Nq90
      have f92 := (f84.ext E86)
      have f93 := (f85.ext E86)
      have CH94 := CH87.trans CR90
      have Ol95 := Ol88.keep kp90 (allS gn86 all0)
      have pre96 : ∀ tgt, Steps p.tables e below (T90.setTop (mkF m 147 #[.val (.int x0), .val (.int x1), .val (.int x2), .val (.int x3), .val (.ref b1), .val (.ref b18), .val (.ref b35), .val (.int mv), .val (.ref b86), .unset, .unset, .unset, .unset] [(.int (x3 &&& (1 : Int32)))])) tgt → Steps p.tables e below (s₁.setTop (entryFrame m #[(.int x0), (.int x1), (.int x2), (.int x3)] maxLocals)) tgt := by
        intro tgt kgo
        refine pre82 _ ?_
        refine XS.icmpNo X35.here hx rfl (hb hby at_78) rfl (teq hc78_83).2 ?_
        show Steps p.tables e below (T35.setTop (mkF m 81 #[.val (.int x0), .val (.int x1), .val (.int x2), .val (.int x3), .val (.ref b1), .val (.ref b18), .val (.ref b35), .val (.int mv), .unset, .unset, .unset, .unset, .unset] [])) _
        refine st86 _ ?_
        show Steps p.tables e below (T86.setTop (mkF m 84 #[.val (.int x0), .val (.int x1), .val (.int x2), .val (.int x3), .val (.ref b1), .val (.ref b18), .val (.ref b35), .val (.int mv), .unset, .unset, .unset, .unset, .unset] [(.ref b86)])) _
        refine XS.dup X86.here hx rfl (hb hby at_84) rfl rfl ?_
        show Steps p.tables e below (T86.setTop (mkF m 85 #[.val (.int x0), .val (.int x1), .val (.int x2), .val (.int x3), .val (.ref b1), .val (.ref b18), .val (.ref b35), .val (.int mv), .unset, .unset, .unset, .unset, .unset] [(.ref b86), (.ref b86)])) _
        refine XS.aload X86.here hx rfl (hb hby at_85) rfl rfl ?_
        show Steps p.tables e below (T86.setTop (mkF m 87 #[.val (.int x0), .val (.int x1), .val (.int x2), .val (.int x3), .val (.ref b1), .val (.ref b18), .val (.ref b35), .val (.int mv), .unset, .unset, .unset, .unset, .unset] [(.ref b35), (.ref b86), (.ref b86)])) _
        refine st90.trans ?_
        show Steps p.tables e below (T90.setTop (mkF m 90 #[.val (.int x0), .val (.int x1), .val (.int x2), .val (.int x3), .val (.ref b1), .val (.ref b18), .val (.ref b35), .val (.int mv), .unset, .unset, .unset, .unset, .unset] [(.ref b86)])) _
        refine XS.astore X90.here hx rfl (hb hby at_90) rfl rfl (l' := #[.val (.int x0), .val (.int x1), .val (.int x2), .val (.int x3), .val (.ref b1), .val (.ref b18), .val (.ref b35), .val (.int mv), .val (.ref b86), .unset, .unset, .unset, .unset]) rfl ?_
        show Steps p.tables e below (T90.setTop (mkF m 92 #[.val (.int x0), .val (.int x1), .val (.int x2), .val (.int x3), .val (.ref b1), .val (.ref b18), .val (.ref b35), .val (.int mv), .val (.ref b86), .unset, .unset, .unset, .unset] [])) _
        refine XS.goto X90.here hx rfl (pc0 := 92) (pc' := 144) rfl (hb hby at_92) (by decide) (by decide) ?_
        show Steps p.tables e below (T90.setTop (mkF m 144 #[.val (.int x0), .val (.int x1), .val (.int x2), .val (.int x3), .val (.ref b1), .val (.ref b18), .val (.ref b35), .val (.int mv), .val (.ref b86), .unset, .unset, .unset, .unset] [])) _
        refine XS.iloadN X90.here hx rfl (hb hby at_144) rfl ?_
        show Steps p.tables e below (T90.setTop (mkF m 145 #[.val (.int x0), .val (.int x1), .val (.int x2), .val (.int x3), .val (.ref b1), .val (.ref b18), .val (.ref b35), .val (.int mv), .val (.ref b86), .unset, .unset, .unset, .unset] [(.int x3)])) _
        refine XS.iconst X90.here hx rfl (hb hby at_145) ?_
        show Steps p.tables e below (T90.setTop (mkF m 146 #[.val (.int x0), .val (.int x1), .val (.int x2), .val (.int x3), .val (.ref b1), .val (.ref b18), .val (.ref b35), .val (.int mv), .val (.ref b86), .unset, .unset, .unset, .unset] [(.int (1 : Int32)), (.int x3)])) _
        refine XS.iand X90.here hx rfl (hb hby at_146) rfl ?_
        show Steps p.tables e below (T90.setTop (mkF m 147 #[.val (.int x0), .val (.int x1), .val (.int x2), .val (.int x3), .val (.ref b1), .val (.ref b18), .val (.ref b35), .val (.int mv), .val (.ref b86), .unset, .unset, .unset, .unset] [(.int (x3 &&& (1 : Int32)))])) _
        exact kgo
      by_cases hc147_97 : (x3 &&& (1 : Int32)) = (0 : Int32)
      · have f98 := (f92.keep kp90 (ninS neb1_86 nin0))
        have f99 := (f93.keep kp90 (ninS neb18_86 nin0))
        have f100 := (f89.keep kp90 (ninS neb35_86 nin0))
        have f101 := (A86.keep kp90)
        obtain ⟨T102, h102, X102, e102, E102, A102, D102, U102, st102⟩ := newO X90 hx hZ90 hown90 (ow1 hw) (ow2 hw) (ow3 hw) rfl (g := (mkF m 157 #[.val (.int x0), .val (.int x1), .val (.int x2), .val (.int x3), .val (.ref b1), .val (.ref b18), .val (.ref b35), .val (.int mv), .val (.ref b86), .val (.int (0 : Int32)), .unset, .unset, .unset] [])) rfl (hb hby at_157) (by decide) (by decide)
        obtain ⟨b102, g102⟩ : ∃ z, z = T90.heap.size := ⟨_, rfl⟩
        rw [← g102] at A102 D102 U102 st102
        have gn102 : n0 ≤ b102 := Nat.le_trans (own_sz Ol95) (Nat.le_of_eq g102.symm)
        have neb1_102 : b1 ≠ b102 := Nat.ne_of_lt (Nat.lt_of_lt_of_le f98.lt (Nat.le_of_eq g102.symm))
        have neb18_102 : b18 ≠ b102 := Nat.ne_of_lt (Nat.lt_of_lt_of_le f99.lt (Nat.le_of_eq g102.symm))
        have neb35_102 : b35 ≠ b102 := Nat.ne_of_lt (Nat.lt_of_lt_of_le f100.lt (Nat.le_of_eq g102.symm))
        have neb86_102 : b86 ≠ b102 := Nat.ne_of_lt (Nat.lt_of_lt_of_le f101.lt (Nat.le_of_eq g102.symm))
        have Y102 := Safe.ext E102 CH94.1 (Safe.new (x := b102) (Nat.le_of_eq g102.symm))
        have CH103 := CH94.trans (CHr.ext E102 CH94.1)
        have hk103 := Nat.le_trans hk90 E102.1
        have Ol104 := Ol95.ext E102
        have Fended_102 : Fld Z h102 b102 "com/example/tx_at_boundaries/txatboundaries/mybatis/JoinedSessions" "ended" "Z" (.int (0 : Int32)) := D102 (Or.inl (ow29 hw)) (ty := .boolean) (by decide)
        have Frollback_102 : Fld Z h102 b102 "com/example/tx_at_boundaries/txatboundaries/mybatis/JoinedSessions" "rollback" "Lcom/example/tx_at_boundaries/txatboundaries/mybatis/JoinedSessions$SessionRollback;" .null := D102 (Or.inl (ow31 hw)) (ty := (.object "com/example/tx_at_boundaries/txatboundaries/mybatis/JoinedSessions$SessionRollback")) (by decide)
        obtain ⟨_, _, ⟨T105, L105, k105, n105⟩, -, X105, ⟨Lc105, hQ105, l105, y105, z105⟩, st105⟩ := X102.specialBack hx (y := (⟨"com/example/tx_at_boundaries/txatboundaries/mybatis/JoinedSessions", "<init>", "()V"⟩ : MethodName)) rfl hown90 (mvT hZ90 (ow4 hw)) (mvT hZ90 (ow5 hw)) (mvT hZ90 (ow6 hw)) (by decide) (backOf (W := 1) (rmji l Z a0 hw [] b102  h102 n0 Ol104 ) hZ90 (ow6 hw) (ow3 hw) (by decide) (by decide)) (g := (mkF m 161 #[.val (.int x0), .val (.int x1), .val (.int x2), .val (.int x3), .val (.ref b1), .val (.ref b18), .val (.ref b35), .val (.int mv), .val (.ref b86), .val (.int (0 : Int32)), .unset, .unset, .unset] [(.ref b102), (.ref b102)])) rfl (by rw [hml]; rfl) (Steps.refl _) (a := b102) (argsL := []) (rest := [(.ref b102)]) (lenOf pd5 rfl) rfl (by show 2 * 0 + _ ≤ _; exact Nat.le_of_eq rfl) (hb hby at_161) (fun _ _ => ⟨rfl, e102, (by decide : 9 + 0 ≤ _), (by decide : 19 + 0 ≤ _)⟩)
        dsimp only [Pt.U, Pt.locs, Pt.cells, Pt.slots] at X105 l105 y105 z105 st105 hQ105
        subst l105 y105 z105
        obtain ⟨rfl, Nq105, eq105⟩ := hQ105
        have N106 := Fr.app N91 Nq105
        obtain ⟨cq107, kq107, q107a, q107b, q107c⟩ := isOf hZ90 eq105 A102
        obtain ⟨_, _, ⟨T107, L107, k107, n107⟩, -, X107, ⟨Lc107, hQ107, l107, y107, z107⟩, st107⟩ := X105.virtualBack hx (y := (⟨"com/example/tx_at_boundaries/txatboundaries/mybatis/JoinedSessions", "failure", "()Ljava/lang/Throwable;"⟩ : MethodName)) (z := (⟨"com/example/tx_at_boundaries/txatboundaries/mybatis/JoinedSessions", "failure", "()Ljava/lang/Throwable;"⟩ : MethodName)) hown90 (mvT hZ90 (ow87 hw)) (mvT hZ90 (ow88 hw)) (notFace_of_selects (args := #[]) (mvT hZ90 (ow90 hw))) (mvT hZ90 (ow90 hw)) (mvT hZ90 (ow89 hw)) (by decide) (backOf (W := 0) (rmfl l Z a0 hw [] b102 .null h102 n0 Ol104 rfl Frollback_102) hZ90 (ow91 hw) (ow3 hw) (by decide) (by decide)) q107a q107c (g := (mkF m 178 #[.val (.int x0), .val (.int x1), .val (.int x2), .val (.int x3), .val (.ref b1), .val (.ref b18), .val (.ref b35), .val (.int mv), .val (.ref b86), .val (.int (0 : Int32)), .val (.ref b102), .unset, .unset] [(.ref b102)])) rfl (by rw [hml]; rfl) (Steps.refl _) (argsL := []) (rest := []) (lenOf pd6 rfl) rfl (by show 2 * 0 + _ ≤ _; exact Nat.le_of_eq rfl) (hb hby at_178) (fun _ _ => ⟨rfl, eq105, (by decide : 9 + 0 ≤ _), (by decide : 19 + 0 ≤ _)⟩)
        dsimp only [Pt.U, Pt.locs, Pt.cells, Pt.slots] at X107 l107 y107 z107 st107 hQ107
        subst l107 y107 z107
        obtain ⟨rfl, Nq107, eq107⟩ := hQ107
        have N108 := Fr.app N106 Nq107
        obtain ⟨cq109, kq109, q109a, q109b, q109c⟩ := isOf hZ90 eq107 A102
        obtain ⟨_, _, ⟨T109, L109, k109, n109⟩, -, X109, ⟨Lc109, hQ109, l109, y109, z109⟩, st109⟩ := X107.virtualBack hx (y := (⟨"com/example/tx_at_boundaries/txatboundaries/mybatis/JoinedSessions", "requireRunning", "(Ljava/lang/String;)V"⟩ : MethodName)) (z := (⟨"com/example/tx_at_boundaries/txatboundaries/mybatis/JoinedSessions", "requireRunning", "(Ljava/lang/String;)V"⟩ : MethodName)) hown90 (mvT hZ90 (ow92 hw)) (mvT hZ90 (ow24 hw)) (notFace_of_selects (args := #[]) (mvT hZ90 (ow26 hw))) (mvT hZ90 (ow26 hw)) (mvT hZ90 (ow25 hw)) (by decide) (backOf (W := 0) (rmrq l Z a0 hw [] b102 (.ref b86)  h102 n0 Ol104 rfl Fended_102) hZ90 (ow27 hw) (ow3 hw) (by decide) (by decide)) q109a q109c (g := (mkF m 187 #[.val (.int x0), .val (.int x1), .val (.int x2), .val (.int x3), .val (.ref b1), .val (.ref b18), .val (.ref b35), .val (.int mv), .val (.ref b86), .val (.int (0 : Int32)), .val (.ref b102), .val .null, .unset] [(.ref b86), (.ref b102)])) rfl (by rw [hml]; rfl) (Steps.refl _) (argsL := [(.ref b86)]) (rest := []) (lenOf pd4 rfl) rfl (by show 2 * 0 + _ ≤ _; exact Nat.le_of_eq rfl) (hb hby at_187) (fun _ _ => ⟨rfl, eq107, (by decide : 9 + 0 ≤ _), (by decide : 19 + 0 ≤ _)⟩)
        dsimp only [Pt.U, Pt.locs, Pt.cells, Pt.slots] at X109 l109 y109 z109 st109 hQ109
        subst l109 y109 z109
        obtain ⟨rfl, Nq109, eq109⟩ := hQ109
        have N110 := Fr.app N108 Nq109
        obtain ⟨cq111, kq111, q111a, q111b, q111c⟩ := isOf hZ90 eq109 A102
        obtain ⟨_, _, ⟨T111, L111, k111, n111⟩, -, X111, ⟨Lc111, hQ111, l111, y111, z111⟩, st111⟩ := X109.virtualBack hx (y := (⟨"com/example/tx_at_boundaries/txatboundaries/mybatis/JoinedSessions", "requireRunning", "(Ljava/lang/String;)V"⟩ : MethodName)) (z := (⟨"com/example/tx_at_boundaries/txatboundaries/mybatis/JoinedSessions", "requireRunning", "(Ljava/lang/String;)V"⟩ : MethodName)) hown90 (mvT hZ90 (ow92 hw)) (mvT hZ90 (ow24 hw)) (notFace_of_selects (args := #[]) (mvT hZ90 (ow26 hw))) (mvT hZ90 (ow26 hw)) (mvT hZ90 (ow25 hw)) (by decide) (backOf (W := 0) (rmrq l Z a0 hw [] b102 (.ref b86)  h102 n0 Ol104 rfl Fended_102) hZ90 (ow27 hw) (ow3 hw) (by decide) (by decide)) q111a q111c (g := (mkF m 194 #[.val (.int x0), .val (.int x1), .val (.int x2), .val (.int x3), .val (.ref b1), .val (.ref b18), .val (.ref b35), .val (.int mv), .val (.ref b86), .val (.int (0 : Int32)), .val (.ref b102), .val .null, .unset] [(.ref b86), (.ref b102)])) rfl (by rw [hml]; rfl) (Steps.refl _) (argsL := [(.ref b86)]) (rest := []) (lenOf pd4 rfl) rfl (by show 2 * 0 + _ ≤ _; exact Nat.le_of_eq rfl) (hb hby at_194) (fun _ _ => ⟨rfl, eq109, (by decide : 9 + 0 ≤ _), (by decide : 19 + 0 ≤ _)⟩)
        dsimp only [Pt.U, Pt.locs, Pt.cells, Pt.slots] at X111 l111 y111 z111 st111 hQ111
        subst l111 y111 z111
        obtain ⟨rfl, Nq111, eq111⟩ := hQ111
        have N112 := Fr.app N110 Nq111
        obtain ⟨cq113, kq113, q113a, q113b, q113c⟩ := isOf hZ90 eq111 A102
        obtain ⟨_, _, ⟨T113, L113, k113, n113⟩, -, X113, ⟨Lc113, hQ113, l113, y113, z113⟩, st113⟩ := X111.virtualBack hx (y := (⟨"com/example/tx_at_boundaries/txatboundaries/mybatis/JoinedSessions", "failure", "()Ljava/lang/Throwable;"⟩ : MethodName)) (z := (⟨"com/example/tx_at_boundaries/txatboundaries/mybatis/JoinedSessions", "failure", "()Ljava/lang/Throwable;"⟩ : MethodName)) hown90 (mvT hZ90 (ow87 hw)) (mvT hZ90 (ow88 hw)) (notFace_of_selects (args := #[]) (mvT hZ90 (ow90 hw))) (mvT hZ90 (ow90 hw)) (mvT hZ90 (ow89 hw)) (by decide) (backOf (W := 0) (rmfl l Z a0 hw [] b102 .null h102 n0 Ol104 rfl Frollback_102) hZ90 (ow91 hw) (ow3 hw) (by decide) (by decide)) q113a q113c (g := (mkF m 199 #[.val (.int x0), .val (.int x1), .val (.int x2), .val (.int x3), .val (.ref b1), .val (.ref b18), .val (.ref b35), .val (.int mv), .val (.ref b86), .val (.int (0 : Int32)), .val (.ref b102), .val .null, .unset] [(.ref b102)])) rfl (by rw [hml]; rfl) (Steps.refl _) (argsL := []) (rest := []) (lenOf pd6 rfl) rfl (by show 2 * 0 + _ ≤ _; exact Nat.le_of_eq rfl) (hb hby at_199) (fun _ _ => ⟨rfl, eq111, (by decide : 9 + 0 ≤ _), (by decide : 19 + 0 ≤ _)⟩)
        dsimp only [Pt.U, Pt.locs, Pt.cells, Pt.slots] at X113 l113 y113 z113 st113 hQ113
        subst l113 y113 z113
        obtain ⟨rfl, Nq113, eq113⟩ := hQ113
        have N114 := Fr.app N112 Nq113
        obtain ⟨fs, hretL, hrun, hended, hEnd⟩ := Stand.leaveW X113 hS90 (by rw [eq113]; exact hk103) (v := some (.int (1 : Int32))) (fun h => by rw [Bd.returns] at h; cases h)
        have hCf : CHr Z EL0 s.vm s.heap T113.vm T113.heap := by rw [hh, eq113]; exact CH103.trans (CHv.at X113 hZ90 (own_EW hw) CH103.1)
        refine ⟨_, _, pre96 _ ?_, hrun, hended, _, _, rfl, ?_, hCf, hEnd.1, hEnd.2.1, hEnd.2.2.1, hEnd.2.2.2.mono (by decide) (by decide)⟩
        · refine XS.ifYes X90.here hx rfl (pc0 := 147) (pc' := 154) rfl (hb hby at_147) rfl ((if0 _ _).trans (teq hc147_97).1) (by decide) (by decide) ?_
          show Steps p.tables e below (T90.setTop (mkF m 154 #[.val (.int x0), .val (.int x1), .val (.int x2), .val (.int x3), .val (.ref b1), .val (.ref b18), .val (.ref b35), .val (.int mv), .val (.ref b86), .unset, .unset, .unset, .unset] [])) _
          refine XS.iconst X90.here hx rfl (hb hby at_154) ?_
          show Steps p.tables e below (T90.setTop (mkF m 155 #[.val (.int x0), .val (.int x1), .val (.int x2), .val (.int x3), .val (.ref b1), .val (.ref b18), .val (.ref b35), .val (.int mv), .val (.ref b86), .unset, .unset, .unset, .unset] [(.int (0 : Int32))])) _
          refine XS.istore X90.here hx rfl (hb hby at_155) rfl (l' := #[.val (.int x0), .val (.int x1), .val (.int x2), .val (.int x3), .val (.ref b1), .val (.ref b18), .val (.ref b35), .val (.int mv), .val (.ref b86), .val (.int (0 : Int32)), .unset, .unset, .unset]) rfl ?_
          show Steps p.tables e below (T90.setTop (mkF m 157 #[.val (.int x0), .val (.int x1), .val (.int x2), .val (.int x3), .val (.ref b1), .val (.ref b18), .val (.ref b35), .val (.int mv), .val (.ref b86), .val (.int (0 : Int32)), .unset, .unset, .unset] [])) _
          refine st102 _ ?_
          show Steps p.tables e below (T102.setTop (mkF m 160 #[.val (.int x0), .val (.int x1), .val (.int x2), .val (.int x3), .val (.ref b1), .val (.ref b18), .val (.ref b35), .val (.int mv), .val (.ref b86), .val (.int (0 : Int32)), .unset, .unset, .unset] [(.ref b102)])) _
          refine XS.dup X102.here hx rfl (hb hby at_160) rfl rfl ?_
          show Steps p.tables e below (T102.setTop (mkF m 161 #[.val (.int x0), .val (.int x1), .val (.int x2), .val (.int x3), .val (.ref b1), .val (.ref b18), .val (.ref b35), .val (.int mv), .val (.ref b86), .val (.int (0 : Int32)), .unset, .unset, .unset] [(.ref b102), (.ref b102)])) _
          refine st105.trans ?_
          show Steps p.tables e below (T105.setTop (mkF m 164 #[.val (.int x0), .val (.int x1), .val (.int x2), .val (.int x3), .val (.ref b1), .val (.ref b18), .val (.ref b35), .val (.int mv), .val (.ref b86), .val (.int (0 : Int32)), .unset, .unset, .unset] [(.ref b102)])) _
          refine XS.astore X105.here hx rfl (hb hby at_164) rfl rfl (l' := #[.val (.int x0), .val (.int x1), .val (.int x2), .val (.int x3), .val (.ref b1), .val (.ref b18), .val (.ref b35), .val (.int mv), .val (.ref b86), .val (.int (0 : Int32)), .val (.ref b102), .unset, .unset]) rfl ?_
          show Steps p.tables e below (T105.setTop (mkF m 166 #[.val (.int x0), .val (.int x1), .val (.int x2), .val (.int x3), .val (.ref b1), .val (.ref b18), .val (.ref b35), .val (.int mv), .val (.ref b86), .val (.int (0 : Int32)), .val (.ref b102), .unset, .unset] [])) _
          refine XS.iload X105.here hx rfl (hb hby at_166) rfl ?_
          show Steps p.tables e below (T105.setTop (mkF m 168 #[.val (.int x0), .val (.int x1), .val (.int x2), .val (.int x3), .val (.ref b1), .val (.ref b18), .val (.ref b35), .val (.int mv), .val (.ref b86), .val (.int (0 : Int32)), .val (.ref b102), .unset, .unset] [(.int (0 : Int32))])) _
          refine XS.ifYes X105.here hx rfl (pc0 := 168) (pc' := 176) rfl (hb hby at_168) rfl ((if0 _ _).trans (teq (by decide : (0 : Int32) = (0 : Int32))).1) (by decide) (by decide) ?_
          show Steps p.tables e below (T105.setTop (mkF m 176 #[.val (.int x0), .val (.int x1), .val (.int x2), .val (.int x3), .val (.ref b1), .val (.ref b18), .val (.ref b35), .val (.int mv), .val (.ref b86), .val (.int (0 : Int32)), .val (.ref b102), .unset, .unset] [])) _
          refine XS.aload X105.here hx rfl (hb hby at_176) rfl rfl ?_
          show Steps p.tables e below (T105.setTop (mkF m 178 #[.val (.int x0), .val (.int x1), .val (.int x2), .val (.int x3), .val (.ref b1), .val (.ref b18), .val (.ref b35), .val (.int mv), .val (.ref b86), .val (.int (0 : Int32)), .val (.ref b102), .unset, .unset] [(.ref b102)])) _
          refine st107.trans ?_
          show Steps p.tables e below (T107.setTop (mkF m 181 #[.val (.int x0), .val (.int x1), .val (.int x2), .val (.int x3), .val (.ref b1), .val (.ref b18), .val (.ref b35), .val (.int mv), .val (.ref b86), .val (.int (0 : Int32)), .val (.ref b102), .unset, .unset] [.null])) _
          refine XS.astore X107.here hx rfl (hb hby at_181) rfl rfl (l' := #[.val (.int x0), .val (.int x1), .val (.int x2), .val (.int x3), .val (.ref b1), .val (.ref b18), .val (.ref b35), .val (.int mv), .val (.ref b86), .val (.int (0 : Int32)), .val (.ref b102), .val .null, .unset]) rfl ?_
          show Steps p.tables e below (T107.setTop (mkF m 183 #[.val (.int x0), .val (.int x1), .val (.int x2), .val (.int x3), .val (.ref b1), .val (.ref b18), .val (.ref b35), .val (.int mv), .val (.ref b86), .val (.int (0 : Int32)), .val (.ref b102), .val .null, .unset] [])) _
          refine XS.aload X107.here hx rfl (hb hby at_183) rfl rfl ?_
          show Steps p.tables e below (T107.setTop (mkF m 185 #[.val (.int x0), .val (.int x1), .val (.int x2), .val (.int x3), .val (.ref b1), .val (.ref b18), .val (.ref b35), .val (.int mv), .val (.ref b86), .val (.int (0 : Int32)), .val (.ref b102), .val .null, .unset] [(.ref b102)])) _
          refine XS.aload X107.here hx rfl (hb hby at_185) rfl rfl ?_
          show Steps p.tables e below (T107.setTop (mkF m 187 #[.val (.int x0), .val (.int x1), .val (.int x2), .val (.int x3), .val (.ref b1), .val (.ref b18), .val (.ref b35), .val (.int mv), .val (.ref b86), .val (.int (0 : Int32)), .val (.ref b102), .val .null, .unset] [(.ref b86), (.ref b102)])) _
          refine st109.trans ?_
          show Steps p.tables e below (T109.setTop (mkF m 190 #[.val (.int x0), .val (.int x1), .val (.int x2), .val (.int x3), .val (.ref b1), .val (.ref b18), .val (.ref b35), .val (.int mv), .val (.ref b86), .val (.int (0 : Int32)), .val (.ref b102), .val .null, .unset] [])) _
          refine XS.aload X109.here hx rfl (hb hby at_190) rfl rfl ?_
          show Steps p.tables e below (T109.setTop (mkF m 192 #[.val (.int x0), .val (.int x1), .val (.int x2), .val (.int x3), .val (.ref b1), .val (.ref b18), .val (.ref b35), .val (.int mv), .val (.ref b86), .val (.int (0 : Int32)), .val (.ref b102), .val .null, .unset] [(.ref b102)])) _
          refine XS.aload X109.here hx rfl (hb hby at_192) rfl rfl ?_
          show Steps p.tables e below (T109.setTop (mkF m 194 #[.val (.int x0), .val (.int x1), .val (.int x2), .val (.int x3), .val (.ref b1), .val (.ref b18), .val (.ref b35), .val (.int mv), .val (.ref b86), .val (.int (0 : Int32)), .val (.ref b102), .val .null, .unset] [(.ref b86), (.ref b102)])) _
          refine st111.trans ?_
          show Steps p.tables e below (T111.setTop (mkF m 197 #[.val (.int x0), .val (.int x1), .val (.int x2), .val (.int x3), .val (.ref b1), .val (.ref b18), .val (.ref b35), .val (.int mv), .val (.ref b86), .val (.int (0 : Int32)), .val (.ref b102), .val .null, .unset] [])) _
          refine XS.aload X111.here hx rfl (hb hby at_197) rfl rfl ?_
          show Steps p.tables e below (T111.setTop (mkF m 199 #[.val (.int x0), .val (.int x1), .val (.int x2), .val (.int x3), .val (.ref b1), .val (.ref b18), .val (.ref b35), .val (.int mv), .val (.ref b86), .val (.int (0 : Int32)), .val (.ref b102), .val .null, .unset] [(.ref b102)])) _
          refine st113.trans ?_
          show Steps p.tables e below (T113.setTop (mkF m 202 #[.val (.int x0), .val (.int x1), .val (.int x2), .val (.int x3), .val (.ref b1), .val (.ref b18), .val (.ref b35), .val (.int mv), .val (.ref b86), .val (.int (0 : Int32)), .val (.ref b102), .val .null, .unset] [.null])) _
          refine XS.astore X113.here hx rfl (hb hby at_202) rfl rfl (l' := #[.val (.int x0), .val (.int x1), .val (.int x2), .val (.int x3), .val (.ref b1), .val (.ref b18), .val (.ref b35), .val (.int mv), .val (.ref b86), .val (.int (0 : Int32)), .val (.ref b102), .val .null, .val .null]) rfl ?_
          show Steps p.tables e below (T113.setTop (mkF m 204 #[.val (.int x0), .val (.int x1), .val (.int x2), .val (.int x3), .val (.ref b1), .val (.ref b18), .val (.ref b35), .val (.int mv), .val (.ref b86), .val (.int (0 : Int32)), .val (.ref b102), .val .null, .val .null] [])) _
          refine XS.aload X113.here hx rfl (hb hby at_204) rfl rfl ?_
          show Steps p.tables e below (T113.setTop (mkF m 206 #[.val (.int x0), .val (.int x1), .val (.int x2), .val (.int x3), .val (.ref b1), .val (.ref b18), .val (.ref b35), .val (.int mv), .val (.ref b86), .val (.int (0 : Int32)), .val (.ref b102), .val .null, .val .null] [.null])) _
          refine XS.aload X113.here hx rfl (hb hby at_206) rfl rfl ?_
          show Steps p.tables e below (T113.setTop (mkF m 208 #[.val (.int x0), .val (.int x1), .val (.int x2), .val (.int x3), .val (.ref b1), .val (.ref b18), .val (.ref b35), .val (.int mv), .val (.ref b86), .val (.int (0 : Int32)), .val (.ref b102), .val .null, .val .null] [.null, .null])) _
          refine Jvm.RoadKit.acmp (g := (mkF m 208 #[.val (.int x0), .val (.int x1), .val (.int x2), .val (.int x3), .val (.ref b1), .val (.ref b18), .val (.ref b35), .val (.int mv), .val (.ref b86), .val (.int (0 : Int32)), .val (.ref b102), .val .null, .val .null] [.null, .null])) X113 hx rfl rfl rfl (pc0 := 208) (pc' := 211) (same := true) rfl (hb hby at_208) rfl (decide_eq_true rfl) (by decide) (by decide) ?_
          show Steps p.tables e below (T113.setTop (mkF m 211 #[.val (.int x0), .val (.int x1), .val (.int x2), .val (.int x3), .val (.ref b1), .val (.ref b18), .val (.ref b35), .val (.int mv), .val (.ref b86), .val (.int (0 : Int32)), .val (.ref b102), .val .null, .val .null] [])) _
          refine XS.iload X113.here hx rfl (hb hby at_211) rfl ?_
          show Steps p.tables e below (T113.setTop (mkF m 213 #[.val (.int x0), .val (.int x1), .val (.int x2), .val (.int x3), .val (.ref b1), .val (.ref b18), .val (.ref b35), .val (.int mv), .val (.ref b86), .val (.int (0 : Int32)), .val (.ref b102), .val .null, .val .null] [(.int (0 : Int32))])) _
          refine XS.aload X113.here hx rfl (hb hby at_213) rfl rfl ?_
          show Steps p.tables e below (T113.setTop (mkF m 215 #[.val (.int x0), .val (.int x1), .val (.int x2), .val (.int x3), .val (.ref b1), .val (.ref b18), .val (.ref b35), .val (.int mv), .val (.ref b86), .val (.int (0 : Int32)), .val (.ref b102), .val .null, .val .null] [.null, (.int (0 : Int32))])) _
          refine XS.ifnullYes X113.here hx rfl (pc0 := 215) (pc' := 222) rfl (hb hby at_215) rfl (by decide) (by decide) ?_
          show Steps p.tables e below (T113.setTop (mkF m 222 #[.val (.int x0), .val (.int x1), .val (.int x2), .val (.int x3), .val (.ref b1), .val (.ref b18), .val (.ref b35), .val (.int mv), .val (.ref b86), .val (.int (0 : Int32)), .val (.ref b102), .val .null, .val .null] [(.int (0 : Int32))])) _
          refine XS.iconst X113.here hx rfl (hb hby at_222) ?_
          show Steps p.tables e below (T113.setTop (mkF m 223 #[.val (.int x0), .val (.int x1), .val (.int x2), .val (.int x3), .val (.ref b1), .val (.ref b18), .val (.ref b35), .val (.int mv), .val (.ref b86), .val (.int (0 : Int32)), .val (.ref b102), .val .null, .val .null] [(.int (0 : Int32)), (.int (0 : Int32))])) _
          refine XS.icmpNo X113.here hx rfl (hb hby at_223) rfl (teq (by decide : (0 : Int32) = (0 : Int32))).2 ?_
          show Steps p.tables e below (T113.setTop (mkF m 226 #[.val (.int x0), .val (.int x1), .val (.int x2), .val (.int x3), .val (.ref b1), .val (.ref b18), .val (.ref b35), .val (.int mv), .val (.ref b86), .val (.int (0 : Int32)), .val (.ref b102), .val .null, .val .null] [])) _
          refine XS.iconst X113.here hx rfl (hb hby at_226) ?_
          show Steps p.tables e below (T113.setTop (mkF m 227 #[.val (.int x0), .val (.int x1), .val (.int x2), .val (.int x3), .val (.ref b1), .val (.ref b18), .val (.ref b35), .val (.int mv), .val (.ref b86), .val (.int (0 : Int32)), .val (.ref b102), .val .null, .val .null] [(.int (1 : Int32))])) _
          refine XS.goto X113.here hx rfl (pc0 := 227) (pc' := 231) rfl (hb hby at_227) (by decide) (by decide) ?_
          show Steps p.tables e below (T113.setTop (mkF m 231 #[.val (.int x0), .val (.int x1), .val (.int x2), .val (.int x3), .val (.ref b1), .val (.ref b18), .val (.ref b35), .val (.int mv), .val (.ref b86), .val (.int (0 : Int32)), .val (.ref b102), .val .null, .val .null] [(.int (1 : Int32))])) _
          exact retOut X113 hx Bd.returns rfl (Or.inl ⟨rfl, Or.inr (Or.inl rfl), _, rfl⟩) (hb hby at_231) hretL
        · show Q_rm0 Z x0 x1 x2 x3 G1 us se h0 n0 _ T113.heap _
          rw [eq113]
          exact ⟨rfl, N114⟩
      · have f115 := (f92.keep kp90 (ninS neb1_86 nin0))
        have f116 := (f93.keep kp90 (ninS neb18_86 nin0))
        have f117 := (f89.keep kp90 (ninS neb35_86 nin0))
        have f118 := (A86.keep kp90)
        obtain ⟨T119, h119, X119, e119, E119, A119, D119, U119, st119⟩ := newO X90 hx hZ90 hown90 (ow1 hw) (ow2 hw) (ow3 hw) rfl (g := (mkF m 157 #[.val (.int x0), .val (.int x1), .val (.int x2), .val (.int x3), .val (.ref b1), .val (.ref b18), .val (.ref b35), .val (.int mv), .val (.ref b86), .val (.int (1 : Int32)), .unset, .unset, .unset] [])) rfl (hb hby at_157) (by decide) (by decide)
        obtain ⟨b119, g119⟩ : ∃ z, z = T90.heap.size := ⟨_, rfl⟩
        rw [← g119] at A119 D119 U119 st119
        have gn119 : n0 ≤ b119 := Nat.le_trans (own_sz Ol95) (Nat.le_of_eq g119.symm)
        have neb1_119 : b1 ≠ b119 := Nat.ne_of_lt (Nat.lt_of_lt_of_le f115.lt (Nat.le_of_eq g119.symm))
        have neb18_119 : b18 ≠ b119 := Nat.ne_of_lt (Nat.lt_of_lt_of_le f116.lt (Nat.le_of_eq g119.symm))
        have neb35_119 : b35 ≠ b119 := Nat.ne_of_lt (Nat.lt_of_lt_of_le f117.lt (Nat.le_of_eq g119.symm))
        have neb86_119 : b86 ≠ b119 := Nat.ne_of_lt (Nat.lt_of_lt_of_le f118.lt (Nat.le_of_eq g119.symm))
        have Y119 := Safe.ext E119 CH94.1 (Safe.new (x := b119) (Nat.le_of_eq g119.symm))
        have CH120 := CH94.trans (CHr.ext E119 CH94.1)
        have hk120 := Nat.le_trans hk90 E119.1
        have Ol121 := Ol95.ext E119
        have Fended_119 : Fld Z h119 b119 "com/example/tx_at_boundaries/txatboundaries/mybatis/JoinedSessions" "ended" "Z" (.int (0 : Int32)) := D119 (Or.inl (ow29 hw)) (ty := .boolean) (by decide)
        have Frollback_119 : Fld Z h119 b119 "com/example/tx_at_boundaries/txatboundaries/mybatis/JoinedSessions" "rollback" "Lcom/example/tx_at_boundaries/txatboundaries/mybatis/JoinedSessions$SessionRollback;" .null := D119 (Or.inl (ow31 hw)) (ty := (.object "com/example/tx_at_boundaries/txatboundaries/mybatis/JoinedSessions$SessionRollback")) (by decide)
        obtain ⟨_, _, ⟨T122, L122, k122, n122⟩, -, X122, ⟨Lc122, hQ122, l122, y122, z122⟩, st122⟩ := X119.specialBack hx (y := (⟨"com/example/tx_at_boundaries/txatboundaries/mybatis/JoinedSessions", "<init>", "()V"⟩ : MethodName)) rfl hown90 (mvT hZ90 (ow4 hw)) (mvT hZ90 (ow5 hw)) (mvT hZ90 (ow6 hw)) (by decide) (backOf (W := 1) (rmji l Z a0 hw [] b119  h119 n0 Ol121 ) hZ90 (ow6 hw) (ow3 hw) (by decide) (by decide)) (g := (mkF m 161 #[.val (.int x0), .val (.int x1), .val (.int x2), .val (.int x3), .val (.ref b1), .val (.ref b18), .val (.ref b35), .val (.int mv), .val (.ref b86), .val (.int (1 : Int32)), .unset, .unset, .unset] [(.ref b119), (.ref b119)])) rfl (by rw [hml]; rfl) (Steps.refl _) (a := b119) (argsL := []) (rest := [(.ref b119)]) (lenOf pd5 rfl) rfl (by show 2 * 0 + _ ≤ _; exact Nat.le_of_eq rfl) (hb hby at_161) (fun _ _ => ⟨rfl, e119, (by decide : 9 + 0 ≤ _), (by decide : 19 + 0 ≤ _)⟩)
        dsimp only [Pt.U, Pt.locs, Pt.cells, Pt.slots] at X122 l122 y122 z122 st122 hQ122
        subst l122 y122 z122
        obtain ⟨rfl, Nq122, eq122⟩ := hQ122
        have N123 := Fr.app N91 Nq122
        obtain ⟨cq124, kq124, q124a, q124b, q124c⟩ := isOf hZ90 eq122 A119
        obtain ⟨_, _, ⟨T124, L124, k124, n124⟩, -, Xr124, hSr124, hgr124, ⟨Lc124, hQ124, l124, y124, z124, CR124⟩, st124⟩ := X122.virtualBackS hx (y := (⟨"com/example/tx_at_boundaries/txatboundaries/mybatis/JoinedSessions", "rollBack", "()V"⟩ : MethodName)) (z := (⟨"com/example/tx_at_boundaries/txatboundaries/mybatis/JoinedSessions", "rollBack", "()V"⟩ : MethodName)) hown90 (mvT hZ90 (ow10 hw)) (mvT hZ90 (ow11 hw)) (notFace_of_selects (args := #[]) (mvT hZ90 (ow13 hw))) (mvT hZ90 (ow13 hw)) (mvT hZ90 (ow12 hw)) (by decide) (backOfSKH (W := 0) (rmrb l Z a0 hw [] b119 us se h119 n0 Ol121 hst SU SS A119 Fended_119 Frollback_119 gn119) hZ90 (ow14 hw) (ow3 hw) (by decide) (by decide) (own_EW hw) CH120.1 (own_tk hZ0 hZ90 hK.1) (own_fk hZ0 hZ90 hK.2)) q124a q124c (g := (mkF m 173 #[.val (.int x0), .val (.int x1), .val (.int x2), .val (.int x3), .val (.ref b1), .val (.ref b18), .val (.ref b35), .val (.int mv), .val (.ref b86), .val (.int (1 : Int32)), .val (.ref b119), .unset, .unset] [(.ref b119)])) rfl (by rw [hml]; rfl) (Steps.refl _) (argsL := []) (rest := []) (lenOf pd5 rfl) rfl (by show 2 * 0 + _ ≤ _; exact Nat.le_of_eq rfl) (hb hby at_173) (fun _ _ => ⟨rfl, eq122, (by decide : 9 + 6 ≤ _), (by decide : 19 + 3066 ≤ _)⟩)
        dsimp only [Pt.U, Pt.locs, Pt.cells, Pt.slots] at Xr124 hSr124 hgr124 l124 y124 z124 CR124 st124 hQ124
        subst l124 y124 z124
        obtain ⟨X124, hS124, hZ124, hown124⟩ := rebS hS90 (by rw [eq122]; exact hk120) Xr124 hSr124 hgr124 hZ90 hown90
        have hk124 : T124.heap.size ≤ T124.heap.size := Nat.le_refl _
        obtain ⟨r124, rfl, Nq124, kp124, fe124, fr124⟩ := hQ124
        have N125 := Fr.app N123 Nq124
        have f126 := (f115.ext E119)
        have f127 := (f116.ext E119)
        have f128 := (f117.ext E119)
        have f129 := (f118.ext E119)
        have CH130 := CH120.trans CR124
        have Ol131 := Ol121.keep kp124 (allS gn119 all0)
        have f133 := (A119.keep kp124)
        obtain ⟨cq132, kq132, q132a, q132b, q132c⟩ := isOf hZ124 rfl f133
        obtain ⟨_, _, ⟨T132, L132, k132, n132⟩, -, X132, ⟨Lc132, hQ132, l132, y132, z132⟩, st132⟩ := X124.virtualBack hx (y := (⟨"com/example/tx_at_boundaries/txatboundaries/mybatis/JoinedSessions", "failure", "()Ljava/lang/Throwable;"⟩ : MethodName)) (z := (⟨"com/example/tx_at_boundaries/txatboundaries/mybatis/JoinedSessions", "failure", "()Ljava/lang/Throwable;"⟩ : MethodName)) hown124 (mvT hZ124 (ow87 hw)) (mvT hZ124 (ow88 hw)) (notFace_of_selects (args := #[]) (mvT hZ124 (ow90 hw))) (mvT hZ124 (ow90 hw)) (mvT hZ124 (ow89 hw)) (by decide) (backOf (W := 0) (rmfl l Z a0 hw [] b119 (.ref r124) T124.heap n0 Ol131 rfl fr124) hZ124 (ow91 hw) (ow3 hw) (by decide) (by decide)) q132a q132c (g := (mkF m 178 #[.val (.int x0), .val (.int x1), .val (.int x2), .val (.int x3), .val (.ref b1), .val (.ref b18), .val (.ref b35), .val (.int mv), .val (.ref b86), .val (.int (1 : Int32)), .val (.ref b119), .unset, .unset] [(.ref b119)])) rfl (by rw [hml]; rfl) (Steps.refl _) (argsL := []) (rest := []) (lenOf pd6 rfl) rfl (by show 2 * 0 + _ ≤ _; exact Nat.le_of_eq rfl) (hb hby at_178) (fun _ _ => ⟨rfl, rfl, (by decide : 15 + 0 ≤ _), (by decide : 3085 + 0 ≤ _)⟩)
        dsimp only [Pt.U, Pt.locs, Pt.cells, Pt.slots] at X132 l132 y132 z132 st132 hQ132
        subst l132 y132 z132
        obtain ⟨rfl, Nq132, eq132⟩ := hQ132
        have N134 := Fr.app N125 Nq132
        obtain ⟨cq135, kq135, q135a, q135b, q135c⟩ := isOf hZ124 eq132 f133
        obtain ⟨_, _, ⟨T135, L135, k135, n135⟩, -, X135, ⟨Lc135, hQ135, l135, y135, z135⟩, st135⟩ := X132.virtualBack hx (y := (⟨"com/example/tx_at_boundaries/txatboundaries/mybatis/JoinedSessions", "requireRunning", "(Ljava/lang/String;)V"⟩ : MethodName)) (z := (⟨"com/example/tx_at_boundaries/txatboundaries/mybatis/JoinedSessions", "requireRunning", "(Ljava/lang/String;)V"⟩ : MethodName)) hown124 (mvT hZ124 (ow92 hw)) (mvT hZ124 (ow24 hw)) (notFace_of_selects (args := #[]) (mvT hZ124 (ow26 hw))) (mvT hZ124 (ow26 hw)) (mvT hZ124 (ow25 hw)) (by decide) (backOf (W := 0) (rmrq l Z a0 hw [] b119 (.ref b86)  T124.heap n0 Ol131 rfl fe124) hZ124 (ow27 hw) (ow3 hw) (by decide) (by decide)) q135a q135c (g := (mkF m 187 #[.val (.int x0), .val (.int x1), .val (.int x2), .val (.int x3), .val (.ref b1), .val (.ref b18), .val (.ref b35), .val (.int mv), .val (.ref b86), .val (.int (1 : Int32)), .val (.ref b119), .val (.ref r124), .unset] [(.ref b86), (.ref b119)])) rfl (by rw [hml]; rfl) (Steps.refl _) (argsL := [(.ref b86)]) (rest := []) (lenOf pd4 rfl) rfl (by show 2 * 0 + _ ≤ _; exact Nat.le_of_eq rfl) (hb hby at_187) (fun _ _ => ⟨rfl, eq132, (by decide : 15 + 0 ≤ _), (by decide : 3085 + 0 ≤ _)⟩)
        dsimp only [Pt.U, Pt.locs, Pt.cells, Pt.slots] at X135 l135 y135 z135 st135 hQ135
        subst l135 y135 z135
        obtain ⟨rfl, Nq135, eq135⟩ := hQ135
        have N136 := Fr.app N134 Nq135
        obtain ⟨cq137, kq137, q137a, q137b, q137c⟩ := isOf hZ124 eq135 f133
        obtain ⟨_, _, ⟨T137, L137, k137, n137⟩, -, X137, ⟨Lc137, hQ137, l137, y137, z137⟩, st137⟩ := X135.virtualBack hx (y := (⟨"com/example/tx_at_boundaries/txatboundaries/mybatis/JoinedSessions", "requireRunning", "(Ljava/lang/String;)V"⟩ : MethodName)) (z := (⟨"com/example/tx_at_boundaries/txatboundaries/mybatis/JoinedSessions", "requireRunning", "(Ljava/lang/String;)V"⟩ : MethodName)) hown124 (mvT hZ124 (ow92 hw)) (mvT hZ124 (ow24 hw)) (notFace_of_selects (args := #[]) (mvT hZ124 (ow26 hw))) (mvT hZ124 (ow26 hw)) (mvT hZ124 (ow25 hw)) (by decide) (backOf (W := 0) (rmrq l Z a0 hw [] b119 (.ref b86)  T124.heap n0 Ol131 rfl fe124) hZ124 (ow27 hw) (ow3 hw) (by decide) (by decide)) q137a q137c (g := (mkF m 194 #[.val (.int x0), .val (.int x1), .val (.int x2), .val (.int x3), .val (.ref b1), .val (.ref b18), .val (.ref b35), .val (.int mv), .val (.ref b86), .val (.int (1 : Int32)), .val (.ref b119), .val (.ref r124), .unset] [(.ref b86), (.ref b119)])) rfl (by rw [hml]; rfl) (Steps.refl _) (argsL := [(.ref b86)]) (rest := []) (lenOf pd4 rfl) rfl (by show 2 * 0 + _ ≤ _; exact Nat.le_of_eq rfl) (hb hby at_194) (fun _ _ => ⟨rfl, eq135, (by decide : 15 + 0 ≤ _), (by decide : 3085 + 0 ≤ _)⟩)
        dsimp only [Pt.U, Pt.locs, Pt.cells, Pt.slots] at X137 l137 y137 z137 st137 hQ137
        subst l137 y137 z137
        obtain ⟨rfl, Nq137, eq137⟩ := hQ137
        have N138 := Fr.app N136 Nq137
        obtain ⟨cq139, kq139, q139a, q139b, q139c⟩ := isOf hZ124 eq137 f133
        obtain ⟨_, _, ⟨T139, L139, k139, n139⟩, -, X139, ⟨Lc139, hQ139, l139, y139, z139⟩, st139⟩ := X137.virtualBack hx (y := (⟨"com/example/tx_at_boundaries/txatboundaries/mybatis/JoinedSessions", "failure", "()Ljava/lang/Throwable;"⟩ : MethodName)) (z := (⟨"com/example/tx_at_boundaries/txatboundaries/mybatis/JoinedSessions", "failure", "()Ljava/lang/Throwable;"⟩ : MethodName)) hown124 (mvT hZ124 (ow87 hw)) (mvT hZ124 (ow88 hw)) (notFace_of_selects (args := #[]) (mvT hZ124 (ow90 hw))) (mvT hZ124 (ow90 hw)) (mvT hZ124 (ow89 hw)) (by decide) (backOf (W := 0) (rmfl l Z a0 hw [] b119 (.ref r124) T124.heap n0 Ol131 rfl fr124) hZ124 (ow91 hw) (ow3 hw) (by decide) (by decide)) q139a q139c (g := (mkF m 199 #[.val (.int x0), .val (.int x1), .val (.int x2), .val (.int x3), .val (.ref b1), .val (.ref b18), .val (.ref b35), .val (.int mv), .val (.ref b86), .val (.int (1 : Int32)), .val (.ref b119), .val (.ref r124), .unset] [(.ref b119)])) rfl (by rw [hml]; rfl) (Steps.refl _) (argsL := []) (rest := []) (lenOf pd6 rfl) rfl (by show 2 * 0 + _ ≤ _; exact Nat.le_of_eq rfl) (hb hby at_199) (fun _ _ => ⟨rfl, eq137, (by decide : 15 + 0 ≤ _), (by decide : 3085 + 0 ≤ _)⟩)
        dsimp only [Pt.U, Pt.locs, Pt.cells, Pt.slots] at X139 l139 y139 z139 st139 hQ139
        subst l139 y139 z139
        obtain ⟨rfl, Nq139, eq139⟩ := hQ139
        have N140 := Fr.app N138 Nq139
        obtain ⟨fs, hretL, hrun, hended, hEnd⟩ := Stand.leaveW X139 hS124 (by rw [eq139]; exact hk124) (v := some (.int (1 : Int32))) (fun h => by rw [Bd.returns] at h; cases h)
        have hCf : CHr Z EL0 s.vm s.heap T139.vm T139.heap := by rw [hh, eq139]; exact CH130.trans (CHv.at X139 hZ124 (own_EW hw) CH130.1)
        refine ⟨_, _, pre96 _ ?_, hrun, hended, _, _, rfl, ?_, hCf, hEnd.1, hEnd.2.1, hEnd.2.2.1, hEnd.2.2.2.mono (by decide) (by decide)⟩
        · refine XS.ifNo X90.here hx rfl (hb hby at_147) rfl ((if0 _ _).trans (feq hc147_97).1) ?_
          show Steps p.tables e below (T90.setTop (mkF m 150 #[.val (.int x0), .val (.int x1), .val (.int x2), .val (.int x3), .val (.ref b1), .val (.ref b18), .val (.ref b35), .val (.int mv), .val (.ref b86), .unset, .unset, .unset, .unset] [])) _
          refine XS.iconst X90.here hx rfl (hb hby at_150) ?_
          show Steps p.tables e below (T90.setTop (mkF m 151 #[.val (.int x0), .val (.int x1), .val (.int x2), .val (.int x3), .val (.ref b1), .val (.ref b18), .val (.ref b35), .val (.int mv), .val (.ref b86), .unset, .unset, .unset, .unset] [(.int (1 : Int32))])) _
          refine XS.goto X90.here hx rfl (pc0 := 151) (pc' := 155) rfl (hb hby at_151) (by decide) (by decide) ?_
          show Steps p.tables e below (T90.setTop (mkF m 155 #[.val (.int x0), .val (.int x1), .val (.int x2), .val (.int x3), .val (.ref b1), .val (.ref b18), .val (.ref b35), .val (.int mv), .val (.ref b86), .unset, .unset, .unset, .unset] [(.int (1 : Int32))])) _
          refine XS.istore X90.here hx rfl (hb hby at_155) rfl (l' := #[.val (.int x0), .val (.int x1), .val (.int x2), .val (.int x3), .val (.ref b1), .val (.ref b18), .val (.ref b35), .val (.int mv), .val (.ref b86), .val (.int (1 : Int32)), .unset, .unset, .unset]) rfl ?_
          show Steps p.tables e below (T90.setTop (mkF m 157 #[.val (.int x0), .val (.int x1), .val (.int x2), .val (.int x3), .val (.ref b1), .val (.ref b18), .val (.ref b35), .val (.int mv), .val (.ref b86), .val (.int (1 : Int32)), .unset, .unset, .unset] [])) _
          refine st119 _ ?_
          show Steps p.tables e below (T119.setTop (mkF m 160 #[.val (.int x0), .val (.int x1), .val (.int x2), .val (.int x3), .val (.ref b1), .val (.ref b18), .val (.ref b35), .val (.int mv), .val (.ref b86), .val (.int (1 : Int32)), .unset, .unset, .unset] [(.ref b119)])) _
          refine XS.dup X119.here hx rfl (hb hby at_160) rfl rfl ?_
          show Steps p.tables e below (T119.setTop (mkF m 161 #[.val (.int x0), .val (.int x1), .val (.int x2), .val (.int x3), .val (.ref b1), .val (.ref b18), .val (.ref b35), .val (.int mv), .val (.ref b86), .val (.int (1 : Int32)), .unset, .unset, .unset] [(.ref b119), (.ref b119)])) _
          refine st122.trans ?_
          show Steps p.tables e below (T122.setTop (mkF m 164 #[.val (.int x0), .val (.int x1), .val (.int x2), .val (.int x3), .val (.ref b1), .val (.ref b18), .val (.ref b35), .val (.int mv), .val (.ref b86), .val (.int (1 : Int32)), .unset, .unset, .unset] [(.ref b119)])) _
          refine XS.astore X122.here hx rfl (hb hby at_164) rfl rfl (l' := #[.val (.int x0), .val (.int x1), .val (.int x2), .val (.int x3), .val (.ref b1), .val (.ref b18), .val (.ref b35), .val (.int mv), .val (.ref b86), .val (.int (1 : Int32)), .val (.ref b119), .unset, .unset]) rfl ?_
          show Steps p.tables e below (T122.setTop (mkF m 166 #[.val (.int x0), .val (.int x1), .val (.int x2), .val (.int x3), .val (.ref b1), .val (.ref b18), .val (.ref b35), .val (.int mv), .val (.ref b86), .val (.int (1 : Int32)), .val (.ref b119), .unset, .unset] [])) _
          refine XS.iload X122.here hx rfl (hb hby at_166) rfl ?_
          show Steps p.tables e below (T122.setTop (mkF m 168 #[.val (.int x0), .val (.int x1), .val (.int x2), .val (.int x3), .val (.ref b1), .val (.ref b18), .val (.ref b35), .val (.int mv), .val (.ref b86), .val (.int (1 : Int32)), .val (.ref b119), .unset, .unset] [(.int (1 : Int32))])) _
          refine XS.ifNo X122.here hx rfl (hb hby at_168) rfl ((if0 _ _).trans (feq (by decide : ¬ ((1 : Int32) = (0 : Int32)))).1) ?_
          show Steps p.tables e below (T122.setTop (mkF m 171 #[.val (.int x0), .val (.int x1), .val (.int x2), .val (.int x3), .val (.ref b1), .val (.ref b18), .val (.ref b35), .val (.int mv), .val (.ref b86), .val (.int (1 : Int32)), .val (.ref b119), .unset, .unset] [])) _
          refine XS.aload X122.here hx rfl (hb hby at_171) rfl rfl ?_
          show Steps p.tables e below (T122.setTop (mkF m 173 #[.val (.int x0), .val (.int x1), .val (.int x2), .val (.int x3), .val (.ref b1), .val (.ref b18), .val (.ref b35), .val (.int mv), .val (.ref b86), .val (.int (1 : Int32)), .val (.ref b119), .unset, .unset] [(.ref b119)])) _
          refine st124.trans ?_
          show Steps p.tables e below (T124.setTop (mkF m 176 #[.val (.int x0), .val (.int x1), .val (.int x2), .val (.int x3), .val (.ref b1), .val (.ref b18), .val (.ref b35), .val (.int mv), .val (.ref b86), .val (.int (1 : Int32)), .val (.ref b119), .unset, .unset] [])) _
          refine XS.aload X124.here hx rfl (hb hby at_176) rfl rfl ?_
          show Steps p.tables e below (T124.setTop (mkF m 178 #[.val (.int x0), .val (.int x1), .val (.int x2), .val (.int x3), .val (.ref b1), .val (.ref b18), .val (.ref b35), .val (.int mv), .val (.ref b86), .val (.int (1 : Int32)), .val (.ref b119), .unset, .unset] [(.ref b119)])) _
          refine st132.trans ?_
          show Steps p.tables e below (T132.setTop (mkF m 181 #[.val (.int x0), .val (.int x1), .val (.int x2), .val (.int x3), .val (.ref b1), .val (.ref b18), .val (.ref b35), .val (.int mv), .val (.ref b86), .val (.int (1 : Int32)), .val (.ref b119), .unset, .unset] [(.ref r124)])) _
          refine XS.astore X132.here hx rfl (hb hby at_181) rfl rfl (l' := #[.val (.int x0), .val (.int x1), .val (.int x2), .val (.int x3), .val (.ref b1), .val (.ref b18), .val (.ref b35), .val (.int mv), .val (.ref b86), .val (.int (1 : Int32)), .val (.ref b119), .val (.ref r124), .unset]) rfl ?_
          show Steps p.tables e below (T132.setTop (mkF m 183 #[.val (.int x0), .val (.int x1), .val (.int x2), .val (.int x3), .val (.ref b1), .val (.ref b18), .val (.ref b35), .val (.int mv), .val (.ref b86), .val (.int (1 : Int32)), .val (.ref b119), .val (.ref r124), .unset] [])) _
          refine XS.aload X132.here hx rfl (hb hby at_183) rfl rfl ?_
          show Steps p.tables e below (T132.setTop (mkF m 185 #[.val (.int x0), .val (.int x1), .val (.int x2), .val (.int x3), .val (.ref b1), .val (.ref b18), .val (.ref b35), .val (.int mv), .val (.ref b86), .val (.int (1 : Int32)), .val (.ref b119), .val (.ref r124), .unset] [(.ref b119)])) _
          refine XS.aload X132.here hx rfl (hb hby at_185) rfl rfl ?_
          show Steps p.tables e below (T132.setTop (mkF m 187 #[.val (.int x0), .val (.int x1), .val (.int x2), .val (.int x3), .val (.ref b1), .val (.ref b18), .val (.ref b35), .val (.int mv), .val (.ref b86), .val (.int (1 : Int32)), .val (.ref b119), .val (.ref r124), .unset] [(.ref b86), (.ref b119)])) _
          refine st135.trans ?_
          show Steps p.tables e below (T135.setTop (mkF m 190 #[.val (.int x0), .val (.int x1), .val (.int x2), .val (.int x3), .val (.ref b1), .val (.ref b18), .val (.ref b35), .val (.int mv), .val (.ref b86), .val (.int (1 : Int32)), .val (.ref b119), .val (.ref r124), .unset] [])) _
          refine XS.aload X135.here hx rfl (hb hby at_190) rfl rfl ?_
          show Steps p.tables e below (T135.setTop (mkF m 192 #[.val (.int x0), .val (.int x1), .val (.int x2), .val (.int x3), .val (.ref b1), .val (.ref b18), .val (.ref b35), .val (.int mv), .val (.ref b86), .val (.int (1 : Int32)), .val (.ref b119), .val (.ref r124), .unset] [(.ref b119)])) _
          refine XS.aload X135.here hx rfl (hb hby at_192) rfl rfl ?_
          show Steps p.tables e below (T135.setTop (mkF m 194 #[.val (.int x0), .val (.int x1), .val (.int x2), .val (.int x3), .val (.ref b1), .val (.ref b18), .val (.ref b35), .val (.int mv), .val (.ref b86), .val (.int (1 : Int32)), .val (.ref b119), .val (.ref r124), .unset] [(.ref b86), (.ref b119)])) _
          refine st137.trans ?_
          show Steps p.tables e below (T137.setTop (mkF m 197 #[.val (.int x0), .val (.int x1), .val (.int x2), .val (.int x3), .val (.ref b1), .val (.ref b18), .val (.ref b35), .val (.int mv), .val (.ref b86), .val (.int (1 : Int32)), .val (.ref b119), .val (.ref r124), .unset] [])) _
          refine XS.aload X137.here hx rfl (hb hby at_197) rfl rfl ?_
          show Steps p.tables e below (T137.setTop (mkF m 199 #[.val (.int x0), .val (.int x1), .val (.int x2), .val (.int x3), .val (.ref b1), .val (.ref b18), .val (.ref b35), .val (.int mv), .val (.ref b86), .val (.int (1 : Int32)), .val (.ref b119), .val (.ref r124), .unset] [(.ref b119)])) _
          refine st139.trans ?_
          show Steps p.tables e below (T139.setTop (mkF m 202 #[.val (.int x0), .val (.int x1), .val (.int x2), .val (.int x3), .val (.ref b1), .val (.ref b18), .val (.ref b35), .val (.int mv), .val (.ref b86), .val (.int (1 : Int32)), .val (.ref b119), .val (.ref r124), .unset] [(.ref r124)])) _
          refine XS.astore X139.here hx rfl (hb hby at_202) rfl rfl (l' := #[.val (.int x0), .val (.int x1), .val (.int x2), .val (.int x3), .val (.ref b1), .val (.ref b18), .val (.ref b35), .val (.int mv), .val (.ref b86), .val (.int (1 : Int32)), .val (.ref b119), .val (.ref r124), .val (.ref r124)]) rfl ?_
          show Steps p.tables e below (T139.setTop (mkF m 204 #[.val (.int x0), .val (.int x1), .val (.int x2), .val (.int x3), .val (.ref b1), .val (.ref b18), .val (.ref b35), .val (.int mv), .val (.ref b86), .val (.int (1 : Int32)), .val (.ref b119), .val (.ref r124), .val (.ref r124)] [])) _
          refine XS.aload X139.here hx rfl (hb hby at_204) rfl rfl ?_
          show Steps p.tables e below (T139.setTop (mkF m 206 #[.val (.int x0), .val (.int x1), .val (.int x2), .val (.int x3), .val (.ref b1), .val (.ref b18), .val (.ref b35), .val (.int mv), .val (.ref b86), .val (.int (1 : Int32)), .val (.ref b119), .val (.ref r124), .val (.ref r124)] [(.ref r124)])) _
          refine XS.aload X139.here hx rfl (hb hby at_206) rfl rfl ?_
          show Steps p.tables e below (T139.setTop (mkF m 208 #[.val (.int x0), .val (.int x1), .val (.int x2), .val (.int x3), .val (.ref b1), .val (.ref b18), .val (.ref b35), .val (.int mv), .val (.ref b86), .val (.int (1 : Int32)), .val (.ref b119), .val (.ref r124), .val (.ref r124)] [(.ref r124), (.ref r124)])) _
          refine Jvm.RoadKit.acmp (g := (mkF m 208 #[.val (.int x0), .val (.int x1), .val (.int x2), .val (.int x3), .val (.ref b1), .val (.ref b18), .val (.ref b35), .val (.int mv), .val (.ref b86), .val (.int (1 : Int32)), .val (.ref b119), .val (.ref r124), .val (.ref r124)] [(.ref r124), (.ref r124)])) X139 hx rfl rfl rfl (pc0 := 208) (pc' := 211) (same := true) rfl (hb hby at_208) rfl (decide_eq_true (congrArg Value.ref rfl)) (by decide) (by decide) ?_
          show Steps p.tables e below (T139.setTop (mkF m 211 #[.val (.int x0), .val (.int x1), .val (.int x2), .val (.int x3), .val (.ref b1), .val (.ref b18), .val (.ref b35), .val (.int mv), .val (.ref b86), .val (.int (1 : Int32)), .val (.ref b119), .val (.ref r124), .val (.ref r124)] [])) _
          refine XS.iload X139.here hx rfl (hb hby at_211) rfl ?_
          show Steps p.tables e below (T139.setTop (mkF m 213 #[.val (.int x0), .val (.int x1), .val (.int x2), .val (.int x3), .val (.ref b1), .val (.ref b18), .val (.ref b35), .val (.int mv), .val (.ref b86), .val (.int (1 : Int32)), .val (.ref b119), .val (.ref r124), .val (.ref r124)] [(.int (1 : Int32))])) _
          refine XS.aload X139.here hx rfl (hb hby at_213) rfl rfl ?_
          show Steps p.tables e below (T139.setTop (mkF m 215 #[.val (.int x0), .val (.int x1), .val (.int x2), .val (.int x3), .val (.ref b1), .val (.ref b18), .val (.ref b35), .val (.int mv), .val (.ref b86), .val (.int (1 : Int32)), .val (.ref b119), .val (.ref r124), .val (.ref r124)] [(.ref r124), (.int (1 : Int32))])) _
          refine XS.ifnullNo X139.here hx rfl (hb hby at_215) rfl ?_
          show Steps p.tables e below (T139.setTop (mkF m 218 #[.val (.int x0), .val (.int x1), .val (.int x2), .val (.int x3), .val (.ref b1), .val (.ref b18), .val (.ref b35), .val (.int mv), .val (.ref b86), .val (.int (1 : Int32)), .val (.ref b119), .val (.ref r124), .val (.ref r124)] [(.int (1 : Int32))])) _
          refine XS.iconst X139.here hx rfl (hb hby at_218) ?_
          show Steps p.tables e below (T139.setTop (mkF m 219 #[.val (.int x0), .val (.int x1), .val (.int x2), .val (.int x3), .val (.ref b1), .val (.ref b18), .val (.ref b35), .val (.int mv), .val (.ref b86), .val (.int (1 : Int32)), .val (.ref b119), .val (.ref r124), .val (.ref r124)] [(.int (1 : Int32)), (.int (1 : Int32))])) _
          refine XS.goto X139.here hx rfl (pc0 := 219) (pc' := 223) rfl (hb hby at_219) (by decide) (by decide) ?_
          show Steps p.tables e below (T139.setTop (mkF m 223 #[.val (.int x0), .val (.int x1), .val (.int x2), .val (.int x3), .val (.ref b1), .val (.ref b18), .val (.ref b35), .val (.int mv), .val (.ref b86), .val (.int (1 : Int32)), .val (.ref b119), .val (.ref r124), .val (.ref r124)] [(.int (1 : Int32)), (.int (1 : Int32))])) _
          refine XS.icmpNo X139.here hx rfl (hb hby at_223) rfl (teq (by decide : (1 : Int32) = (1 : Int32))).2 ?_
          show Steps p.tables e below (T139.setTop (mkF m 226 #[.val (.int x0), .val (.int x1), .val (.int x2), .val (.int x3), .val (.ref b1), .val (.ref b18), .val (.ref b35), .val (.int mv), .val (.ref b86), .val (.int (1 : Int32)), .val (.ref b119), .val (.ref r124), .val (.ref r124)] [])) _
          refine XS.iconst X139.here hx rfl (hb hby at_226) ?_
          show Steps p.tables e below (T139.setTop (mkF m 227 #[.val (.int x0), .val (.int x1), .val (.int x2), .val (.int x3), .val (.ref b1), .val (.ref b18), .val (.ref b35), .val (.int mv), .val (.ref b86), .val (.int (1 : Int32)), .val (.ref b119), .val (.ref r124), .val (.ref r124)] [(.int (1 : Int32))])) _
          refine XS.goto X139.here hx rfl (pc0 := 227) (pc' := 231) rfl (hb hby at_227) (by decide) (by decide) ?_
          show Steps p.tables e below (T139.setTop (mkF m 231 #[.val (.int x0), .val (.int x1), .val (.int x2), .val (.int x3), .val (.ref b1), .val (.ref b18), .val (.ref b35), .val (.int mv), .val (.ref b86), .val (.int (1 : Int32)), .val (.ref b119), .val (.ref r124), .val (.ref r124)] [(.int (1 : Int32))])) _
          exact retOut X139 hx Bd.returns rfl (Or.inl ⟨rfl, Or.inr (Or.inl rfl), _, rfl⟩) (hb hby at_231) hretL
        · show Q_rm0 Z x0 x1 x2 x3 G1 us se h0 n0 _ T139.heap _
          rw [eq139]
          exact ⟨rfl, N140⟩
    · have pre141 : ∀ tgt, Steps p.tables e below (T35.setTop (mkF m 98 #[.val (.int x0), .val (.int x1), .val (.int x2), .val (.int x3), .val (.ref b1), .val (.ref b18), .val (.ref b35), .val (.int mv), .unset, .unset, .unset, .unset, .unset] [(.int (2 : Int32)), (.int mv)])) tgt → Steps p.tables e below (s₁.setTop (entryFrame m #[(.int x0), (.int x1), (.int x2), (.int x3)] maxLocals)) tgt := by
        intro tgt kgo
        refine pre82 _ ?_
        refine XS.icmpYes X35.here hx rfl (pc0 := 78) (pc' := 95) rfl (hb hby at_78) rfl (feq hc78_83).2 (by decide) (by decide) ?_
        show Steps p.tables e below (T35.setTop (mkF m 95 #[.val (.int x0), .val (.int x1), .val (.int x2), .val (.int x3), .val (.ref b1), .val (.ref b18), .val (.ref b35), .val (.int mv), .unset, .unset, .unset, .unset, .unset] [])) _
        refine XS.iload X35.here hx rfl (hb hby at_95) rfl ?_
        show Steps p.tables e below (T35.setTop (mkF m 97 #[.val (.int x0), .val (.int x1), .val (.int x2), .val (.int x3), .val (.ref b1), .val (.ref b18), .val (.ref b35), .val (.int mv), .unset, .unset, .unset, .unset, .unset] [(.int mv)])) _
        refine XS.iconst X35.here hx rfl (hb hby at_97) ?_
        show Steps p.tables e below (T35.setTop (mkF m 98 #[.val (.int x0), .val (.int x1), .val (.int x2), .val (.int x3), .val (.ref b1), .val (.ref b18), .val (.ref b35), .val (.int mv), .unset, .unset, .unset, .unset, .unset] [(.int (2 : Int32)), (.int mv)])) _
        exact kgo
      by_cases hc98_142 : mv = (2 : Int32)
      · have f144 := (f34.ext E35)
        obtain ⟨cl143, Ar143, q143, S143, M143, H143, G143⟩ := id f144
        have hin143 : ¬ ((0 : Int32) < 0 ∨ cl143.slots.size ≤ ((0 : Int32)).toNatClampNeg) := inb_of S143 ⟨by decide, by decide⟩
        have hat143 : cl143.slots[((0 : Int32)).toNatClampNeg]? = some (.int (nar .char (x0 &&& (255 : Int32)).toUInt32.toUInt16.toUInt32.toInt32)) := H143.at hin143 rfl
        obtain ⟨_, _, ⟨T145, L145, k145, n145⟩, -, X145, ⟨Lc145, hQ145, l145, y145, z145⟩, st145⟩ := Jvm.LawKit.callS X35 hx (y := (⟨"java/lang/String", "valueOf", "(C)Ljava/lang/String;"⟩ : MethodName)) hown (mvT hZ (ow116 hw)) (mvT hZ (ow117 hw)) (mvT hZ (ow16 hw)) (mvT hZ (ow118 hw)) (by decide) (backOf (W := 0) (rmvo l Z a0 hw [] (nar .char (x0 &&& (255 : Int32)).toUInt32.toUInt16.toUInt32.toInt32) G1 h35 n0 Ol37 O2 P5 (and255_chars x0).2) hZ (ow118 hw) (ow16 hw) (by decide) (by decide)) (g := (mkF m 105 #[.val (.int x0), .val (.int x1), .val (.int x2), .val (.int x3), .val (.ref b1), .val (.ref b18), .val (.ref b35), .val (.int mv), .unset, .unset, .unset, .unset, .unset] [(.int (nar .char (x0 &&& (255 : Int32)).toUInt32.toUInt16.toUInt32.toInt32))])) rfl (by rw [hml]; rfl) (argsL := [(.int (nar .char (x0 &&& (255 : Int32)).toUInt32.toUInt16.toUInt32.toInt32))]) (rest := []) (lenOf pd8 rfl) rfl (by show 2 * 0 + _ ≤ _; exact Nat.le_of_eq rfl) (hb hby at_105) (fun _ _ => ⟨rfl, e35, (by decide : 3 + 2 ≤ _), (by decide : 5 + 5 ≤ _)⟩)
        dsimp only [Pt.U, Pt.locs, Pt.cells, Pt.slots] at X145 l145 y145 z145 st145 hQ145
        subst l145 y145 z145
        obtain ⟨vb145, rfl, Nq145, kp145⟩ := hQ145
        have N146 := Fr.app N33 Nq145
        have CH147 := CH36.trans (CHr.keep kp145 sf0 CH36.1)
        have hk147 := Nat.le_trans hk36 kp145.1
        have Ol148 := Ol37.keep kp145 all0
        have pre149 : ∀ tgt, Steps p.tables e below (T145.setTop (mkF m 147 #[.val (.int x0), .val (.int x1), .val (.int x2), .val (.int x3), .val (.ref b1), .val (.ref b18), .val (.ref b35), .val (.int mv), .val (.ref vb145), .unset, .unset, .unset, .unset] [(.int (x3 &&& (1 : Int32)))])) tgt → Steps p.tables e below (s₁.setTop (entryFrame m #[(.int x0), (.int x1), (.int x2), (.int x3)] maxLocals)) tgt := by
          intro tgt kgo
          refine pre141 _ ?_
          refine XS.icmpNo X35.here hx rfl (hb hby at_98) rfl (teq hc98_142).2 ?_
          show Steps p.tables e below (T35.setTop (mkF m 101 #[.val (.int x0), .val (.int x1), .val (.int x2), .val (.int x3), .val (.ref b1), .val (.ref b18), .val (.ref b35), .val (.int mv), .unset, .unset, .unset, .unset, .unset] [])) _
          refine XS.aload X35.here hx rfl (hb hby at_101) rfl rfl ?_
          show Steps p.tables e below (T35.setTop (mkF m 103 #[.val (.int x0), .val (.int x1), .val (.int x2), .val (.int x3), .val (.ref b1), .val (.ref b18), .val (.ref b35), .val (.int mv), .unset, .unset, .unset, .unset, .unset] [(.ref b1)])) _
          refine XS.iconst X35.here hx rfl (hb hby at_103) ?_
          show Steps p.tables e below (T35.setTop (mkF m 104 #[.val (.int x0), .val (.int x1), .val (.int x2), .val (.int x3), .val (.ref b1), .val (.ref b18), .val (.ref b35), .val (.int mv), .unset, .unset, .unset, .unset, .unset] [(.int (0 : Int32)), (.ref b1)])) _
          refine X35.caload hx (j := (0 : Int32)) (v := (.int (nar .char (x0 &&& (255 : Int32)).toUInt32.toUInt16.toUInt32.toInt32))) (by rw [e35]; exact Ar143.1) (State.isArrayOf_alike hZ.alike Ar143.2.1) Ar143.2.2 hin143 hat143 (g := (mkF m 104 #[.val (.int x0), .val (.int x1), .val (.int x2), .val (.int x3), .val (.ref b1), .val (.ref b18), .val (.ref b35), .val (.int mv), .unset, .unset, .unset, .unset, .unset] [(.int (0 : Int32)), (.ref b1)])) rfl rfl (hb hby at_104) _ ?_
          show Steps p.tables e below (T35.setTop (mkF m 105 #[.val (.int x0), .val (.int x1), .val (.int x2), .val (.int x3), .val (.ref b1), .val (.ref b18), .val (.ref b35), .val (.int mv), .unset, .unset, .unset, .unset, .unset] [(.int (nar .char (x0 &&& (255 : Int32)).toUInt32.toUInt16.toUInt32.toInt32))])) _
          refine st145 _ ?_
          show Steps p.tables e below (T145.setTop (mkF m 108 #[.val (.int x0), .val (.int x1), .val (.int x2), .val (.int x3), .val (.ref b1), .val (.ref b18), .val (.ref b35), .val (.int mv), .unset, .unset, .unset, .unset, .unset] [(.ref vb145)])) _
          refine XS.astore X145.here hx rfl (hb hby at_108) rfl rfl (l' := #[.val (.int x0), .val (.int x1), .val (.int x2), .val (.int x3), .val (.ref b1), .val (.ref b18), .val (.ref b35), .val (.int mv), .val (.ref vb145), .unset, .unset, .unset, .unset]) rfl ?_
          show Steps p.tables e below (T145.setTop (mkF m 110 #[.val (.int x0), .val (.int x1), .val (.int x2), .val (.int x3), .val (.ref b1), .val (.ref b18), .val (.ref b35), .val (.int mv), .val (.ref vb145), .unset, .unset, .unset, .unset] [])) _
          refine XS.goto X145.here hx rfl (pc0 := 110) (pc' := 144) rfl (hb hby at_110) (by decide) (by decide) ?_
          show Steps p.tables e below (T145.setTop (mkF m 144 #[.val (.int x0), .val (.int x1), .val (.int x2), .val (.int x3), .val (.ref b1), .val (.ref b18), .val (.ref b35), .val (.int mv), .val (.ref vb145), .unset, .unset, .unset, .unset] [])) _
          refine XS.iloadN X145.here hx rfl (hb hby at_144) rfl ?_
          show Steps p.tables e below (T145.setTop (mkF m 145 #[.val (.int x0), .val (.int x1), .val (.int x2), .val (.int x3), .val (.ref b1), .val (.ref b18), .val (.ref b35), .val (.int mv), .val (.ref vb145), .unset, .unset, .unset, .unset] [(.int x3)])) _
          refine XS.iconst X145.here hx rfl (hb hby at_145) ?_
          show Steps p.tables e below (T145.setTop (mkF m 146 #[.val (.int x0), .val (.int x1), .val (.int x2), .val (.int x3), .val (.ref b1), .val (.ref b18), .val (.ref b35), .val (.int mv), .val (.ref vb145), .unset, .unset, .unset, .unset] [(.int (1 : Int32)), (.int x3)])) _
          refine XS.iand X145.here hx rfl (hb hby at_146) rfl ?_
          show Steps p.tables e below (T145.setTop (mkF m 147 #[.val (.int x0), .val (.int x1), .val (.int x2), .val (.int x3), .val (.ref b1), .val (.ref b18), .val (.ref b35), .val (.int mv), .val (.ref vb145), .unset, .unset, .unset, .unset] [(.int (x3 &&& (1 : Int32)))])) _
          exact kgo
        by_cases hc147_150 : (x3 &&& (1 : Int32)) = (0 : Int32)
        · have f151 := (f144.keep kp145 nin0)
          have f152 := ((V30.ext E35).keep kp145 nin0)
          have f153 := (V35.keep kp145 nin0)
          obtain ⟨T154, h154, X154, e154, E154, A154, D154, U154, st154⟩ := newO X145 hx hZ hown (ow1 hw) (ow2 hw) (ow3 hw) rfl (g := (mkF m 157 #[.val (.int x0), .val (.int x1), .val (.int x2), .val (.int x3), .val (.ref b1), .val (.ref b18), .val (.ref b35), .val (.int mv), .val (.ref vb145), .val (.int (0 : Int32)), .unset, .unset, .unset] [])) rfl (hb hby at_157) (by decide) (by decide)
          obtain ⟨b154, g154⟩ : ∃ z, z = T145.heap.size := ⟨_, rfl⟩
          rw [← g154] at A154 D154 U154 st154
          have gn154 : n0 ≤ b154 := Nat.le_trans (own_sz Ol148) (Nat.le_of_eq g154.symm)
          have neb1_154 : b1 ≠ b154 := Nat.ne_of_lt (Nat.lt_of_lt_of_le f151.lt (Nat.le_of_eq g154.symm))
          have neb18_154 : b18 ≠ b154 := Nat.ne_of_lt (Nat.lt_of_lt_of_le f152.lt (Nat.le_of_eq g154.symm))
          have neb35_154 : b35 ≠ b154 := Nat.ne_of_lt (Nat.lt_of_lt_of_le f153.lt (Nat.le_of_eq g154.symm))
          have Y154 := Safe.ext E154 CH147.1 (Safe.new (x := b154) (Nat.le_of_eq g154.symm))
          have CH155 := CH147.trans (CHr.ext E154 CH147.1)
          have hk155 := Nat.le_trans hk147 E154.1
          have Ol156 := Ol148.ext E154
          have Fended_154 : Fld Z h154 b154 "com/example/tx_at_boundaries/txatboundaries/mybatis/JoinedSessions" "ended" "Z" (.int (0 : Int32)) := D154 (Or.inl (ow29 hw)) (ty := .boolean) (by decide)
          have Frollback_154 : Fld Z h154 b154 "com/example/tx_at_boundaries/txatboundaries/mybatis/JoinedSessions" "rollback" "Lcom/example/tx_at_boundaries/txatboundaries/mybatis/JoinedSessions$SessionRollback;" .null := D154 (Or.inl (ow31 hw)) (ty := (.object "com/example/tx_at_boundaries/txatboundaries/mybatis/JoinedSessions$SessionRollback")) (by decide)
          obtain ⟨_, _, ⟨T157, L157, k157, n157⟩, -, X157, ⟨Lc157, hQ157, l157, y157, z157⟩, st157⟩ := X154.specialBack hx (y := (⟨"com/example/tx_at_boundaries/txatboundaries/mybatis/JoinedSessions", "<init>", "()V"⟩ : MethodName)) rfl hown (mvT hZ (ow4 hw)) (mvT hZ (ow5 hw)) (mvT hZ (ow6 hw)) (by decide) (backOf (W := 1) (rmji l Z a0 hw [] b154  h154 n0 Ol156 ) hZ (ow6 hw) (ow3 hw) (by decide) (by decide)) (g := (mkF m 161 #[.val (.int x0), .val (.int x1), .val (.int x2), .val (.int x3), .val (.ref b1), .val (.ref b18), .val (.ref b35), .val (.int mv), .val (.ref vb145), .val (.int (0 : Int32)), .unset, .unset, .unset] [(.ref b154), (.ref b154)])) rfl (by rw [hml]; rfl) (Steps.refl _) (a := b154) (argsL := []) (rest := [(.ref b154)]) (lenOf pd5 rfl) rfl (by show 2 * 0 + _ ≤ _; exact Nat.le_of_eq rfl) (hb hby at_161) (fun _ _ => ⟨rfl, e154, (by decide : 6 + 0 ≤ _), (by decide : 12 + 0 ≤ _)⟩)
          dsimp only [Pt.U, Pt.locs, Pt.cells, Pt.slots] at X157 l157 y157 z157 st157 hQ157
          subst l157 y157 z157
          obtain ⟨rfl, Nq157, eq157⟩ := hQ157
          have N158 := Fr.app N146 Nq157
          obtain ⟨cq159, kq159, q159a, q159b, q159c⟩ := isOf hZ eq157 A154
          obtain ⟨_, _, ⟨T159, L159, k159, n159⟩, -, X159, ⟨Lc159, hQ159, l159, y159, z159⟩, st159⟩ := X157.virtualBack hx (y := (⟨"com/example/tx_at_boundaries/txatboundaries/mybatis/JoinedSessions", "failure", "()Ljava/lang/Throwable;"⟩ : MethodName)) (z := (⟨"com/example/tx_at_boundaries/txatboundaries/mybatis/JoinedSessions", "failure", "()Ljava/lang/Throwable;"⟩ : MethodName)) hown (mvT hZ (ow87 hw)) (mvT hZ (ow88 hw)) (notFace_of_selects (args := #[]) (mvT hZ (ow90 hw))) (mvT hZ (ow90 hw)) (mvT hZ (ow89 hw)) (by decide) (backOf (W := 0) (rmfl l Z a0 hw [] b154 .null h154 n0 Ol156 rfl Frollback_154) hZ (ow91 hw) (ow3 hw) (by decide) (by decide)) q159a q159c (g := (mkF m 178 #[.val (.int x0), .val (.int x1), .val (.int x2), .val (.int x3), .val (.ref b1), .val (.ref b18), .val (.ref b35), .val (.int mv), .val (.ref vb145), .val (.int (0 : Int32)), .val (.ref b154), .unset, .unset] [(.ref b154)])) rfl (by rw [hml]; rfl) (Steps.refl _) (argsL := []) (rest := []) (lenOf pd6 rfl) rfl (by show 2 * 0 + _ ≤ _; exact Nat.le_of_eq rfl) (hb hby at_178) (fun _ _ => ⟨rfl, eq157, (by decide : 6 + 0 ≤ _), (by decide : 12 + 0 ≤ _)⟩)
          dsimp only [Pt.U, Pt.locs, Pt.cells, Pt.slots] at X159 l159 y159 z159 st159 hQ159
          subst l159 y159 z159
          obtain ⟨rfl, Nq159, eq159⟩ := hQ159
          have N160 := Fr.app N158 Nq159
          obtain ⟨cq161, kq161, q161a, q161b, q161c⟩ := isOf hZ eq159 A154
          obtain ⟨_, _, ⟨T161, L161, k161, n161⟩, -, X161, ⟨Lc161, hQ161, l161, y161, z161⟩, st161⟩ := X159.virtualBack hx (y := (⟨"com/example/tx_at_boundaries/txatboundaries/mybatis/JoinedSessions", "requireRunning", "(Ljava/lang/String;)V"⟩ : MethodName)) (z := (⟨"com/example/tx_at_boundaries/txatboundaries/mybatis/JoinedSessions", "requireRunning", "(Ljava/lang/String;)V"⟩ : MethodName)) hown (mvT hZ (ow92 hw)) (mvT hZ (ow24 hw)) (notFace_of_selects (args := #[]) (mvT hZ (ow26 hw))) (mvT hZ (ow26 hw)) (mvT hZ (ow25 hw)) (by decide) (backOf (W := 0) (rmrq l Z a0 hw [] b154 (.ref vb145)  h154 n0 Ol156 rfl Fended_154) hZ (ow27 hw) (ow3 hw) (by decide) (by decide)) q161a q161c (g := (mkF m 187 #[.val (.int x0), .val (.int x1), .val (.int x2), .val (.int x3), .val (.ref b1), .val (.ref b18), .val (.ref b35), .val (.int mv), .val (.ref vb145), .val (.int (0 : Int32)), .val (.ref b154), .val .null, .unset] [(.ref vb145), (.ref b154)])) rfl (by rw [hml]; rfl) (Steps.refl _) (argsL := [(.ref vb145)]) (rest := []) (lenOf pd4 rfl) rfl (by show 2 * 0 + _ ≤ _; exact Nat.le_of_eq rfl) (hb hby at_187) (fun _ _ => ⟨rfl, eq159, (by decide : 6 + 0 ≤ _), (by decide : 12 + 0 ≤ _)⟩)
          dsimp only [Pt.U, Pt.locs, Pt.cells, Pt.slots] at X161 l161 y161 z161 st161 hQ161
          subst l161 y161 z161
          obtain ⟨rfl, Nq161, eq161⟩ := hQ161
          have N162 := Fr.app N160 Nq161
          obtain ⟨cq163, kq163, q163a, q163b, q163c⟩ := isOf hZ eq161 A154
          obtain ⟨_, _, ⟨T163, L163, k163, n163⟩, -, X163, ⟨Lc163, hQ163, l163, y163, z163⟩, st163⟩ := X161.virtualBack hx (y := (⟨"com/example/tx_at_boundaries/txatboundaries/mybatis/JoinedSessions", "requireRunning", "(Ljava/lang/String;)V"⟩ : MethodName)) (z := (⟨"com/example/tx_at_boundaries/txatboundaries/mybatis/JoinedSessions", "requireRunning", "(Ljava/lang/String;)V"⟩ : MethodName)) hown (mvT hZ (ow92 hw)) (mvT hZ (ow24 hw)) (notFace_of_selects (args := #[]) (mvT hZ (ow26 hw))) (mvT hZ (ow26 hw)) (mvT hZ (ow25 hw)) (by decide) (backOf (W := 0) (rmrq l Z a0 hw [] b154 (.ref vb145)  h154 n0 Ol156 rfl Fended_154) hZ (ow27 hw) (ow3 hw) (by decide) (by decide)) q163a q163c (g := (mkF m 194 #[.val (.int x0), .val (.int x1), .val (.int x2), .val (.int x3), .val (.ref b1), .val (.ref b18), .val (.ref b35), .val (.int mv), .val (.ref vb145), .val (.int (0 : Int32)), .val (.ref b154), .val .null, .unset] [(.ref vb145), (.ref b154)])) rfl (by rw [hml]; rfl) (Steps.refl _) (argsL := [(.ref vb145)]) (rest := []) (lenOf pd4 rfl) rfl (by show 2 * 0 + _ ≤ _; exact Nat.le_of_eq rfl) (hb hby at_194) (fun _ _ => ⟨rfl, eq161, (by decide : 6 + 0 ≤ _), (by decide : 12 + 0 ≤ _)⟩)
          dsimp only [Pt.U, Pt.locs, Pt.cells, Pt.slots] at X163 l163 y163 z163 st163 hQ163
          subst l163 y163 z163
          obtain ⟨rfl, Nq163, eq163⟩ := hQ163
          have N164 := Fr.app N162 Nq163
          obtain ⟨cq165, kq165, q165a, q165b, q165c⟩ := isOf hZ eq163 A154
          obtain ⟨_, _, ⟨T165, L165, k165, n165⟩, -, X165, ⟨Lc165, hQ165, l165, y165, z165⟩, st165⟩ := X163.virtualBack hx (y := (⟨"com/example/tx_at_boundaries/txatboundaries/mybatis/JoinedSessions", "failure", "()Ljava/lang/Throwable;"⟩ : MethodName)) (z := (⟨"com/example/tx_at_boundaries/txatboundaries/mybatis/JoinedSessions", "failure", "()Ljava/lang/Throwable;"⟩ : MethodName)) hown (mvT hZ (ow87 hw)) (mvT hZ (ow88 hw)) (notFace_of_selects (args := #[]) (mvT hZ (ow90 hw))) (mvT hZ (ow90 hw)) (mvT hZ (ow89 hw)) (by decide) (backOf (W := 0) (rmfl l Z a0 hw [] b154 .null h154 n0 Ol156 rfl Frollback_154) hZ (ow91 hw) (ow3 hw) (by decide) (by decide)) q165a q165c (g := (mkF m 199 #[.val (.int x0), .val (.int x1), .val (.int x2), .val (.int x3), .val (.ref b1), .val (.ref b18), .val (.ref b35), .val (.int mv), .val (.ref vb145), .val (.int (0 : Int32)), .val (.ref b154), .val .null, .unset] [(.ref b154)])) rfl (by rw [hml]; rfl) (Steps.refl _) (argsL := []) (rest := []) (lenOf pd6 rfl) rfl (by show 2 * 0 + _ ≤ _; exact Nat.le_of_eq rfl) (hb hby at_199) (fun _ _ => ⟨rfl, eq163, (by decide : 6 + 0 ≤ _), (by decide : 12 + 0 ≤ _)⟩)
          dsimp only [Pt.U, Pt.locs, Pt.cells, Pt.slots] at X165 l165 y165 z165 st165 hQ165
          subst l165 y165 z165
          obtain ⟨rfl, Nq165, eq165⟩ := hQ165
          have N166 := Fr.app N164 Nq165
          obtain ⟨fs, hretL, hrun, hended, hEnd⟩ := Stand.leaveW X165 hS0 (by rw [eq165]; exact hk155) (v := some (.int (1 : Int32))) (fun h => by rw [Bd.returns] at h; cases h)
          have hCf : CHr Z EL0 s.vm s.heap T165.vm T165.heap := by rw [hh, eq165]; exact CH155.trans (CHv.at X165 hZ (own_EW hw) CH155.1)
          refine ⟨_, _, pre149 _ ?_, hrun, hended, _, _, rfl, ?_, hCf, hEnd.1, hEnd.2.1, hEnd.2.2.1, hEnd.2.2.2.mono (by decide) (by decide)⟩
          · refine XS.ifYes X145.here hx rfl (pc0 := 147) (pc' := 154) rfl (hb hby at_147) rfl ((if0 _ _).trans (teq hc147_150).1) (by decide) (by decide) ?_
            show Steps p.tables e below (T145.setTop (mkF m 154 #[.val (.int x0), .val (.int x1), .val (.int x2), .val (.int x3), .val (.ref b1), .val (.ref b18), .val (.ref b35), .val (.int mv), .val (.ref vb145), .unset, .unset, .unset, .unset] [])) _
            refine XS.iconst X145.here hx rfl (hb hby at_154) ?_
            show Steps p.tables e below (T145.setTop (mkF m 155 #[.val (.int x0), .val (.int x1), .val (.int x2), .val (.int x3), .val (.ref b1), .val (.ref b18), .val (.ref b35), .val (.int mv), .val (.ref vb145), .unset, .unset, .unset, .unset] [(.int (0 : Int32))])) _
            refine XS.istore X145.here hx rfl (hb hby at_155) rfl (l' := #[.val (.int x0), .val (.int x1), .val (.int x2), .val (.int x3), .val (.ref b1), .val (.ref b18), .val (.ref b35), .val (.int mv), .val (.ref vb145), .val (.int (0 : Int32)), .unset, .unset, .unset]) rfl ?_
            show Steps p.tables e below (T145.setTop (mkF m 157 #[.val (.int x0), .val (.int x1), .val (.int x2), .val (.int x3), .val (.ref b1), .val (.ref b18), .val (.ref b35), .val (.int mv), .val (.ref vb145), .val (.int (0 : Int32)), .unset, .unset, .unset] [])) _
            refine st154 _ ?_
            show Steps p.tables e below (T154.setTop (mkF m 160 #[.val (.int x0), .val (.int x1), .val (.int x2), .val (.int x3), .val (.ref b1), .val (.ref b18), .val (.ref b35), .val (.int mv), .val (.ref vb145), .val (.int (0 : Int32)), .unset, .unset, .unset] [(.ref b154)])) _
            refine XS.dup X154.here hx rfl (hb hby at_160) rfl rfl ?_
            show Steps p.tables e below (T154.setTop (mkF m 161 #[.val (.int x0), .val (.int x1), .val (.int x2), .val (.int x3), .val (.ref b1), .val (.ref b18), .val (.ref b35), .val (.int mv), .val (.ref vb145), .val (.int (0 : Int32)), .unset, .unset, .unset] [(.ref b154), (.ref b154)])) _
            refine st157.trans ?_
            show Steps p.tables e below (T157.setTop (mkF m 164 #[.val (.int x0), .val (.int x1), .val (.int x2), .val (.int x3), .val (.ref b1), .val (.ref b18), .val (.ref b35), .val (.int mv), .val (.ref vb145), .val (.int (0 : Int32)), .unset, .unset, .unset] [(.ref b154)])) _
            refine XS.astore X157.here hx rfl (hb hby at_164) rfl rfl (l' := #[.val (.int x0), .val (.int x1), .val (.int x2), .val (.int x3), .val (.ref b1), .val (.ref b18), .val (.ref b35), .val (.int mv), .val (.ref vb145), .val (.int (0 : Int32)), .val (.ref b154), .unset, .unset]) rfl ?_
            show Steps p.tables e below (T157.setTop (mkF m 166 #[.val (.int x0), .val (.int x1), .val (.int x2), .val (.int x3), .val (.ref b1), .val (.ref b18), .val (.ref b35), .val (.int mv), .val (.ref vb145), .val (.int (0 : Int32)), .val (.ref b154), .unset, .unset] [])) _
            refine XS.iload X157.here hx rfl (hb hby at_166) rfl ?_
            show Steps p.tables e below (T157.setTop (mkF m 168 #[.val (.int x0), .val (.int x1), .val (.int x2), .val (.int x3), .val (.ref b1), .val (.ref b18), .val (.ref b35), .val (.int mv), .val (.ref vb145), .val (.int (0 : Int32)), .val (.ref b154), .unset, .unset] [(.int (0 : Int32))])) _
            refine XS.ifYes X157.here hx rfl (pc0 := 168) (pc' := 176) rfl (hb hby at_168) rfl ((if0 _ _).trans (teq (by decide : (0 : Int32) = (0 : Int32))).1) (by decide) (by decide) ?_
            show Steps p.tables e below (T157.setTop (mkF m 176 #[.val (.int x0), .val (.int x1), .val (.int x2), .val (.int x3), .val (.ref b1), .val (.ref b18), .val (.ref b35), .val (.int mv), .val (.ref vb145), .val (.int (0 : Int32)), .val (.ref b154), .unset, .unset] [])) _
            refine XS.aload X157.here hx rfl (hb hby at_176) rfl rfl ?_
            show Steps p.tables e below (T157.setTop (mkF m 178 #[.val (.int x0), .val (.int x1), .val (.int x2), .val (.int x3), .val (.ref b1), .val (.ref b18), .val (.ref b35), .val (.int mv), .val (.ref vb145), .val (.int (0 : Int32)), .val (.ref b154), .unset, .unset] [(.ref b154)])) _
            refine st159.trans ?_
            show Steps p.tables e below (T159.setTop (mkF m 181 #[.val (.int x0), .val (.int x1), .val (.int x2), .val (.int x3), .val (.ref b1), .val (.ref b18), .val (.ref b35), .val (.int mv), .val (.ref vb145), .val (.int (0 : Int32)), .val (.ref b154), .unset, .unset] [.null])) _
            refine XS.astore X159.here hx rfl (hb hby at_181) rfl rfl (l' := #[.val (.int x0), .val (.int x1), .val (.int x2), .val (.int x3), .val (.ref b1), .val (.ref b18), .val (.ref b35), .val (.int mv), .val (.ref vb145), .val (.int (0 : Int32)), .val (.ref b154), .val .null, .unset]) rfl ?_
            show Steps p.tables e below (T159.setTop (mkF m 183 #[.val (.int x0), .val (.int x1), .val (.int x2), .val (.int x3), .val (.ref b1), .val (.ref b18), .val (.ref b35), .val (.int mv), .val (.ref vb145), .val (.int (0 : Int32)), .val (.ref b154), .val .null, .unset] [])) _
            refine XS.aload X159.here hx rfl (hb hby at_183) rfl rfl ?_
            show Steps p.tables e below (T159.setTop (mkF m 185 #[.val (.int x0), .val (.int x1), .val (.int x2), .val (.int x3), .val (.ref b1), .val (.ref b18), .val (.ref b35), .val (.int mv), .val (.ref vb145), .val (.int (0 : Int32)), .val (.ref b154), .val .null, .unset] [(.ref b154)])) _
            refine XS.aload X159.here hx rfl (hb hby at_185) rfl rfl ?_
            show Steps p.tables e below (T159.setTop (mkF m 187 #[.val (.int x0), .val (.int x1), .val (.int x2), .val (.int x3), .val (.ref b1), .val (.ref b18), .val (.ref b35), .val (.int mv), .val (.ref vb145), .val (.int (0 : Int32)), .val (.ref b154), .val .null, .unset] [(.ref vb145), (.ref b154)])) _
            refine st161.trans ?_
            show Steps p.tables e below (T161.setTop (mkF m 190 #[.val (.int x0), .val (.int x1), .val (.int x2), .val (.int x3), .val (.ref b1), .val (.ref b18), .val (.ref b35), .val (.int mv), .val (.ref vb145), .val (.int (0 : Int32)), .val (.ref b154), .val .null, .unset] [])) _
            refine XS.aload X161.here hx rfl (hb hby at_190) rfl rfl ?_
            show Steps p.tables e below (T161.setTop (mkF m 192 #[.val (.int x0), .val (.int x1), .val (.int x2), .val (.int x3), .val (.ref b1), .val (.ref b18), .val (.ref b35), .val (.int mv), .val (.ref vb145), .val (.int (0 : Int32)), .val (.ref b154), .val .null, .unset] [(.ref b154)])) _
            refine XS.aload X161.here hx rfl (hb hby at_192) rfl rfl ?_
            show Steps p.tables e below (T161.setTop (mkF m 194 #[.val (.int x0), .val (.int x1), .val (.int x2), .val (.int x3), .val (.ref b1), .val (.ref b18), .val (.ref b35), .val (.int mv), .val (.ref vb145), .val (.int (0 : Int32)), .val (.ref b154), .val .null, .unset] [(.ref vb145), (.ref b154)])) _
            refine st163.trans ?_
            show Steps p.tables e below (T163.setTop (mkF m 197 #[.val (.int x0), .val (.int x1), .val (.int x2), .val (.int x3), .val (.ref b1), .val (.ref b18), .val (.ref b35), .val (.int mv), .val (.ref vb145), .val (.int (0 : Int32)), .val (.ref b154), .val .null, .unset] [])) _
            refine XS.aload X163.here hx rfl (hb hby at_197) rfl rfl ?_
            show Steps p.tables e below (T163.setTop (mkF m 199 #[.val (.int x0), .val (.int x1), .val (.int x2), .val (.int x3), .val (.ref b1), .val (.ref b18), .val (.ref b35), .val (.int mv), .val (.ref vb145), .val (.int (0 : Int32)), .val (.ref b154), .val .null, .unset] [(.ref b154)])) _
            refine st165.trans ?_
            show Steps p.tables e below (T165.setTop (mkF m 202 #[.val (.int x0), .val (.int x1), .val (.int x2), .val (.int x3), .val (.ref b1), .val (.ref b18), .val (.ref b35), .val (.int mv), .val (.ref vb145), .val (.int (0 : Int32)), .val (.ref b154), .val .null, .unset] [.null])) _
            refine XS.astore X165.here hx rfl (hb hby at_202) rfl rfl (l' := #[.val (.int x0), .val (.int x1), .val (.int x2), .val (.int x3), .val (.ref b1), .val (.ref b18), .val (.ref b35), .val (.int mv), .val (.ref vb145), .val (.int (0 : Int32)), .val (.ref b154), .val .null, .val .null]) rfl ?_
            show Steps p.tables e below (T165.setTop (mkF m 204 #[.val (.int x0), .val (.int x1), .val (.int x2), .val (.int x3), .val (.ref b1), .val (.ref b18), .val (.ref b35), .val (.int mv), .val (.ref vb145), .val (.int (0 : Int32)), .val (.ref b154), .val .null, .val .null] [])) _
            refine XS.aload X165.here hx rfl (hb hby at_204) rfl rfl ?_
            show Steps p.tables e below (T165.setTop (mkF m 206 #[.val (.int x0), .val (.int x1), .val (.int x2), .val (.int x3), .val (.ref b1), .val (.ref b18), .val (.ref b35), .val (.int mv), .val (.ref vb145), .val (.int (0 : Int32)), .val (.ref b154), .val .null, .val .null] [.null])) _
            refine XS.aload X165.here hx rfl (hb hby at_206) rfl rfl ?_
            show Steps p.tables e below (T165.setTop (mkF m 208 #[.val (.int x0), .val (.int x1), .val (.int x2), .val (.int x3), .val (.ref b1), .val (.ref b18), .val (.ref b35), .val (.int mv), .val (.ref vb145), .val (.int (0 : Int32)), .val (.ref b154), .val .null, .val .null] [.null, .null])) _
            refine Jvm.RoadKit.acmp (g := (mkF m 208 #[.val (.int x0), .val (.int x1), .val (.int x2), .val (.int x3), .val (.ref b1), .val (.ref b18), .val (.ref b35), .val (.int mv), .val (.ref vb145), .val (.int (0 : Int32)), .val (.ref b154), .val .null, .val .null] [.null, .null])) X165 hx rfl rfl rfl (pc0 := 208) (pc' := 211) (same := true) rfl (hb hby at_208) rfl (decide_eq_true rfl) (by decide) (by decide) ?_
            show Steps p.tables e below (T165.setTop (mkF m 211 #[.val (.int x0), .val (.int x1), .val (.int x2), .val (.int x3), .val (.ref b1), .val (.ref b18), .val (.ref b35), .val (.int mv), .val (.ref vb145), .val (.int (0 : Int32)), .val (.ref b154), .val .null, .val .null] [])) _
            refine XS.iload X165.here hx rfl (hb hby at_211) rfl ?_
            show Steps p.tables e below (T165.setTop (mkF m 213 #[.val (.int x0), .val (.int x1), .val (.int x2), .val (.int x3), .val (.ref b1), .val (.ref b18), .val (.ref b35), .val (.int mv), .val (.ref vb145), .val (.int (0 : Int32)), .val (.ref b154), .val .null, .val .null] [(.int (0 : Int32))])) _
            refine XS.aload X165.here hx rfl (hb hby at_213) rfl rfl ?_
            show Steps p.tables e below (T165.setTop (mkF m 215 #[.val (.int x0), .val (.int x1), .val (.int x2), .val (.int x3), .val (.ref b1), .val (.ref b18), .val (.ref b35), .val (.int mv), .val (.ref vb145), .val (.int (0 : Int32)), .val (.ref b154), .val .null, .val .null] [.null, (.int (0 : Int32))])) _
            refine XS.ifnullYes X165.here hx rfl (pc0 := 215) (pc' := 222) rfl (hb hby at_215) rfl (by decide) (by decide) ?_
            show Steps p.tables e below (T165.setTop (mkF m 222 #[.val (.int x0), .val (.int x1), .val (.int x2), .val (.int x3), .val (.ref b1), .val (.ref b18), .val (.ref b35), .val (.int mv), .val (.ref vb145), .val (.int (0 : Int32)), .val (.ref b154), .val .null, .val .null] [(.int (0 : Int32))])) _
            refine XS.iconst X165.here hx rfl (hb hby at_222) ?_
            show Steps p.tables e below (T165.setTop (mkF m 223 #[.val (.int x0), .val (.int x1), .val (.int x2), .val (.int x3), .val (.ref b1), .val (.ref b18), .val (.ref b35), .val (.int mv), .val (.ref vb145), .val (.int (0 : Int32)), .val (.ref b154), .val .null, .val .null] [(.int (0 : Int32)), (.int (0 : Int32))])) _
            refine XS.icmpNo X165.here hx rfl (hb hby at_223) rfl (teq (by decide : (0 : Int32) = (0 : Int32))).2 ?_
            show Steps p.tables e below (T165.setTop (mkF m 226 #[.val (.int x0), .val (.int x1), .val (.int x2), .val (.int x3), .val (.ref b1), .val (.ref b18), .val (.ref b35), .val (.int mv), .val (.ref vb145), .val (.int (0 : Int32)), .val (.ref b154), .val .null, .val .null] [])) _
            refine XS.iconst X165.here hx rfl (hb hby at_226) ?_
            show Steps p.tables e below (T165.setTop (mkF m 227 #[.val (.int x0), .val (.int x1), .val (.int x2), .val (.int x3), .val (.ref b1), .val (.ref b18), .val (.ref b35), .val (.int mv), .val (.ref vb145), .val (.int (0 : Int32)), .val (.ref b154), .val .null, .val .null] [(.int (1 : Int32))])) _
            refine XS.goto X165.here hx rfl (pc0 := 227) (pc' := 231) rfl (hb hby at_227) (by decide) (by decide) ?_
            show Steps p.tables e below (T165.setTop (mkF m 231 #[.val (.int x0), .val (.int x1), .val (.int x2), .val (.int x3), .val (.ref b1), .val (.ref b18), .val (.ref b35), .val (.int mv), .val (.ref vb145), .val (.int (0 : Int32)), .val (.ref b154), .val .null, .val .null] [(.int (1 : Int32))])) _
            exact retOut X165 hx Bd.returns rfl (Or.inl ⟨rfl, Or.inr (Or.inl rfl), _, rfl⟩) (hb hby at_231) hretL
          · show Q_rm0 Z x0 x1 x2 x3 G1 us se h0 n0 _ T165.heap _
            rw [eq165]
            exact ⟨rfl, N166⟩
        · have f167 := (f144.keep kp145 nin0)
          have f168 := ((V30.ext E35).keep kp145 nin0)
          have f169 := (V35.keep kp145 nin0)
          obtain ⟨T170, h170, X170, e170, E170, A170, D170, U170, st170⟩ := newO X145 hx hZ hown (ow1 hw) (ow2 hw) (ow3 hw) rfl (g := (mkF m 157 #[.val (.int x0), .val (.int x1), .val (.int x2), .val (.int x3), .val (.ref b1), .val (.ref b18), .val (.ref b35), .val (.int mv), .val (.ref vb145), .val (.int (1 : Int32)), .unset, .unset, .unset] [])) rfl (hb hby at_157) (by decide) (by decide)
          obtain ⟨b170, g170⟩ : ∃ z, z = T145.heap.size := ⟨_, rfl⟩
          rw [← g170] at A170 D170 U170 st170
          have gn170 : n0 ≤ b170 := Nat.le_trans (own_sz Ol148) (Nat.le_of_eq g170.symm)
          have neb1_170 : b1 ≠ b170 := Nat.ne_of_lt (Nat.lt_of_lt_of_le f167.lt (Nat.le_of_eq g170.symm))
          have neb18_170 : b18 ≠ b170 := Nat.ne_of_lt (Nat.lt_of_lt_of_le f168.lt (Nat.le_of_eq g170.symm))
          have neb35_170 : b35 ≠ b170 := Nat.ne_of_lt (Nat.lt_of_lt_of_le f169.lt (Nat.le_of_eq g170.symm))
          have Y170 := Safe.ext E170 CH147.1 (Safe.new (x := b170) (Nat.le_of_eq g170.symm))
          have CH171 := CH147.trans (CHr.ext E170 CH147.1)
          have hk171 := Nat.le_trans hk147 E170.1
          have Ol172 := Ol148.ext E170
          have Fended_170 : Fld Z h170 b170 "com/example/tx_at_boundaries/txatboundaries/mybatis/JoinedSessions" "ended" "Z" (.int (0 : Int32)) := D170 (Or.inl (ow29 hw)) (ty := .boolean) (by decide)
          have Frollback_170 : Fld Z h170 b170 "com/example/tx_at_boundaries/txatboundaries/mybatis/JoinedSessions" "rollback" "Lcom/example/tx_at_boundaries/txatboundaries/mybatis/JoinedSessions$SessionRollback;" .null := D170 (Or.inl (ow31 hw)) (ty := (.object "com/example/tx_at_boundaries/txatboundaries/mybatis/JoinedSessions$SessionRollback")) (by decide)
          obtain ⟨_, _, ⟨T173, L173, k173, n173⟩, -, X173, ⟨Lc173, hQ173, l173, y173, z173⟩, st173⟩ := X170.specialBack hx (y := (⟨"com/example/tx_at_boundaries/txatboundaries/mybatis/JoinedSessions", "<init>", "()V"⟩ : MethodName)) rfl hown (mvT hZ (ow4 hw)) (mvT hZ (ow5 hw)) (mvT hZ (ow6 hw)) (by decide) (backOf (W := 1) (rmji l Z a0 hw [] b170  h170 n0 Ol172 ) hZ (ow6 hw) (ow3 hw) (by decide) (by decide)) (g := (mkF m 161 #[.val (.int x0), .val (.int x1), .val (.int x2), .val (.int x3), .val (.ref b1), .val (.ref b18), .val (.ref b35), .val (.int mv), .val (.ref vb145), .val (.int (1 : Int32)), .unset, .unset, .unset] [(.ref b170), (.ref b170)])) rfl (by rw [hml]; rfl) (Steps.refl _) (a := b170) (argsL := []) (rest := [(.ref b170)]) (lenOf pd5 rfl) rfl (by show 2 * 0 + _ ≤ _; exact Nat.le_of_eq rfl) (hb hby at_161) (fun _ _ => ⟨rfl, e170, (by decide : 6 + 0 ≤ _), (by decide : 12 + 0 ≤ _)⟩)
          dsimp only [Pt.U, Pt.locs, Pt.cells, Pt.slots] at X173 l173 y173 z173 st173 hQ173
          subst l173 y173 z173
          obtain ⟨rfl, Nq173, eq173⟩ := hQ173
          have N174 := Fr.app N146 Nq173
          obtain ⟨cq175, kq175, q175a, q175b, q175c⟩ := isOf hZ eq173 A170
          obtain ⟨_, _, ⟨T175, L175, k175, n175⟩, -, Xr175, hSr175, hgr175, ⟨Lc175, hQ175, l175, y175, z175, CR175⟩, st175⟩ := X173.virtualBackS hx (y := (⟨"com/example/tx_at_boundaries/txatboundaries/mybatis/JoinedSessions", "rollBack", "()V"⟩ : MethodName)) (z := (⟨"com/example/tx_at_boundaries/txatboundaries/mybatis/JoinedSessions", "rollBack", "()V"⟩ : MethodName)) hown (mvT hZ (ow10 hw)) (mvT hZ (ow11 hw)) (notFace_of_selects (args := #[]) (mvT hZ (ow13 hw))) (mvT hZ (ow13 hw)) (mvT hZ (ow12 hw)) (by decide) (backOfSKH (W := 0) (rmrb l Z a0 hw [] b170 us se h170 n0 Ol172 hst SU SS A170 Fended_170 Frollback_170 gn170) hZ (ow14 hw) (ow3 hw) (by decide) (by decide) (own_EW hw) CH171.1 (own_tk hZ0 hZ hK.1) (own_fk hZ0 hZ hK.2)) q175a q175c (g := (mkF m 173 #[.val (.int x0), .val (.int x1), .val (.int x2), .val (.int x3), .val (.ref b1), .val (.ref b18), .val (.ref b35), .val (.int mv), .val (.ref vb145), .val (.int (1 : Int32)), .val (.ref b170), .unset, .unset] [(.ref b170)])) rfl (by rw [hml]; rfl) (Steps.refl _) (argsL := []) (rest := []) (lenOf pd5 rfl) rfl (by show 2 * 0 + _ ≤ _; exact Nat.le_of_eq rfl) (hb hby at_173) (fun _ _ => ⟨rfl, eq173, (by decide : 6 + 6 ≤ _), (by decide : 12 + 3066 ≤ _)⟩)
          dsimp only [Pt.U, Pt.locs, Pt.cells, Pt.slots] at Xr175 hSr175 hgr175 l175 y175 z175 CR175 st175 hQ175
          subst l175 y175 z175
          obtain ⟨X175, hS175, hZ175, hown175⟩ := rebS hS0 (by rw [eq173]; exact hk171) Xr175 hSr175 hgr175 hZ hown
          have hk175 : T175.heap.size ≤ T175.heap.size := Nat.le_refl _
          obtain ⟨r175, rfl, Nq175, kp175, fe175, fr175⟩ := hQ175
          have N176 := Fr.app N174 Nq175
          have f177 := (f167.ext E170)
          have f178 := (f168.ext E170)
          have f179 := (f169.ext E170)
          have CH180 := CH171.trans CR175
          have Ol181 := Ol172.keep kp175 (allS gn170 all0)
          have f183 := (A170.keep kp175)
          obtain ⟨cq182, kq182, q182a, q182b, q182c⟩ := isOf hZ175 rfl f183
          obtain ⟨_, _, ⟨T182, L182, k182, n182⟩, -, X182, ⟨Lc182, hQ182, l182, y182, z182⟩, st182⟩ := X175.virtualBack hx (y := (⟨"com/example/tx_at_boundaries/txatboundaries/mybatis/JoinedSessions", "failure", "()Ljava/lang/Throwable;"⟩ : MethodName)) (z := (⟨"com/example/tx_at_boundaries/txatboundaries/mybatis/JoinedSessions", "failure", "()Ljava/lang/Throwable;"⟩ : MethodName)) hown175 (mvT hZ175 (ow87 hw)) (mvT hZ175 (ow88 hw)) (notFace_of_selects (args := #[]) (mvT hZ175 (ow90 hw))) (mvT hZ175 (ow90 hw)) (mvT hZ175 (ow89 hw)) (by decide) (backOf (W := 0) (rmfl l Z a0 hw [] b170 (.ref r175) T175.heap n0 Ol181 rfl fr175) hZ175 (ow91 hw) (ow3 hw) (by decide) (by decide)) q182a q182c (g := (mkF m 178 #[.val (.int x0), .val (.int x1), .val (.int x2), .val (.int x3), .val (.ref b1), .val (.ref b18), .val (.ref b35), .val (.int mv), .val (.ref vb145), .val (.int (1 : Int32)), .val (.ref b170), .unset, .unset] [(.ref b170)])) rfl (by rw [hml]; rfl) (Steps.refl _) (argsL := []) (rest := []) (lenOf pd6 rfl) rfl (by show 2 * 0 + _ ≤ _; exact Nat.le_of_eq rfl) (hb hby at_178) (fun _ _ => ⟨rfl, rfl, (by decide : 12 + 0 ≤ _), (by decide : 3078 + 0 ≤ _)⟩)
          dsimp only [Pt.U, Pt.locs, Pt.cells, Pt.slots] at X182 l182 y182 z182 st182 hQ182
          subst l182 y182 z182
          obtain ⟨rfl, Nq182, eq182⟩ := hQ182
          have N184 := Fr.app N176 Nq182
          obtain ⟨cq185, kq185, q185a, q185b, q185c⟩ := isOf hZ175 eq182 f183
          obtain ⟨_, _, ⟨T185, L185, k185, n185⟩, -, X185, ⟨Lc185, hQ185, l185, y185, z185⟩, st185⟩ := X182.virtualBack hx (y := (⟨"com/example/tx_at_boundaries/txatboundaries/mybatis/JoinedSessions", "requireRunning", "(Ljava/lang/String;)V"⟩ : MethodName)) (z := (⟨"com/example/tx_at_boundaries/txatboundaries/mybatis/JoinedSessions", "requireRunning", "(Ljava/lang/String;)V"⟩ : MethodName)) hown175 (mvT hZ175 (ow92 hw)) (mvT hZ175 (ow24 hw)) (notFace_of_selects (args := #[]) (mvT hZ175 (ow26 hw))) (mvT hZ175 (ow26 hw)) (mvT hZ175 (ow25 hw)) (by decide) (backOf (W := 0) (rmrq l Z a0 hw [] b170 (.ref vb145)  T175.heap n0 Ol181 rfl fe175) hZ175 (ow27 hw) (ow3 hw) (by decide) (by decide)) q185a q185c (g := (mkF m 187 #[.val (.int x0), .val (.int x1), .val (.int x2), .val (.int x3), .val (.ref b1), .val (.ref b18), .val (.ref b35), .val (.int mv), .val (.ref vb145), .val (.int (1 : Int32)), .val (.ref b170), .val (.ref r175), .unset] [(.ref vb145), (.ref b170)])) rfl (by rw [hml]; rfl) (Steps.refl _) (argsL := [(.ref vb145)]) (rest := []) (lenOf pd4 rfl) rfl (by show 2 * 0 + _ ≤ _; exact Nat.le_of_eq rfl) (hb hby at_187) (fun _ _ => ⟨rfl, eq182, (by decide : 12 + 0 ≤ _), (by decide : 3078 + 0 ≤ _)⟩)
          dsimp only [Pt.U, Pt.locs, Pt.cells, Pt.slots] at X185 l185 y185 z185 st185 hQ185
          subst l185 y185 z185
          obtain ⟨rfl, Nq185, eq185⟩ := hQ185
          have N186 := Fr.app N184 Nq185
          obtain ⟨cq187, kq187, q187a, q187b, q187c⟩ := isOf hZ175 eq185 f183
          obtain ⟨_, _, ⟨T187, L187, k187, n187⟩, -, X187, ⟨Lc187, hQ187, l187, y187, z187⟩, st187⟩ := X185.virtualBack hx (y := (⟨"com/example/tx_at_boundaries/txatboundaries/mybatis/JoinedSessions", "requireRunning", "(Ljava/lang/String;)V"⟩ : MethodName)) (z := (⟨"com/example/tx_at_boundaries/txatboundaries/mybatis/JoinedSessions", "requireRunning", "(Ljava/lang/String;)V"⟩ : MethodName)) hown175 (mvT hZ175 (ow92 hw)) (mvT hZ175 (ow24 hw)) (notFace_of_selects (args := #[]) (mvT hZ175 (ow26 hw))) (mvT hZ175 (ow26 hw)) (mvT hZ175 (ow25 hw)) (by decide) (backOf (W := 0) (rmrq l Z a0 hw [] b170 (.ref vb145)  T175.heap n0 Ol181 rfl fe175) hZ175 (ow27 hw) (ow3 hw) (by decide) (by decide)) q187a q187c (g := (mkF m 194 #[.val (.int x0), .val (.int x1), .val (.int x2), .val (.int x3), .val (.ref b1), .val (.ref b18), .val (.ref b35), .val (.int mv), .val (.ref vb145), .val (.int (1 : Int32)), .val (.ref b170), .val (.ref r175), .unset] [(.ref vb145), (.ref b170)])) rfl (by rw [hml]; rfl) (Steps.refl _) (argsL := [(.ref vb145)]) (rest := []) (lenOf pd4 rfl) rfl (by show 2 * 0 + _ ≤ _; exact Nat.le_of_eq rfl) (hb hby at_194) (fun _ _ => ⟨rfl, eq185, (by decide : 12 + 0 ≤ _), (by decide : 3078 + 0 ≤ _)⟩)
          dsimp only [Pt.U, Pt.locs, Pt.cells, Pt.slots] at X187 l187 y187 z187 st187 hQ187
          subst l187 y187 z187
          obtain ⟨rfl, Nq187, eq187⟩ := hQ187
          have N188 := Fr.app N186 Nq187
          obtain ⟨cq189, kq189, q189a, q189b, q189c⟩ := isOf hZ175 eq187 f183
          obtain ⟨_, _, ⟨T189, L189, k189, n189⟩, -, X189, ⟨Lc189, hQ189, l189, y189, z189⟩, st189⟩ := X187.virtualBack hx (y := (⟨"com/example/tx_at_boundaries/txatboundaries/mybatis/JoinedSessions", "failure", "()Ljava/lang/Throwable;"⟩ : MethodName)) (z := (⟨"com/example/tx_at_boundaries/txatboundaries/mybatis/JoinedSessions", "failure", "()Ljava/lang/Throwable;"⟩ : MethodName)) hown175 (mvT hZ175 (ow87 hw)) (mvT hZ175 (ow88 hw)) (notFace_of_selects (args := #[]) (mvT hZ175 (ow90 hw))) (mvT hZ175 (ow90 hw)) (mvT hZ175 (ow89 hw)) (by decide) (backOf (W := 0) (rmfl l Z a0 hw [] b170 (.ref r175) T175.heap n0 Ol181 rfl fr175) hZ175 (ow91 hw) (ow3 hw) (by decide) (by decide)) q189a q189c (g := (mkF m 199 #[.val (.int x0), .val (.int x1), .val (.int x2), .val (.int x3), .val (.ref b1), .val (.ref b18), .val (.ref b35), .val (.int mv), .val (.ref vb145), .val (.int (1 : Int32)), .val (.ref b170), .val (.ref r175), .unset] [(.ref b170)])) rfl (by rw [hml]; rfl) (Steps.refl _) (argsL := []) (rest := []) (lenOf pd6 rfl) rfl (by show 2 * 0 + _ ≤ _; exact Nat.le_of_eq rfl) (hb hby at_199) (fun _ _ => ⟨rfl, eq187, (by decide : 12 + 0 ≤ _), (by decide : 3078 + 0 ≤ _)⟩)
          dsimp only [Pt.U, Pt.locs, Pt.cells, Pt.slots] at X189 l189 y189 z189 st189 hQ189
          subst l189 y189 z189
          obtain ⟨rfl, Nq189, eq189⟩ := hQ189
          have N190 := Fr.app N188 Nq189
          obtain ⟨fs, hretL, hrun, hended, hEnd⟩ := Stand.leaveW X189 hS175 (by rw [eq189]; exact hk175) (v := some (.int (1 : Int32))) (fun h => by rw [Bd.returns] at h; cases h)
          have hCf : CHr Z EL0 s.vm s.heap T189.vm T189.heap := by rw [hh, eq189]; exact CH180.trans (CHv.at X189 hZ175 (own_EW hw) CH180.1)
          refine ⟨_, _, pre149 _ ?_, hrun, hended, _, _, rfl, ?_, hCf, hEnd.1, hEnd.2.1, hEnd.2.2.1, hEnd.2.2.2.mono (by decide) (by decide)⟩
          · refine XS.ifNo X145.here hx rfl (hb hby at_147) rfl ((if0 _ _).trans (feq hc147_150).1) ?_
            show Steps p.tables e below (T145.setTop (mkF m 150 #[.val (.int x0), .val (.int x1), .val (.int x2), .val (.int x3), .val (.ref b1), .val (.ref b18), .val (.ref b35), .val (.int mv), .val (.ref vb145), .unset, .unset, .unset, .unset] [])) _
            refine XS.iconst X145.here hx rfl (hb hby at_150) ?_
            show Steps p.tables e below (T145.setTop (mkF m 151 #[.val (.int x0), .val (.int x1), .val (.int x2), .val (.int x3), .val (.ref b1), .val (.ref b18), .val (.ref b35), .val (.int mv), .val (.ref vb145), .unset, .unset, .unset, .unset] [(.int (1 : Int32))])) _
            refine XS.goto X145.here hx rfl (pc0 := 151) (pc' := 155) rfl (hb hby at_151) (by decide) (by decide) ?_
            show Steps p.tables e below (T145.setTop (mkF m 155 #[.val (.int x0), .val (.int x1), .val (.int x2), .val (.int x3), .val (.ref b1), .val (.ref b18), .val (.ref b35), .val (.int mv), .val (.ref vb145), .unset, .unset, .unset, .unset] [(.int (1 : Int32))])) _
            refine XS.istore X145.here hx rfl (hb hby at_155) rfl (l' := #[.val (.int x0), .val (.int x1), .val (.int x2), .val (.int x3), .val (.ref b1), .val (.ref b18), .val (.ref b35), .val (.int mv), .val (.ref vb145), .val (.int (1 : Int32)), .unset, .unset, .unset]) rfl ?_
            show Steps p.tables e below (T145.setTop (mkF m 157 #[.val (.int x0), .val (.int x1), .val (.int x2), .val (.int x3), .val (.ref b1), .val (.ref b18), .val (.ref b35), .val (.int mv), .val (.ref vb145), .val (.int (1 : Int32)), .unset, .unset, .unset] [])) _
            refine st170 _ ?_
            show Steps p.tables e below (T170.setTop (mkF m 160 #[.val (.int x0), .val (.int x1), .val (.int x2), .val (.int x3), .val (.ref b1), .val (.ref b18), .val (.ref b35), .val (.int mv), .val (.ref vb145), .val (.int (1 : Int32)), .unset, .unset, .unset] [(.ref b170)])) _
            refine XS.dup X170.here hx rfl (hb hby at_160) rfl rfl ?_
            show Steps p.tables e below (T170.setTop (mkF m 161 #[.val (.int x0), .val (.int x1), .val (.int x2), .val (.int x3), .val (.ref b1), .val (.ref b18), .val (.ref b35), .val (.int mv), .val (.ref vb145), .val (.int (1 : Int32)), .unset, .unset, .unset] [(.ref b170), (.ref b170)])) _
            refine st173.trans ?_
            show Steps p.tables e below (T173.setTop (mkF m 164 #[.val (.int x0), .val (.int x1), .val (.int x2), .val (.int x3), .val (.ref b1), .val (.ref b18), .val (.ref b35), .val (.int mv), .val (.ref vb145), .val (.int (1 : Int32)), .unset, .unset, .unset] [(.ref b170)])) _
            refine XS.astore X173.here hx rfl (hb hby at_164) rfl rfl (l' := #[.val (.int x0), .val (.int x1), .val (.int x2), .val (.int x3), .val (.ref b1), .val (.ref b18), .val (.ref b35), .val (.int mv), .val (.ref vb145), .val (.int (1 : Int32)), .val (.ref b170), .unset, .unset]) rfl ?_
            show Steps p.tables e below (T173.setTop (mkF m 166 #[.val (.int x0), .val (.int x1), .val (.int x2), .val (.int x3), .val (.ref b1), .val (.ref b18), .val (.ref b35), .val (.int mv), .val (.ref vb145), .val (.int (1 : Int32)), .val (.ref b170), .unset, .unset] [])) _
            refine XS.iload X173.here hx rfl (hb hby at_166) rfl ?_
            show Steps p.tables e below (T173.setTop (mkF m 168 #[.val (.int x0), .val (.int x1), .val (.int x2), .val (.int x3), .val (.ref b1), .val (.ref b18), .val (.ref b35), .val (.int mv), .val (.ref vb145), .val (.int (1 : Int32)), .val (.ref b170), .unset, .unset] [(.int (1 : Int32))])) _
            refine XS.ifNo X173.here hx rfl (hb hby at_168) rfl ((if0 _ _).trans (feq (by decide : ¬ ((1 : Int32) = (0 : Int32)))).1) ?_
            show Steps p.tables e below (T173.setTop (mkF m 171 #[.val (.int x0), .val (.int x1), .val (.int x2), .val (.int x3), .val (.ref b1), .val (.ref b18), .val (.ref b35), .val (.int mv), .val (.ref vb145), .val (.int (1 : Int32)), .val (.ref b170), .unset, .unset] [])) _
            refine XS.aload X173.here hx rfl (hb hby at_171) rfl rfl ?_
            show Steps p.tables e below (T173.setTop (mkF m 173 #[.val (.int x0), .val (.int x1), .val (.int x2), .val (.int x3), .val (.ref b1), .val (.ref b18), .val (.ref b35), .val (.int mv), .val (.ref vb145), .val (.int (1 : Int32)), .val (.ref b170), .unset, .unset] [(.ref b170)])) _
            refine st175.trans ?_
            show Steps p.tables e below (T175.setTop (mkF m 176 #[.val (.int x0), .val (.int x1), .val (.int x2), .val (.int x3), .val (.ref b1), .val (.ref b18), .val (.ref b35), .val (.int mv), .val (.ref vb145), .val (.int (1 : Int32)), .val (.ref b170), .unset, .unset] [])) _
            refine XS.aload X175.here hx rfl (hb hby at_176) rfl rfl ?_
            show Steps p.tables e below (T175.setTop (mkF m 178 #[.val (.int x0), .val (.int x1), .val (.int x2), .val (.int x3), .val (.ref b1), .val (.ref b18), .val (.ref b35), .val (.int mv), .val (.ref vb145), .val (.int (1 : Int32)), .val (.ref b170), .unset, .unset] [(.ref b170)])) _
            refine st182.trans ?_
            show Steps p.tables e below (T182.setTop (mkF m 181 #[.val (.int x0), .val (.int x1), .val (.int x2), .val (.int x3), .val (.ref b1), .val (.ref b18), .val (.ref b35), .val (.int mv), .val (.ref vb145), .val (.int (1 : Int32)), .val (.ref b170), .unset, .unset] [(.ref r175)])) _
            refine XS.astore X182.here hx rfl (hb hby at_181) rfl rfl (l' := #[.val (.int x0), .val (.int x1), .val (.int x2), .val (.int x3), .val (.ref b1), .val (.ref b18), .val (.ref b35), .val (.int mv), .val (.ref vb145), .val (.int (1 : Int32)), .val (.ref b170), .val (.ref r175), .unset]) rfl ?_
            show Steps p.tables e below (T182.setTop (mkF m 183 #[.val (.int x0), .val (.int x1), .val (.int x2), .val (.int x3), .val (.ref b1), .val (.ref b18), .val (.ref b35), .val (.int mv), .val (.ref vb145), .val (.int (1 : Int32)), .val (.ref b170), .val (.ref r175), .unset] [])) _
            refine XS.aload X182.here hx rfl (hb hby at_183) rfl rfl ?_
            show Steps p.tables e below (T182.setTop (mkF m 185 #[.val (.int x0), .val (.int x1), .val (.int x2), .val (.int x3), .val (.ref b1), .val (.ref b18), .val (.ref b35), .val (.int mv), .val (.ref vb145), .val (.int (1 : Int32)), .val (.ref b170), .val (.ref r175), .unset] [(.ref b170)])) _
            refine XS.aload X182.here hx rfl (hb hby at_185) rfl rfl ?_
            show Steps p.tables e below (T182.setTop (mkF m 187 #[.val (.int x0), .val (.int x1), .val (.int x2), .val (.int x3), .val (.ref b1), .val (.ref b18), .val (.ref b35), .val (.int mv), .val (.ref vb145), .val (.int (1 : Int32)), .val (.ref b170), .val (.ref r175), .unset] [(.ref vb145), (.ref b170)])) _
            refine st185.trans ?_
            show Steps p.tables e below (T185.setTop (mkF m 190 #[.val (.int x0), .val (.int x1), .val (.int x2), .val (.int x3), .val (.ref b1), .val (.ref b18), .val (.ref b35), .val (.int mv), .val (.ref vb145), .val (.int (1 : Int32)), .val (.ref b170), .val (.ref r175), .unset] [])) _
            refine XS.aload X185.here hx rfl (hb hby at_190) rfl rfl ?_
            show Steps p.tables e below (T185.setTop (mkF m 192 #[.val (.int x0), .val (.int x1), .val (.int x2), .val (.int x3), .val (.ref b1), .val (.ref b18), .val (.ref b35), .val (.int mv), .val (.ref vb145), .val (.int (1 : Int32)), .val (.ref b170), .val (.ref r175), .unset] [(.ref b170)])) _
            refine XS.aload X185.here hx rfl (hb hby at_192) rfl rfl ?_
            show Steps p.tables e below (T185.setTop (mkF m 194 #[.val (.int x0), .val (.int x1), .val (.int x2), .val (.int x3), .val (.ref b1), .val (.ref b18), .val (.ref b35), .val (.int mv), .val (.ref vb145), .val (.int (1 : Int32)), .val (.ref b170), .val (.ref r175), .unset] [(.ref vb145), (.ref b170)])) _
            refine st187.trans ?_
            show Steps p.tables e below (T187.setTop (mkF m 197 #[.val (.int x0), .val (.int x1), .val (.int x2), .val (.int x3), .val (.ref b1), .val (.ref b18), .val (.ref b35), .val (.int mv), .val (.ref vb145), .val (.int (1 : Int32)), .val (.ref b170), .val (.ref r175), .unset] [])) _
            refine XS.aload X187.here hx rfl (hb hby at_197) rfl rfl ?_
            show Steps p.tables e below (T187.setTop (mkF m 199 #[.val (.int x0), .val (.int x1), .val (.int x2), .val (.int x3), .val (.ref b1), .val (.ref b18), .val (.ref b35), .val (.int mv), .val (.ref vb145), .val (.int (1 : Int32)), .val (.ref b170), .val (.ref r175), .unset] [(.ref b170)])) _
            refine st189.trans ?_
            show Steps p.tables e below (T189.setTop (mkF m 202 #[.val (.int x0), .val (.int x1), .val (.int x2), .val (.int x3), .val (.ref b1), .val (.ref b18), .val (.ref b35), .val (.int mv), .val (.ref vb145), .val (.int (1 : Int32)), .val (.ref b170), .val (.ref r175), .unset] [(.ref r175)])) _
            refine XS.astore X189.here hx rfl (hb hby at_202) rfl rfl (l' := #[.val (.int x0), .val (.int x1), .val (.int x2), .val (.int x3), .val (.ref b1), .val (.ref b18), .val (.ref b35), .val (.int mv), .val (.ref vb145), .val (.int (1 : Int32)), .val (.ref b170), .val (.ref r175), .val (.ref r175)]) rfl ?_
            show Steps p.tables e below (T189.setTop (mkF m 204 #[.val (.int x0), .val (.int x1), .val (.int x2), .val (.int x3), .val (.ref b1), .val (.ref b18), .val (.ref b35), .val (.int mv), .val (.ref vb145), .val (.int (1 : Int32)), .val (.ref b170), .val (.ref r175), .val (.ref r175)] [])) _
            refine XS.aload X189.here hx rfl (hb hby at_204) rfl rfl ?_
            show Steps p.tables e below (T189.setTop (mkF m 206 #[.val (.int x0), .val (.int x1), .val (.int x2), .val (.int x3), .val (.ref b1), .val (.ref b18), .val (.ref b35), .val (.int mv), .val (.ref vb145), .val (.int (1 : Int32)), .val (.ref b170), .val (.ref r175), .val (.ref r175)] [(.ref r175)])) _
            refine XS.aload X189.here hx rfl (hb hby at_206) rfl rfl ?_
            show Steps p.tables e below (T189.setTop (mkF m 208 #[.val (.int x0), .val (.int x1), .val (.int x2), .val (.int x3), .val (.ref b1), .val (.ref b18), .val (.ref b35), .val (.int mv), .val (.ref vb145), .val (.int (1 : Int32)), .val (.ref b170), .val (.ref r175), .val (.ref r175)] [(.ref r175), (.ref r175)])) _
            refine Jvm.RoadKit.acmp (g := (mkF m 208 #[.val (.int x0), .val (.int x1), .val (.int x2), .val (.int x3), .val (.ref b1), .val (.ref b18), .val (.ref b35), .val (.int mv), .val (.ref vb145), .val (.int (1 : Int32)), .val (.ref b170), .val (.ref r175), .val (.ref r175)] [(.ref r175), (.ref r175)])) X189 hx rfl rfl rfl (pc0 := 208) (pc' := 211) (same := true) rfl (hb hby at_208) rfl (decide_eq_true (congrArg Value.ref rfl)) (by decide) (by decide) ?_
            show Steps p.tables e below (T189.setTop (mkF m 211 #[.val (.int x0), .val (.int x1), .val (.int x2), .val (.int x3), .val (.ref b1), .val (.ref b18), .val (.ref b35), .val (.int mv), .val (.ref vb145), .val (.int (1 : Int32)), .val (.ref b170), .val (.ref r175), .val (.ref r175)] [])) _
            refine XS.iload X189.here hx rfl (hb hby at_211) rfl ?_
            show Steps p.tables e below (T189.setTop (mkF m 213 #[.val (.int x0), .val (.int x1), .val (.int x2), .val (.int x3), .val (.ref b1), .val (.ref b18), .val (.ref b35), .val (.int mv), .val (.ref vb145), .val (.int (1 : Int32)), .val (.ref b170), .val (.ref r175), .val (.ref r175)] [(.int (1 : Int32))])) _
            refine XS.aload X189.here hx rfl (hb hby at_213) rfl rfl ?_
            show Steps p.tables e below (T189.setTop (mkF m 215 #[.val (.int x0), .val (.int x1), .val (.int x2), .val (.int x3), .val (.ref b1), .val (.ref b18), .val (.ref b35), .val (.int mv), .val (.ref vb145), .val (.int (1 : Int32)), .val (.ref b170), .val (.ref r175), .val (.ref r175)] [(.ref r175), (.int (1 : Int32))])) _
            refine XS.ifnullNo X189.here hx rfl (hb hby at_215) rfl ?_
            show Steps p.tables e below (T189.setTop (mkF m 218 #[.val (.int x0), .val (.int x1), .val (.int x2), .val (.int x3), .val (.ref b1), .val (.ref b18), .val (.ref b35), .val (.int mv), .val (.ref vb145), .val (.int (1 : Int32)), .val (.ref b170), .val (.ref r175), .val (.ref r175)] [(.int (1 : Int32))])) _
            refine XS.iconst X189.here hx rfl (hb hby at_218) ?_
            show Steps p.tables e below (T189.setTop (mkF m 219 #[.val (.int x0), .val (.int x1), .val (.int x2), .val (.int x3), .val (.ref b1), .val (.ref b18), .val (.ref b35), .val (.int mv), .val (.ref vb145), .val (.int (1 : Int32)), .val (.ref b170), .val (.ref r175), .val (.ref r175)] [(.int (1 : Int32)), (.int (1 : Int32))])) _
            refine XS.goto X189.here hx rfl (pc0 := 219) (pc' := 223) rfl (hb hby at_219) (by decide) (by decide) ?_
            show Steps p.tables e below (T189.setTop (mkF m 223 #[.val (.int x0), .val (.int x1), .val (.int x2), .val (.int x3), .val (.ref b1), .val (.ref b18), .val (.ref b35), .val (.int mv), .val (.ref vb145), .val (.int (1 : Int32)), .val (.ref b170), .val (.ref r175), .val (.ref r175)] [(.int (1 : Int32)), (.int (1 : Int32))])) _
            refine XS.icmpNo X189.here hx rfl (hb hby at_223) rfl (teq (by decide : (1 : Int32) = (1 : Int32))).2 ?_
            show Steps p.tables e below (T189.setTop (mkF m 226 #[.val (.int x0), .val (.int x1), .val (.int x2), .val (.int x3), .val (.ref b1), .val (.ref b18), .val (.ref b35), .val (.int mv), .val (.ref vb145), .val (.int (1 : Int32)), .val (.ref b170), .val (.ref r175), .val (.ref r175)] [])) _
            refine XS.iconst X189.here hx rfl (hb hby at_226) ?_
            show Steps p.tables e below (T189.setTop (mkF m 227 #[.val (.int x0), .val (.int x1), .val (.int x2), .val (.int x3), .val (.ref b1), .val (.ref b18), .val (.ref b35), .val (.int mv), .val (.ref vb145), .val (.int (1 : Int32)), .val (.ref b170), .val (.ref r175), .val (.ref r175)] [(.int (1 : Int32))])) _
            refine XS.goto X189.here hx rfl (pc0 := 227) (pc' := 231) rfl (hb hby at_227) (by decide) (by decide) ?_
            show Steps p.tables e below (T189.setTop (mkF m 231 #[.val (.int x0), .val (.int x1), .val (.int x2), .val (.int x3), .val (.ref b1), .val (.ref b18), .val (.ref b35), .val (.int mv), .val (.ref vb145), .val (.int (1 : Int32)), .val (.ref b170), .val (.ref r175), .val (.ref r175)] [(.int (1 : Int32))])) _
            exact retOut X189 hx Bd.returns rfl (Or.inl ⟨rfl, Or.inr (Or.inl rfl), _, rfl⟩) (hb hby at_231) hretL
          · show Q_rm0 Z x0 x1 x2 x3 G1 us se h0 n0 _ T189.heap _
            rw [eq189]
            exact ⟨rfl, N190⟩
      · have pre191 : ∀ tgt, Steps p.tables e below (T35.setTop (mkF m 116 #[.val (.int x0), .val (.int x1), .val (.int x2), .val (.int x3), .val (.ref b1), .val (.ref b18), .val (.ref b35), .val (.int mv), .unset, .unset, .unset, .unset, .unset] [(.int (3 : Int32)), (.int mv)])) tgt → Steps p.tables e below (s₁.setTop (entryFrame m #[(.int x0), (.int x1), (.int x2), (.int x3)] maxLocals)) tgt := by
          intro tgt kgo
          refine pre141 _ ?_
          refine XS.icmpYes X35.here hx rfl (pc0 := 98) (pc' := 113) rfl (hb hby at_98) rfl (feq hc98_142).2 (by decide) (by decide) ?_
          show Steps p.tables e below (T35.setTop (mkF m 113 #[.val (.int x0), .val (.int x1), .val (.int x2), .val (.int x3), .val (.ref b1), .val (.ref b18), .val (.ref b35), .val (.int mv), .unset, .unset, .unset, .unset, .unset] [])) _
          refine XS.iload X35.here hx rfl (hb hby at_113) rfl ?_
          show Steps p.tables e below (T35.setTop (mkF m 115 #[.val (.int x0), .val (.int x1), .val (.int x2), .val (.int x3), .val (.ref b1), .val (.ref b18), .val (.ref b35), .val (.int mv), .unset, .unset, .unset, .unset, .unset] [(.int mv)])) _
          refine XS.iconst X35.here hx rfl (hb hby at_115) ?_
          show Steps p.tables e below (T35.setTop (mkF m 116 #[.val (.int x0), .val (.int x1), .val (.int x2), .val (.int x3), .val (.ref b1), .val (.ref b18), .val (.ref b35), .val (.int mv), .unset, .unset, .unset, .unset, .unset] [(.int (3 : Int32)), (.int mv)])) _
          exact kgo
        by_cases hc116_192 : mv = (3 : Int32)
        · have f193 := (f34.ext E35)
          have f194 := (V30.ext E35)
          obtain ⟨T195, h195, X195, e195, E195, A195, D195, U195, st195⟩ := newO X35 hx hZ hown (ow93 hw) (ow17 hw) (ow16 hw) e35 (g := (mkF m 119 #[.val (.int x0), .val (.int x1), .val (.int x2), .val (.int x3), .val (.ref b1), .val (.ref b18), .val (.ref b35), .val (.int mv), .unset, .unset, .unset, .unset, .unset] [])) rfl (hb hby at_119) (by decide) (by decide)
          obtain ⟨b195, g195⟩ : ∃ z, z = h35.size := ⟨_, rfl⟩
          rw [← g195] at A195 D195 U195 st195
          have gn195 : n0 ≤ b195 := Nat.le_trans (own_sz Ol37) (Nat.le_of_eq g195.symm)
          have neb1_195 : b1 ≠ b195 := Nat.ne_of_lt (Nat.lt_of_lt_of_le f193.lt (Nat.le_of_eq g195.symm))
          have neb18_195 : b18 ≠ b195 := Nat.ne_of_lt (Nat.lt_of_lt_of_le f194.lt (Nat.le_of_eq g195.symm))
          have neb35_195 : b35 ≠ b195 := Nat.ne_of_lt (Nat.lt_of_lt_of_le V35.lt (Nat.le_of_eq g195.symm))
          have Y195 := Safe.ext E195 CH36.1 (Safe.new (x := b195) (Nat.le_of_eq g195.symm))
          have CH196 := CH36.trans (CHr.ext E195 CH36.1)
          have hk196 := Nat.le_trans hk36 E195.1
          have Ol197 := Ol37.ext E195
          have Fvalue_195 : Fld Z h195 b195 "java/lang/String" "value" "[B" .null := D195 (Or.inr (ow19 hw)) (ty := (.array .byte)) (by decide)
          have Fcoder_195 : Fld Z h195 b195 "java/lang/String" "coder" "B" (.int (0 : Int32)) := D195 (Or.inr (ow20 hw)) (ty := .byte) (by decide)
          have f198 := (f194.ext E195)
          obtain ⟨_, _, ⟨T199, L199, k199, n199⟩, -, X199, ⟨Lc199, hQ199, l199, y199, z199⟩, st199⟩ := X195.specialBack hx (y := (⟨"java/lang/String", "<init>", "([C)V"⟩ : MethodName)) rfl hown (mvT hZ (ow94 hw)) (mvT hZ (ow95 hw)) (mvT hZ (ow96 hw)) (by decide) (StrChars.Road.backV (W := 1) hZ (own_ws hw) (kI := 4) (ow17 hw) (cs := ([nar .char (nar .char ((x0 &&& (255 : Int32)).toUInt32.toUInt16.toUInt32.toInt32)), nar .char (nar .char ((x1 &&& (255 : Int32)).toUInt32.toUInt16.toUInt32.toInt32))] : List Int32)) (bs := ([nar .char (nar .char ((x0 &&& (255 : Int32)).toUInt32.toUInt16.toUInt32.toInt32)), nar .char (nar .char ((x1 &&& (255 : Int32)).toUInt32.toUInt16.toUInt32.toInt32))] : List Int32).map (fun c => c.toInt8.toInt32)) (n := 2) gn195 (own_sz Ol197) A195 Fvalue_195 Fcoder_195 f198 (O2.ext Ol197.2) P5 rfl rfl (by decide) (by decide) (own_hp2 x0 x1) rfl (by decide) (by decide)) (g := (mkF m 125 #[.val (.int x0), .val (.int x1), .val (.int x2), .val (.int x3), .val (.ref b1), .val (.ref b18), .val (.ref b35), .val (.int mv), .unset, .unset, .unset, .unset, .unset] [(.ref b18), (.ref b195), (.ref b195)])) rfl (by rw [hml]; rfl) (Steps.refl _) (a := b195) (argsL := [(.ref b18)]) (rest := [(.ref b195)]) (lenOf pd7 rfl) rfl (by show 2 * 0 + _ ≤ _; exact Nat.le_of_eq rfl) (hb hby at_125) (fun _ _ => ⟨rfl, e195, (by decide : 4 + 1 ≤ _), (by decide : 9 + 2 ≤ _)⟩)
          dsimp only [Pt.U, Pt.locs, Pt.cells, Pt.slots] at X199 l199 y199 z199 st199 hQ199
          subst l199 y199 z199
          obtain ⟨rfl, Nq199, kp199, sE199, sC199, t199, k199_, -, -, -, sV199, sA199⟩ := hQ199
          have N200 := Fr.app N33 Nq199
          have CH201 := CH196.trans (CHr.keep kp199 (sfS Y195 sf0) CH196.1)
          have hk201 := Nat.le_trans hk196 kp199.1
          have Ol202 := Ol197.keep kp199 (allS gn195 all0)
          have pre203 : ∀ tgt, Steps p.tables e below (T199.setTop (mkF m 147 #[.val (.int x0), .val (.int x1), .val (.int x2), .val (.int x3), .val (.ref b1), .val (.ref b18), .val (.ref b35), .val (.int mv), .val (.ref b195), .unset, .unset, .unset, .unset] [(.int (x3 &&& (1 : Int32)))])) tgt → Steps p.tables e below (s₁.setTop (entryFrame m #[(.int x0), (.int x1), (.int x2), (.int x3)] maxLocals)) tgt := by
            intro tgt kgo
            refine pre191 _ ?_
            refine XS.icmpNo X35.here hx rfl (hb hby at_116) rfl (teq hc116_192).2 ?_
            show Steps p.tables e below (T35.setTop (mkF m 119 #[.val (.int x0), .val (.int x1), .val (.int x2), .val (.int x3), .val (.ref b1), .val (.ref b18), .val (.ref b35), .val (.int mv), .unset, .unset, .unset, .unset, .unset] [])) _
            refine st195 _ ?_
            show Steps p.tables e below (T195.setTop (mkF m 122 #[.val (.int x0), .val (.int x1), .val (.int x2), .val (.int x3), .val (.ref b1), .val (.ref b18), .val (.ref b35), .val (.int mv), .unset, .unset, .unset, .unset, .unset] [(.ref b195)])) _
            refine XS.dup X195.here hx rfl (hb hby at_122) rfl rfl ?_
            show Steps p.tables e below (T195.setTop (mkF m 123 #[.val (.int x0), .val (.int x1), .val (.int x2), .val (.int x3), .val (.ref b1), .val (.ref b18), .val (.ref b35), .val (.int mv), .unset, .unset, .unset, .unset, .unset] [(.ref b195), (.ref b195)])) _
            refine XS.aload X195.here hx rfl (hb hby at_123) rfl rfl ?_
            show Steps p.tables e below (T195.setTop (mkF m 125 #[.val (.int x0), .val (.int x1), .val (.int x2), .val (.int x3), .val (.ref b1), .val (.ref b18), .val (.ref b35), .val (.int mv), .unset, .unset, .unset, .unset, .unset] [(.ref b18), (.ref b195), (.ref b195)])) _
            refine st199.trans ?_
            show Steps p.tables e below (T199.setTop (mkF m 128 #[.val (.int x0), .val (.int x1), .val (.int x2), .val (.int x3), .val (.ref b1), .val (.ref b18), .val (.ref b35), .val (.int mv), .unset, .unset, .unset, .unset, .unset] [(.ref b195)])) _
            refine XS.astore X199.here hx rfl (hb hby at_128) rfl rfl (l' := #[.val (.int x0), .val (.int x1), .val (.int x2), .val (.int x3), .val (.ref b1), .val (.ref b18), .val (.ref b35), .val (.int mv), .val (.ref b195), .unset, .unset, .unset, .unset]) rfl ?_
            show Steps p.tables e below (T199.setTop (mkF m 130 #[.val (.int x0), .val (.int x1), .val (.int x2), .val (.int x3), .val (.ref b1), .val (.ref b18), .val (.ref b35), .val (.int mv), .val (.ref b195), .unset, .unset, .unset, .unset] [])) _
            refine XS.goto X199.here hx rfl (pc0 := 130) (pc' := 144) rfl (hb hby at_130) (by decide) (by decide) ?_
            show Steps p.tables e below (T199.setTop (mkF m 144 #[.val (.int x0), .val (.int x1), .val (.int x2), .val (.int x3), .val (.ref b1), .val (.ref b18), .val (.ref b35), .val (.int mv), .val (.ref b195), .unset, .unset, .unset, .unset] [])) _
            refine XS.iloadN X199.here hx rfl (hb hby at_144) rfl ?_
            show Steps p.tables e below (T199.setTop (mkF m 145 #[.val (.int x0), .val (.int x1), .val (.int x2), .val (.int x3), .val (.ref b1), .val (.ref b18), .val (.ref b35), .val (.int mv), .val (.ref b195), .unset, .unset, .unset, .unset] [(.int x3)])) _
            refine XS.iconst X199.here hx rfl (hb hby at_145) ?_
            show Steps p.tables e below (T199.setTop (mkF m 146 #[.val (.int x0), .val (.int x1), .val (.int x2), .val (.int x3), .val (.ref b1), .val (.ref b18), .val (.ref b35), .val (.int mv), .val (.ref b195), .unset, .unset, .unset, .unset] [(.int (1 : Int32)), (.int x3)])) _
            refine XS.iand X199.here hx rfl (hb hby at_146) rfl ?_
            show Steps p.tables e below (T199.setTop (mkF m 147 #[.val (.int x0), .val (.int x1), .val (.int x2), .val (.int x3), .val (.ref b1), .val (.ref b18), .val (.ref b35), .val (.int mv), .val (.ref b195), .unset, .unset, .unset, .unset] [(.int (x3 &&& (1 : Int32)))])) _
            exact kgo
          by_cases hc147_204 : (x3 &&& (1 : Int32)) = (0 : Int32)
          · have f205 := ((f193.ext E195).keep kp199 (ninS neb1_195 nin0))
            have f206 := (f198.keep kp199 (ninS neb18_195 nin0))
            have f207 := ((V35.ext E195).keep kp199 (ninS neb35_195 nin0))
            have f208 := (A195.keep kp199)
            obtain ⟨T209, h209, X209, e209, E209, A209, D209, U209, st209⟩ := newO X199 hx hZ hown (ow1 hw) (ow2 hw) (ow3 hw) rfl (g := (mkF m 157 #[.val (.int x0), .val (.int x1), .val (.int x2), .val (.int x3), .val (.ref b1), .val (.ref b18), .val (.ref b35), .val (.int mv), .val (.ref b195), .val (.int (0 : Int32)), .unset, .unset, .unset] [])) rfl (hb hby at_157) (by decide) (by decide)
            obtain ⟨b209, g209⟩ : ∃ z, z = T199.heap.size := ⟨_, rfl⟩
            rw [← g209] at A209 D209 U209 st209
            have gn209 : n0 ≤ b209 := Nat.le_trans (own_sz Ol202) (Nat.le_of_eq g209.symm)
            have neb1_209 : b1 ≠ b209 := Nat.ne_of_lt (Nat.lt_of_lt_of_le f205.lt (Nat.le_of_eq g209.symm))
            have neb18_209 : b18 ≠ b209 := Nat.ne_of_lt (Nat.lt_of_lt_of_le f206.lt (Nat.le_of_eq g209.symm))
            have neb35_209 : b35 ≠ b209 := Nat.ne_of_lt (Nat.lt_of_lt_of_le f207.lt (Nat.le_of_eq g209.symm))
            have neb195_209 : b195 ≠ b209 := Nat.ne_of_lt (Nat.lt_of_lt_of_le f208.lt (Nat.le_of_eq g209.symm))
            have Y209 := Safe.ext E209 CH201.1 (Safe.new (x := b209) (Nat.le_of_eq g209.symm))
            have CH210 := CH201.trans (CHr.ext E209 CH201.1)
            have hk210 := Nat.le_trans hk201 E209.1
            have Ol211 := Ol202.ext E209
            have Fended_209 : Fld Z h209 b209 "com/example/tx_at_boundaries/txatboundaries/mybatis/JoinedSessions" "ended" "Z" (.int (0 : Int32)) := D209 (Or.inl (ow29 hw)) (ty := .boolean) (by decide)
            have Frollback_209 : Fld Z h209 b209 "com/example/tx_at_boundaries/txatboundaries/mybatis/JoinedSessions" "rollback" "Lcom/example/tx_at_boundaries/txatboundaries/mybatis/JoinedSessions$SessionRollback;" .null := D209 (Or.inl (ow31 hw)) (ty := (.object "com/example/tx_at_boundaries/txatboundaries/mybatis/JoinedSessions$SessionRollback")) (by decide)
            obtain ⟨_, _, ⟨T212, L212, k212, n212⟩, -, X212, ⟨Lc212, hQ212, l212, y212, z212⟩, st212⟩ := X209.specialBack hx (y := (⟨"com/example/tx_at_boundaries/txatboundaries/mybatis/JoinedSessions", "<init>", "()V"⟩ : MethodName)) rfl hown (mvT hZ (ow4 hw)) (mvT hZ (ow5 hw)) (mvT hZ (ow6 hw)) (by decide) (backOf (W := 1) (rmji l Z a0 hw [] b209  h209 n0 Ol211 ) hZ (ow6 hw) (ow3 hw) (by decide) (by decide)) (g := (mkF m 161 #[.val (.int x0), .val (.int x1), .val (.int x2), .val (.int x3), .val (.ref b1), .val (.ref b18), .val (.ref b35), .val (.int mv), .val (.ref b195), .val (.int (0 : Int32)), .unset, .unset, .unset] [(.ref b209), (.ref b209)])) rfl (by rw [hml]; rfl) (Steps.refl _) (a := b209) (argsL := []) (rest := [(.ref b209)]) (lenOf pd5 rfl) rfl (by show 2 * 0 + _ ≤ _; exact Nat.le_of_eq rfl) (hb hby at_161) (fun _ _ => ⟨rfl, e209, (by decide : 6 + 0 ≤ _), (by decide : 13 + 0 ≤ _)⟩)
            dsimp only [Pt.U, Pt.locs, Pt.cells, Pt.slots] at X212 l212 y212 z212 st212 hQ212
            subst l212 y212 z212
            obtain ⟨rfl, Nq212, eq212⟩ := hQ212
            have N213 := Fr.app N200 Nq212
            obtain ⟨cq214, kq214, q214a, q214b, q214c⟩ := isOf hZ eq212 A209
            obtain ⟨_, _, ⟨T214, L214, k214, n214⟩, -, X214, ⟨Lc214, hQ214, l214, y214, z214⟩, st214⟩ := X212.virtualBack hx (y := (⟨"com/example/tx_at_boundaries/txatboundaries/mybatis/JoinedSessions", "failure", "()Ljava/lang/Throwable;"⟩ : MethodName)) (z := (⟨"com/example/tx_at_boundaries/txatboundaries/mybatis/JoinedSessions", "failure", "()Ljava/lang/Throwable;"⟩ : MethodName)) hown (mvT hZ (ow87 hw)) (mvT hZ (ow88 hw)) (notFace_of_selects (args := #[]) (mvT hZ (ow90 hw))) (mvT hZ (ow90 hw)) (mvT hZ (ow89 hw)) (by decide) (backOf (W := 0) (rmfl l Z a0 hw [] b209 .null h209 n0 Ol211 rfl Frollback_209) hZ (ow91 hw) (ow3 hw) (by decide) (by decide)) q214a q214c (g := (mkF m 178 #[.val (.int x0), .val (.int x1), .val (.int x2), .val (.int x3), .val (.ref b1), .val (.ref b18), .val (.ref b35), .val (.int mv), .val (.ref b195), .val (.int (0 : Int32)), .val (.ref b209), .unset, .unset] [(.ref b209)])) rfl (by rw [hml]; rfl) (Steps.refl _) (argsL := []) (rest := []) (lenOf pd6 rfl) rfl (by show 2 * 0 + _ ≤ _; exact Nat.le_of_eq rfl) (hb hby at_178) (fun _ _ => ⟨rfl, eq212, (by decide : 6 + 0 ≤ _), (by decide : 13 + 0 ≤ _)⟩)
            dsimp only [Pt.U, Pt.locs, Pt.cells, Pt.slots] at X214 l214 y214 z214 st214 hQ214
            subst l214 y214 z214
            obtain ⟨rfl, Nq214, eq214⟩ := hQ214
            have N215 := Fr.app N213 Nq214
            obtain ⟨cq216, kq216, q216a, q216b, q216c⟩ := isOf hZ eq214 A209
            obtain ⟨_, _, ⟨T216, L216, k216, n216⟩, -, X216, ⟨Lc216, hQ216, l216, y216, z216⟩, st216⟩ := X214.virtualBack hx (y := (⟨"com/example/tx_at_boundaries/txatboundaries/mybatis/JoinedSessions", "requireRunning", "(Ljava/lang/String;)V"⟩ : MethodName)) (z := (⟨"com/example/tx_at_boundaries/txatboundaries/mybatis/JoinedSessions", "requireRunning", "(Ljava/lang/String;)V"⟩ : MethodName)) hown (mvT hZ (ow92 hw)) (mvT hZ (ow24 hw)) (notFace_of_selects (args := #[]) (mvT hZ (ow26 hw))) (mvT hZ (ow26 hw)) (mvT hZ (ow25 hw)) (by decide) (backOf (W := 0) (rmrq l Z a0 hw [] b209 (.ref b195)  h209 n0 Ol211 rfl Fended_209) hZ (ow27 hw) (ow3 hw) (by decide) (by decide)) q216a q216c (g := (mkF m 187 #[.val (.int x0), .val (.int x1), .val (.int x2), .val (.int x3), .val (.ref b1), .val (.ref b18), .val (.ref b35), .val (.int mv), .val (.ref b195), .val (.int (0 : Int32)), .val (.ref b209), .val .null, .unset] [(.ref b195), (.ref b209)])) rfl (by rw [hml]; rfl) (Steps.refl _) (argsL := [(.ref b195)]) (rest := []) (lenOf pd4 rfl) rfl (by show 2 * 0 + _ ≤ _; exact Nat.le_of_eq rfl) (hb hby at_187) (fun _ _ => ⟨rfl, eq214, (by decide : 6 + 0 ≤ _), (by decide : 13 + 0 ≤ _)⟩)
            dsimp only [Pt.U, Pt.locs, Pt.cells, Pt.slots] at X216 l216 y216 z216 st216 hQ216
            subst l216 y216 z216
            obtain ⟨rfl, Nq216, eq216⟩ := hQ216
            have N217 := Fr.app N215 Nq216
            obtain ⟨cq218, kq218, q218a, q218b, q218c⟩ := isOf hZ eq216 A209
            obtain ⟨_, _, ⟨T218, L218, k218, n218⟩, -, X218, ⟨Lc218, hQ218, l218, y218, z218⟩, st218⟩ := X216.virtualBack hx (y := (⟨"com/example/tx_at_boundaries/txatboundaries/mybatis/JoinedSessions", "requireRunning", "(Ljava/lang/String;)V"⟩ : MethodName)) (z := (⟨"com/example/tx_at_boundaries/txatboundaries/mybatis/JoinedSessions", "requireRunning", "(Ljava/lang/String;)V"⟩ : MethodName)) hown (mvT hZ (ow92 hw)) (mvT hZ (ow24 hw)) (notFace_of_selects (args := #[]) (mvT hZ (ow26 hw))) (mvT hZ (ow26 hw)) (mvT hZ (ow25 hw)) (by decide) (backOf (W := 0) (rmrq l Z a0 hw [] b209 (.ref b195)  h209 n0 Ol211 rfl Fended_209) hZ (ow27 hw) (ow3 hw) (by decide) (by decide)) q218a q218c (g := (mkF m 194 #[.val (.int x0), .val (.int x1), .val (.int x2), .val (.int x3), .val (.ref b1), .val (.ref b18), .val (.ref b35), .val (.int mv), .val (.ref b195), .val (.int (0 : Int32)), .val (.ref b209), .val .null, .unset] [(.ref b195), (.ref b209)])) rfl (by rw [hml]; rfl) (Steps.refl _) (argsL := [(.ref b195)]) (rest := []) (lenOf pd4 rfl) rfl (by show 2 * 0 + _ ≤ _; exact Nat.le_of_eq rfl) (hb hby at_194) (fun _ _ => ⟨rfl, eq216, (by decide : 6 + 0 ≤ _), (by decide : 13 + 0 ≤ _)⟩)
            dsimp only [Pt.U, Pt.locs, Pt.cells, Pt.slots] at X218 l218 y218 z218 st218 hQ218
            subst l218 y218 z218
            obtain ⟨rfl, Nq218, eq218⟩ := hQ218
            have N219 := Fr.app N217 Nq218
            obtain ⟨cq220, kq220, q220a, q220b, q220c⟩ := isOf hZ eq218 A209
            obtain ⟨_, _, ⟨T220, L220, k220, n220⟩, -, X220, ⟨Lc220, hQ220, l220, y220, z220⟩, st220⟩ := X218.virtualBack hx (y := (⟨"com/example/tx_at_boundaries/txatboundaries/mybatis/JoinedSessions", "failure", "()Ljava/lang/Throwable;"⟩ : MethodName)) (z := (⟨"com/example/tx_at_boundaries/txatboundaries/mybatis/JoinedSessions", "failure", "()Ljava/lang/Throwable;"⟩ : MethodName)) hown (mvT hZ (ow87 hw)) (mvT hZ (ow88 hw)) (notFace_of_selects (args := #[]) (mvT hZ (ow90 hw))) (mvT hZ (ow90 hw)) (mvT hZ (ow89 hw)) (by decide) (backOf (W := 0) (rmfl l Z a0 hw [] b209 .null h209 n0 Ol211 rfl Frollback_209) hZ (ow91 hw) (ow3 hw) (by decide) (by decide)) q220a q220c (g := (mkF m 199 #[.val (.int x0), .val (.int x1), .val (.int x2), .val (.int x3), .val (.ref b1), .val (.ref b18), .val (.ref b35), .val (.int mv), .val (.ref b195), .val (.int (0 : Int32)), .val (.ref b209), .val .null, .unset] [(.ref b209)])) rfl (by rw [hml]; rfl) (Steps.refl _) (argsL := []) (rest := []) (lenOf pd6 rfl) rfl (by show 2 * 0 + _ ≤ _; exact Nat.le_of_eq rfl) (hb hby at_199) (fun _ _ => ⟨rfl, eq218, (by decide : 6 + 0 ≤ _), (by decide : 13 + 0 ≤ _)⟩)
            dsimp only [Pt.U, Pt.locs, Pt.cells, Pt.slots] at X220 l220 y220 z220 st220 hQ220
            subst l220 y220 z220
            obtain ⟨rfl, Nq220, eq220⟩ := hQ220
            have N221 := Fr.app N219 Nq220
            obtain ⟨fs, hretL, hrun, hended, hEnd⟩ := Stand.leaveW X220 hS0 (by rw [eq220]; exact hk210) (v := some (.int (1 : Int32))) (fun h => by rw [Bd.returns] at h; cases h)
            have hCf : CHr Z EL0 s.vm s.heap T220.vm T220.heap := by rw [hh, eq220]; exact CH210.trans (CHv.at X220 hZ (own_EW hw) CH210.1)
            refine ⟨_, _, pre203 _ ?_, hrun, hended, _, _, rfl, ?_, hCf, hEnd.1, hEnd.2.1, hEnd.2.2.1, hEnd.2.2.2.mono (by decide) (by decide)⟩
            · refine XS.ifYes X199.here hx rfl (pc0 := 147) (pc' := 154) rfl (hb hby at_147) rfl ((if0 _ _).trans (teq hc147_204).1) (by decide) (by decide) ?_
              show Steps p.tables e below (T199.setTop (mkF m 154 #[.val (.int x0), .val (.int x1), .val (.int x2), .val (.int x3), .val (.ref b1), .val (.ref b18), .val (.ref b35), .val (.int mv), .val (.ref b195), .unset, .unset, .unset, .unset] [])) _
              refine XS.iconst X199.here hx rfl (hb hby at_154) ?_
              show Steps p.tables e below (T199.setTop (mkF m 155 #[.val (.int x0), .val (.int x1), .val (.int x2), .val (.int x3), .val (.ref b1), .val (.ref b18), .val (.ref b35), .val (.int mv), .val (.ref b195), .unset, .unset, .unset, .unset] [(.int (0 : Int32))])) _
              refine XS.istore X199.here hx rfl (hb hby at_155) rfl (l' := #[.val (.int x0), .val (.int x1), .val (.int x2), .val (.int x3), .val (.ref b1), .val (.ref b18), .val (.ref b35), .val (.int mv), .val (.ref b195), .val (.int (0 : Int32)), .unset, .unset, .unset]) rfl ?_
              show Steps p.tables e below (T199.setTop (mkF m 157 #[.val (.int x0), .val (.int x1), .val (.int x2), .val (.int x3), .val (.ref b1), .val (.ref b18), .val (.ref b35), .val (.int mv), .val (.ref b195), .val (.int (0 : Int32)), .unset, .unset, .unset] [])) _
              refine st209 _ ?_
              show Steps p.tables e below (T209.setTop (mkF m 160 #[.val (.int x0), .val (.int x1), .val (.int x2), .val (.int x3), .val (.ref b1), .val (.ref b18), .val (.ref b35), .val (.int mv), .val (.ref b195), .val (.int (0 : Int32)), .unset, .unset, .unset] [(.ref b209)])) _
              refine XS.dup X209.here hx rfl (hb hby at_160) rfl rfl ?_
              show Steps p.tables e below (T209.setTop (mkF m 161 #[.val (.int x0), .val (.int x1), .val (.int x2), .val (.int x3), .val (.ref b1), .val (.ref b18), .val (.ref b35), .val (.int mv), .val (.ref b195), .val (.int (0 : Int32)), .unset, .unset, .unset] [(.ref b209), (.ref b209)])) _
              refine st212.trans ?_
              show Steps p.tables e below (T212.setTop (mkF m 164 #[.val (.int x0), .val (.int x1), .val (.int x2), .val (.int x3), .val (.ref b1), .val (.ref b18), .val (.ref b35), .val (.int mv), .val (.ref b195), .val (.int (0 : Int32)), .unset, .unset, .unset] [(.ref b209)])) _
              refine XS.astore X212.here hx rfl (hb hby at_164) rfl rfl (l' := #[.val (.int x0), .val (.int x1), .val (.int x2), .val (.int x3), .val (.ref b1), .val (.ref b18), .val (.ref b35), .val (.int mv), .val (.ref b195), .val (.int (0 : Int32)), .val (.ref b209), .unset, .unset]) rfl ?_
              show Steps p.tables e below (T212.setTop (mkF m 166 #[.val (.int x0), .val (.int x1), .val (.int x2), .val (.int x3), .val (.ref b1), .val (.ref b18), .val (.ref b35), .val (.int mv), .val (.ref b195), .val (.int (0 : Int32)), .val (.ref b209), .unset, .unset] [])) _
              refine XS.iload X212.here hx rfl (hb hby at_166) rfl ?_
              show Steps p.tables e below (T212.setTop (mkF m 168 #[.val (.int x0), .val (.int x1), .val (.int x2), .val (.int x3), .val (.ref b1), .val (.ref b18), .val (.ref b35), .val (.int mv), .val (.ref b195), .val (.int (0 : Int32)), .val (.ref b209), .unset, .unset] [(.int (0 : Int32))])) _
              refine XS.ifYes X212.here hx rfl (pc0 := 168) (pc' := 176) rfl (hb hby at_168) rfl ((if0 _ _).trans (teq (by decide : (0 : Int32) = (0 : Int32))).1) (by decide) (by decide) ?_
              show Steps p.tables e below (T212.setTop (mkF m 176 #[.val (.int x0), .val (.int x1), .val (.int x2), .val (.int x3), .val (.ref b1), .val (.ref b18), .val (.ref b35), .val (.int mv), .val (.ref b195), .val (.int (0 : Int32)), .val (.ref b209), .unset, .unset] [])) _
              refine XS.aload X212.here hx rfl (hb hby at_176) rfl rfl ?_
              show Steps p.tables e below (T212.setTop (mkF m 178 #[.val (.int x0), .val (.int x1), .val (.int x2), .val (.int x3), .val (.ref b1), .val (.ref b18), .val (.ref b35), .val (.int mv), .val (.ref b195), .val (.int (0 : Int32)), .val (.ref b209), .unset, .unset] [(.ref b209)])) _
              refine st214.trans ?_
              show Steps p.tables e below (T214.setTop (mkF m 181 #[.val (.int x0), .val (.int x1), .val (.int x2), .val (.int x3), .val (.ref b1), .val (.ref b18), .val (.ref b35), .val (.int mv), .val (.ref b195), .val (.int (0 : Int32)), .val (.ref b209), .unset, .unset] [.null])) _
              refine XS.astore X214.here hx rfl (hb hby at_181) rfl rfl (l' := #[.val (.int x0), .val (.int x1), .val (.int x2), .val (.int x3), .val (.ref b1), .val (.ref b18), .val (.ref b35), .val (.int mv), .val (.ref b195), .val (.int (0 : Int32)), .val (.ref b209), .val .null, .unset]) rfl ?_
              show Steps p.tables e below (T214.setTop (mkF m 183 #[.val (.int x0), .val (.int x1), .val (.int x2), .val (.int x3), .val (.ref b1), .val (.ref b18), .val (.ref b35), .val (.int mv), .val (.ref b195), .val (.int (0 : Int32)), .val (.ref b209), .val .null, .unset] [])) _
              refine XS.aload X214.here hx rfl (hb hby at_183) rfl rfl ?_
              show Steps p.tables e below (T214.setTop (mkF m 185 #[.val (.int x0), .val (.int x1), .val (.int x2), .val (.int x3), .val (.ref b1), .val (.ref b18), .val (.ref b35), .val (.int mv), .val (.ref b195), .val (.int (0 : Int32)), .val (.ref b209), .val .null, .unset] [(.ref b209)])) _
              refine XS.aload X214.here hx rfl (hb hby at_185) rfl rfl ?_
              show Steps p.tables e below (T214.setTop (mkF m 187 #[.val (.int x0), .val (.int x1), .val (.int x2), .val (.int x3), .val (.ref b1), .val (.ref b18), .val (.ref b35), .val (.int mv), .val (.ref b195), .val (.int (0 : Int32)), .val (.ref b209), .val .null, .unset] [(.ref b195), (.ref b209)])) _
              refine st216.trans ?_
              show Steps p.tables e below (T216.setTop (mkF m 190 #[.val (.int x0), .val (.int x1), .val (.int x2), .val (.int x3), .val (.ref b1), .val (.ref b18), .val (.ref b35), .val (.int mv), .val (.ref b195), .val (.int (0 : Int32)), .val (.ref b209), .val .null, .unset] [])) _
              refine XS.aload X216.here hx rfl (hb hby at_190) rfl rfl ?_
              show Steps p.tables e below (T216.setTop (mkF m 192 #[.val (.int x0), .val (.int x1), .val (.int x2), .val (.int x3), .val (.ref b1), .val (.ref b18), .val (.ref b35), .val (.int mv), .val (.ref b195), .val (.int (0 : Int32)), .val (.ref b209), .val .null, .unset] [(.ref b209)])) _
              refine XS.aload X216.here hx rfl (hb hby at_192) rfl rfl ?_
              show Steps p.tables e below (T216.setTop (mkF m 194 #[.val (.int x0), .val (.int x1), .val (.int x2), .val (.int x3), .val (.ref b1), .val (.ref b18), .val (.ref b35), .val (.int mv), .val (.ref b195), .val (.int (0 : Int32)), .val (.ref b209), .val .null, .unset] [(.ref b195), (.ref b209)])) _
              refine st218.trans ?_
              show Steps p.tables e below (T218.setTop (mkF m 197 #[.val (.int x0), .val (.int x1), .val (.int x2), .val (.int x3), .val (.ref b1), .val (.ref b18), .val (.ref b35), .val (.int mv), .val (.ref b195), .val (.int (0 : Int32)), .val (.ref b209), .val .null, .unset] [])) _
              refine XS.aload X218.here hx rfl (hb hby at_197) rfl rfl ?_
              show Steps p.tables e below (T218.setTop (mkF m 199 #[.val (.int x0), .val (.int x1), .val (.int x2), .val (.int x3), .val (.ref b1), .val (.ref b18), .val (.ref b35), .val (.int mv), .val (.ref b195), .val (.int (0 : Int32)), .val (.ref b209), .val .null, .unset] [(.ref b209)])) _
              refine st220.trans ?_
              show Steps p.tables e below (T220.setTop (mkF m 202 #[.val (.int x0), .val (.int x1), .val (.int x2), .val (.int x3), .val (.ref b1), .val (.ref b18), .val (.ref b35), .val (.int mv), .val (.ref b195), .val (.int (0 : Int32)), .val (.ref b209), .val .null, .unset] [.null])) _
              refine XS.astore X220.here hx rfl (hb hby at_202) rfl rfl (l' := #[.val (.int x0), .val (.int x1), .val (.int x2), .val (.int x3), .val (.ref b1), .val (.ref b18), .val (.ref b35), .val (.int mv), .val (.ref b195), .val (.int (0 : Int32)), .val (.ref b209), .val .null, .val .null]) rfl ?_
              show Steps p.tables e below (T220.setTop (mkF m 204 #[.val (.int x0), .val (.int x1), .val (.int x2), .val (.int x3), .val (.ref b1), .val (.ref b18), .val (.ref b35), .val (.int mv), .val (.ref b195), .val (.int (0 : Int32)), .val (.ref b209), .val .null, .val .null] [])) _
              refine XS.aload X220.here hx rfl (hb hby at_204) rfl rfl ?_
              show Steps p.tables e below (T220.setTop (mkF m 206 #[.val (.int x0), .val (.int x1), .val (.int x2), .val (.int x3), .val (.ref b1), .val (.ref b18), .val (.ref b35), .val (.int mv), .val (.ref b195), .val (.int (0 : Int32)), .val (.ref b209), .val .null, .val .null] [.null])) _
              refine XS.aload X220.here hx rfl (hb hby at_206) rfl rfl ?_
              show Steps p.tables e below (T220.setTop (mkF m 208 #[.val (.int x0), .val (.int x1), .val (.int x2), .val (.int x3), .val (.ref b1), .val (.ref b18), .val (.ref b35), .val (.int mv), .val (.ref b195), .val (.int (0 : Int32)), .val (.ref b209), .val .null, .val .null] [.null, .null])) _
              refine Jvm.RoadKit.acmp (g := (mkF m 208 #[.val (.int x0), .val (.int x1), .val (.int x2), .val (.int x3), .val (.ref b1), .val (.ref b18), .val (.ref b35), .val (.int mv), .val (.ref b195), .val (.int (0 : Int32)), .val (.ref b209), .val .null, .val .null] [.null, .null])) X220 hx rfl rfl rfl (pc0 := 208) (pc' := 211) (same := true) rfl (hb hby at_208) rfl (decide_eq_true rfl) (by decide) (by decide) ?_
              show Steps p.tables e below (T220.setTop (mkF m 211 #[.val (.int x0), .val (.int x1), .val (.int x2), .val (.int x3), .val (.ref b1), .val (.ref b18), .val (.ref b35), .val (.int mv), .val (.ref b195), .val (.int (0 : Int32)), .val (.ref b209), .val .null, .val .null] [])) _
              refine XS.iload X220.here hx rfl (hb hby at_211) rfl ?_
              show Steps p.tables e below (T220.setTop (mkF m 213 #[.val (.int x0), .val (.int x1), .val (.int x2), .val (.int x3), .val (.ref b1), .val (.ref b18), .val (.ref b35), .val (.int mv), .val (.ref b195), .val (.int (0 : Int32)), .val (.ref b209), .val .null, .val .null] [(.int (0 : Int32))])) _
              refine XS.aload X220.here hx rfl (hb hby at_213) rfl rfl ?_
              show Steps p.tables e below (T220.setTop (mkF m 215 #[.val (.int x0), .val (.int x1), .val (.int x2), .val (.int x3), .val (.ref b1), .val (.ref b18), .val (.ref b35), .val (.int mv), .val (.ref b195), .val (.int (0 : Int32)), .val (.ref b209), .val .null, .val .null] [.null, (.int (0 : Int32))])) _
              refine XS.ifnullYes X220.here hx rfl (pc0 := 215) (pc' := 222) rfl (hb hby at_215) rfl (by decide) (by decide) ?_
              show Steps p.tables e below (T220.setTop (mkF m 222 #[.val (.int x0), .val (.int x1), .val (.int x2), .val (.int x3), .val (.ref b1), .val (.ref b18), .val (.ref b35), .val (.int mv), .val (.ref b195), .val (.int (0 : Int32)), .val (.ref b209), .val .null, .val .null] [(.int (0 : Int32))])) _
              refine XS.iconst X220.here hx rfl (hb hby at_222) ?_
              show Steps p.tables e below (T220.setTop (mkF m 223 #[.val (.int x0), .val (.int x1), .val (.int x2), .val (.int x3), .val (.ref b1), .val (.ref b18), .val (.ref b35), .val (.int mv), .val (.ref b195), .val (.int (0 : Int32)), .val (.ref b209), .val .null, .val .null] [(.int (0 : Int32)), (.int (0 : Int32))])) _
              refine XS.icmpNo X220.here hx rfl (hb hby at_223) rfl (teq (by decide : (0 : Int32) = (0 : Int32))).2 ?_
              show Steps p.tables e below (T220.setTop (mkF m 226 #[.val (.int x0), .val (.int x1), .val (.int x2), .val (.int x3), .val (.ref b1), .val (.ref b18), .val (.ref b35), .val (.int mv), .val (.ref b195), .val (.int (0 : Int32)), .val (.ref b209), .val .null, .val .null] [])) _
              refine XS.iconst X220.here hx rfl (hb hby at_226) ?_
              show Steps p.tables e below (T220.setTop (mkF m 227 #[.val (.int x0), .val (.int x1), .val (.int x2), .val (.int x3), .val (.ref b1), .val (.ref b18), .val (.ref b35), .val (.int mv), .val (.ref b195), .val (.int (0 : Int32)), .val (.ref b209), .val .null, .val .null] [(.int (1 : Int32))])) _
              refine XS.goto X220.here hx rfl (pc0 := 227) (pc' := 231) rfl (hb hby at_227) (by decide) (by decide) ?_
              show Steps p.tables e below (T220.setTop (mkF m 231 #[.val (.int x0), .val (.int x1), .val (.int x2), .val (.int x3), .val (.ref b1), .val (.ref b18), .val (.ref b35), .val (.int mv), .val (.ref b195), .val (.int (0 : Int32)), .val (.ref b209), .val .null, .val .null] [(.int (1 : Int32))])) _
              exact retOut X220 hx Bd.returns rfl (Or.inl ⟨rfl, Or.inr (Or.inl rfl), _, rfl⟩) (hb hby at_231) hretL
            · show Q_rm0 Z x0 x1 x2 x3 G1 us se h0 n0 _ T220.heap _
              rw [eq220]
              exact ⟨rfl, N221⟩
          · have f222 := ((f193.ext E195).keep kp199 (ninS neb1_195 nin0))
            have f223 := (f198.keep kp199 (ninS neb18_195 nin0))
            have f224 := ((V35.ext E195).keep kp199 (ninS neb35_195 nin0))
            have f225 := (A195.keep kp199)
            obtain ⟨T226, h226, X226, e226, E226, A226, D226, U226, st226⟩ := newO X199 hx hZ hown (ow1 hw) (ow2 hw) (ow3 hw) rfl (g := (mkF m 157 #[.val (.int x0), .val (.int x1), .val (.int x2), .val (.int x3), .val (.ref b1), .val (.ref b18), .val (.ref b35), .val (.int mv), .val (.ref b195), .val (.int (1 : Int32)), .unset, .unset, .unset] [])) rfl (hb hby at_157) (by decide) (by decide)
            obtain ⟨b226, g226⟩ : ∃ z, z = T199.heap.size := ⟨_, rfl⟩
            rw [← g226] at A226 D226 U226 st226
            have gn226 : n0 ≤ b226 := Nat.le_trans (own_sz Ol202) (Nat.le_of_eq g226.symm)
            have neb1_226 : b1 ≠ b226 := Nat.ne_of_lt (Nat.lt_of_lt_of_le f222.lt (Nat.le_of_eq g226.symm))
            have neb18_226 : b18 ≠ b226 := Nat.ne_of_lt (Nat.lt_of_lt_of_le f223.lt (Nat.le_of_eq g226.symm))
            have neb35_226 : b35 ≠ b226 := Nat.ne_of_lt (Nat.lt_of_lt_of_le f224.lt (Nat.le_of_eq g226.symm))
            have neb195_226 : b195 ≠ b226 := Nat.ne_of_lt (Nat.lt_of_lt_of_le f225.lt (Nat.le_of_eq g226.symm))
            have Y226 := Safe.ext E226 CH201.1 (Safe.new (x := b226) (Nat.le_of_eq g226.symm))
            have CH227 := CH201.trans (CHr.ext E226 CH201.1)
            have hk227 := Nat.le_trans hk201 E226.1
            have Ol228 := Ol202.ext E226
            have Fended_226 : Fld Z h226 b226 "com/example/tx_at_boundaries/txatboundaries/mybatis/JoinedSessions" "ended" "Z" (.int (0 : Int32)) := D226 (Or.inl (ow29 hw)) (ty := .boolean) (by decide)
            have Frollback_226 : Fld Z h226 b226 "com/example/tx_at_boundaries/txatboundaries/mybatis/JoinedSessions" "rollback" "Lcom/example/tx_at_boundaries/txatboundaries/mybatis/JoinedSessions$SessionRollback;" .null := D226 (Or.inl (ow31 hw)) (ty := (.object "com/example/tx_at_boundaries/txatboundaries/mybatis/JoinedSessions$SessionRollback")) (by decide)
            obtain ⟨_, _, ⟨T229, L229, k229, n229⟩, -, X229, ⟨Lc229, hQ229, l229, y229, z229⟩, st229⟩ := X226.specialBack hx (y := (⟨"com/example/tx_at_boundaries/txatboundaries/mybatis/JoinedSessions", "<init>", "()V"⟩ : MethodName)) rfl hown (mvT hZ (ow4 hw)) (mvT hZ (ow5 hw)) (mvT hZ (ow6 hw)) (by decide) (backOf (W := 1) (rmji l Z a0 hw [] b226  h226 n0 Ol228 ) hZ (ow6 hw) (ow3 hw) (by decide) (by decide)) (g := (mkF m 161 #[.val (.int x0), .val (.int x1), .val (.int x2), .val (.int x3), .val (.ref b1), .val (.ref b18), .val (.ref b35), .val (.int mv), .val (.ref b195), .val (.int (1 : Int32)), .unset, .unset, .unset] [(.ref b226), (.ref b226)])) rfl (by rw [hml]; rfl) (Steps.refl _) (a := b226) (argsL := []) (rest := [(.ref b226)]) (lenOf pd5 rfl) rfl (by show 2 * 0 + _ ≤ _; exact Nat.le_of_eq rfl) (hb hby at_161) (fun _ _ => ⟨rfl, e226, (by decide : 6 + 0 ≤ _), (by decide : 13 + 0 ≤ _)⟩)
            dsimp only [Pt.U, Pt.locs, Pt.cells, Pt.slots] at X229 l229 y229 z229 st229 hQ229
            subst l229 y229 z229
            obtain ⟨rfl, Nq229, eq229⟩ := hQ229
            have N230 := Fr.app N200 Nq229
            obtain ⟨cq231, kq231, q231a, q231b, q231c⟩ := isOf hZ eq229 A226
            obtain ⟨_, _, ⟨T231, L231, k231, n231⟩, -, Xr231, hSr231, hgr231, ⟨Lc231, hQ231, l231, y231, z231, CR231⟩, st231⟩ := X229.virtualBackS hx (y := (⟨"com/example/tx_at_boundaries/txatboundaries/mybatis/JoinedSessions", "rollBack", "()V"⟩ : MethodName)) (z := (⟨"com/example/tx_at_boundaries/txatboundaries/mybatis/JoinedSessions", "rollBack", "()V"⟩ : MethodName)) hown (mvT hZ (ow10 hw)) (mvT hZ (ow11 hw)) (notFace_of_selects (args := #[]) (mvT hZ (ow13 hw))) (mvT hZ (ow13 hw)) (mvT hZ (ow12 hw)) (by decide) (backOfSKH (W := 0) (rmrb l Z a0 hw [] b226 us se h226 n0 Ol228 hst SU SS A226 Fended_226 Frollback_226 gn226) hZ (ow14 hw) (ow3 hw) (by decide) (by decide) (own_EW hw) CH227.1 (own_tk hZ0 hZ hK.1) (own_fk hZ0 hZ hK.2)) q231a q231c (g := (mkF m 173 #[.val (.int x0), .val (.int x1), .val (.int x2), .val (.int x3), .val (.ref b1), .val (.ref b18), .val (.ref b35), .val (.int mv), .val (.ref b195), .val (.int (1 : Int32)), .val (.ref b226), .unset, .unset] [(.ref b226)])) rfl (by rw [hml]; rfl) (Steps.refl _) (argsL := []) (rest := []) (lenOf pd5 rfl) rfl (by show 2 * 0 + _ ≤ _; exact Nat.le_of_eq rfl) (hb hby at_173) (fun _ _ => ⟨rfl, eq229, (by decide : 6 + 6 ≤ _), (by decide : 13 + 3066 ≤ _)⟩)
            dsimp only [Pt.U, Pt.locs, Pt.cells, Pt.slots] at Xr231 hSr231 hgr231 l231 y231 z231 CR231 st231 hQ231
            subst l231 y231 z231
            obtain ⟨X231, hS231, hZ231, hown231⟩ := rebS hS0 (by rw [eq229]; exact hk227) Xr231 hSr231 hgr231 hZ hown
            have hk231 : T231.heap.size ≤ T231.heap.size := Nat.le_refl _
            obtain ⟨r231, rfl, Nq231, kp231, fe231, fr231⟩ := hQ231
            have N232 := Fr.app N230 Nq231
            have f233 := (f222.ext E226)
            have f234 := (f223.ext E226)
            have f235 := (f224.ext E226)
            have f236 := (f225.ext E226)
            have CH237 := CH227.trans CR231
            have Ol238 := Ol228.keep kp231 (allS gn226 all0)
            have f240 := (A226.keep kp231)
            obtain ⟨cq239, kq239, q239a, q239b, q239c⟩ := isOf hZ231 rfl f240
            obtain ⟨_, _, ⟨T239, L239, k239, n239⟩, -, X239, ⟨Lc239, hQ239, l239, y239, z239⟩, st239⟩ := X231.virtualBack hx (y := (⟨"com/example/tx_at_boundaries/txatboundaries/mybatis/JoinedSessions", "failure", "()Ljava/lang/Throwable;"⟩ : MethodName)) (z := (⟨"com/example/tx_at_boundaries/txatboundaries/mybatis/JoinedSessions", "failure", "()Ljava/lang/Throwable;"⟩ : MethodName)) hown231 (mvT hZ231 (ow87 hw)) (mvT hZ231 (ow88 hw)) (notFace_of_selects (args := #[]) (mvT hZ231 (ow90 hw))) (mvT hZ231 (ow90 hw)) (mvT hZ231 (ow89 hw)) (by decide) (backOf (W := 0) (rmfl l Z a0 hw [] b226 (.ref r231) T231.heap n0 Ol238 rfl fr231) hZ231 (ow91 hw) (ow3 hw) (by decide) (by decide)) q239a q239c (g := (mkF m 178 #[.val (.int x0), .val (.int x1), .val (.int x2), .val (.int x3), .val (.ref b1), .val (.ref b18), .val (.ref b35), .val (.int mv), .val (.ref b195), .val (.int (1 : Int32)), .val (.ref b226), .unset, .unset] [(.ref b226)])) rfl (by rw [hml]; rfl) (Steps.refl _) (argsL := []) (rest := []) (lenOf pd6 rfl) rfl (by show 2 * 0 + _ ≤ _; exact Nat.le_of_eq rfl) (hb hby at_178) (fun _ _ => ⟨rfl, rfl, (by decide : 12 + 0 ≤ _), (by decide : 3079 + 0 ≤ _)⟩)
            dsimp only [Pt.U, Pt.locs, Pt.cells, Pt.slots] at X239 l239 y239 z239 st239 hQ239
            subst l239 y239 z239
            obtain ⟨rfl, Nq239, eq239⟩ := hQ239
            have N241 := Fr.app N232 Nq239
            obtain ⟨cq242, kq242, q242a, q242b, q242c⟩ := isOf hZ231 eq239 f240
            obtain ⟨_, _, ⟨T242, L242, k242, n242⟩, -, X242, ⟨Lc242, hQ242, l242, y242, z242⟩, st242⟩ := X239.virtualBack hx (y := (⟨"com/example/tx_at_boundaries/txatboundaries/mybatis/JoinedSessions", "requireRunning", "(Ljava/lang/String;)V"⟩ : MethodName)) (z := (⟨"com/example/tx_at_boundaries/txatboundaries/mybatis/JoinedSessions", "requireRunning", "(Ljava/lang/String;)V"⟩ : MethodName)) hown231 (mvT hZ231 (ow92 hw)) (mvT hZ231 (ow24 hw)) (notFace_of_selects (args := #[]) (mvT hZ231 (ow26 hw))) (mvT hZ231 (ow26 hw)) (mvT hZ231 (ow25 hw)) (by decide) (backOf (W := 0) (rmrq l Z a0 hw [] b226 (.ref b195)  T231.heap n0 Ol238 rfl fe231) hZ231 (ow27 hw) (ow3 hw) (by decide) (by decide)) q242a q242c (g := (mkF m 187 #[.val (.int x0), .val (.int x1), .val (.int x2), .val (.int x3), .val (.ref b1), .val (.ref b18), .val (.ref b35), .val (.int mv), .val (.ref b195), .val (.int (1 : Int32)), .val (.ref b226), .val (.ref r231), .unset] [(.ref b195), (.ref b226)])) rfl (by rw [hml]; rfl) (Steps.refl _) (argsL := [(.ref b195)]) (rest := []) (lenOf pd4 rfl) rfl (by show 2 * 0 + _ ≤ _; exact Nat.le_of_eq rfl) (hb hby at_187) (fun _ _ => ⟨rfl, eq239, (by decide : 12 + 0 ≤ _), (by decide : 3079 + 0 ≤ _)⟩)
            dsimp only [Pt.U, Pt.locs, Pt.cells, Pt.slots] at X242 l242 y242 z242 st242 hQ242
            subst l242 y242 z242
            obtain ⟨rfl, Nq242, eq242⟩ := hQ242
            have N243 := Fr.app N241 Nq242
            obtain ⟨cq244, kq244, q244a, q244b, q244c⟩ := isOf hZ231 eq242 f240
            obtain ⟨_, _, ⟨T244, L244, k244, n244⟩, -, X244, ⟨Lc244, hQ244, l244, y244, z244⟩, st244⟩ := X242.virtualBack hx (y := (⟨"com/example/tx_at_boundaries/txatboundaries/mybatis/JoinedSessions", "requireRunning", "(Ljava/lang/String;)V"⟩ : MethodName)) (z := (⟨"com/example/tx_at_boundaries/txatboundaries/mybatis/JoinedSessions", "requireRunning", "(Ljava/lang/String;)V"⟩ : MethodName)) hown231 (mvT hZ231 (ow92 hw)) (mvT hZ231 (ow24 hw)) (notFace_of_selects (args := #[]) (mvT hZ231 (ow26 hw))) (mvT hZ231 (ow26 hw)) (mvT hZ231 (ow25 hw)) (by decide) (backOf (W := 0) (rmrq l Z a0 hw [] b226 (.ref b195)  T231.heap n0 Ol238 rfl fe231) hZ231 (ow27 hw) (ow3 hw) (by decide) (by decide)) q244a q244c (g := (mkF m 194 #[.val (.int x0), .val (.int x1), .val (.int x2), .val (.int x3), .val (.ref b1), .val (.ref b18), .val (.ref b35), .val (.int mv), .val (.ref b195), .val (.int (1 : Int32)), .val (.ref b226), .val (.ref r231), .unset] [(.ref b195), (.ref b226)])) rfl (by rw [hml]; rfl) (Steps.refl _) (argsL := [(.ref b195)]) (rest := []) (lenOf pd4 rfl) rfl (by show 2 * 0 + _ ≤ _; exact Nat.le_of_eq rfl) (hb hby at_194) (fun _ _ => ⟨rfl, eq242, (by decide : 12 + 0 ≤ _), (by decide : 3079 + 0 ≤ _)⟩)
            dsimp only [Pt.U, Pt.locs, Pt.cells, Pt.slots] at X244 l244 y244 z244 st244 hQ244
            subst l244 y244 z244
            obtain ⟨rfl, Nq244, eq244⟩ := hQ244
            have N245 := Fr.app N243 Nq244
            obtain ⟨cq246, kq246, q246a, q246b, q246c⟩ := isOf hZ231 eq244 f240
            obtain ⟨_, _, ⟨T246, L246, k246, n246⟩, -, X246, ⟨Lc246, hQ246, l246, y246, z246⟩, st246⟩ := X244.virtualBack hx (y := (⟨"com/example/tx_at_boundaries/txatboundaries/mybatis/JoinedSessions", "failure", "()Ljava/lang/Throwable;"⟩ : MethodName)) (z := (⟨"com/example/tx_at_boundaries/txatboundaries/mybatis/JoinedSessions", "failure", "()Ljava/lang/Throwable;"⟩ : MethodName)) hown231 (mvT hZ231 (ow87 hw)) (mvT hZ231 (ow88 hw)) (notFace_of_selects (args := #[]) (mvT hZ231 (ow90 hw))) (mvT hZ231 (ow90 hw)) (mvT hZ231 (ow89 hw)) (by decide) (backOf (W := 0) (rmfl l Z a0 hw [] b226 (.ref r231) T231.heap n0 Ol238 rfl fr231) hZ231 (ow91 hw) (ow3 hw) (by decide) (by decide)) q246a q246c (g := (mkF m 199 #[.val (.int x0), .val (.int x1), .val (.int x2), .val (.int x3), .val (.ref b1), .val (.ref b18), .val (.ref b35), .val (.int mv), .val (.ref b195), .val (.int (1 : Int32)), .val (.ref b226), .val (.ref r231), .unset] [(.ref b226)])) rfl (by rw [hml]; rfl) (Steps.refl _) (argsL := []) (rest := []) (lenOf pd6 rfl) rfl (by show 2 * 0 + _ ≤ _; exact Nat.le_of_eq rfl) (hb hby at_199) (fun _ _ => ⟨rfl, eq244, (by decide : 12 + 0 ≤ _), (by decide : 3079 + 0 ≤ _)⟩)
            dsimp only [Pt.U, Pt.locs, Pt.cells, Pt.slots] at X246 l246 y246 z246 st246 hQ246
            subst l246 y246 z246
            obtain ⟨rfl, Nq246, eq246⟩ := hQ246
            have N247 := Fr.app N245 Nq246
            obtain ⟨fs, hretL, hrun, hended, hEnd⟩ := Stand.leaveW X246 hS231 (by rw [eq246]; exact hk231) (v := some (.int (1 : Int32))) (fun h => by rw [Bd.returns] at h; cases h)
            have hCf : CHr Z EL0 s.vm s.heap T246.vm T246.heap := by rw [hh, eq246]; exact CH237.trans (CHv.at X246 hZ231 (own_EW hw) CH237.1)
            refine ⟨_, _, pre203 _ ?_, hrun, hended, _, _, rfl, ?_, hCf, hEnd.1, hEnd.2.1, hEnd.2.2.1, hEnd.2.2.2.mono (by decide) (by decide)⟩
            · refine XS.ifNo X199.here hx rfl (hb hby at_147) rfl ((if0 _ _).trans (feq hc147_204).1) ?_
              show Steps p.tables e below (T199.setTop (mkF m 150 #[.val (.int x0), .val (.int x1), .val (.int x2), .val (.int x3), .val (.ref b1), .val (.ref b18), .val (.ref b35), .val (.int mv), .val (.ref b195), .unset, .unset, .unset, .unset] [])) _
              refine XS.iconst X199.here hx rfl (hb hby at_150) ?_
              show Steps p.tables e below (T199.setTop (mkF m 151 #[.val (.int x0), .val (.int x1), .val (.int x2), .val (.int x3), .val (.ref b1), .val (.ref b18), .val (.ref b35), .val (.int mv), .val (.ref b195), .unset, .unset, .unset, .unset] [(.int (1 : Int32))])) _
              refine XS.goto X199.here hx rfl (pc0 := 151) (pc' := 155) rfl (hb hby at_151) (by decide) (by decide) ?_
              show Steps p.tables e below (T199.setTop (mkF m 155 #[.val (.int x0), .val (.int x1), .val (.int x2), .val (.int x3), .val (.ref b1), .val (.ref b18), .val (.ref b35), .val (.int mv), .val (.ref b195), .unset, .unset, .unset, .unset] [(.int (1 : Int32))])) _
              refine XS.istore X199.here hx rfl (hb hby at_155) rfl (l' := #[.val (.int x0), .val (.int x1), .val (.int x2), .val (.int x3), .val (.ref b1), .val (.ref b18), .val (.ref b35), .val (.int mv), .val (.ref b195), .val (.int (1 : Int32)), .unset, .unset, .unset]) rfl ?_
              show Steps p.tables e below (T199.setTop (mkF m 157 #[.val (.int x0), .val (.int x1), .val (.int x2), .val (.int x3), .val (.ref b1), .val (.ref b18), .val (.ref b35), .val (.int mv), .val (.ref b195), .val (.int (1 : Int32)), .unset, .unset, .unset] [])) _
              refine st226 _ ?_
              show Steps p.tables e below (T226.setTop (mkF m 160 #[.val (.int x0), .val (.int x1), .val (.int x2), .val (.int x3), .val (.ref b1), .val (.ref b18), .val (.ref b35), .val (.int mv), .val (.ref b195), .val (.int (1 : Int32)), .unset, .unset, .unset] [(.ref b226)])) _
              refine XS.dup X226.here hx rfl (hb hby at_160) rfl rfl ?_
              show Steps p.tables e below (T226.setTop (mkF m 161 #[.val (.int x0), .val (.int x1), .val (.int x2), .val (.int x3), .val (.ref b1), .val (.ref b18), .val (.ref b35), .val (.int mv), .val (.ref b195), .val (.int (1 : Int32)), .unset, .unset, .unset] [(.ref b226), (.ref b226)])) _
              refine st229.trans ?_
              show Steps p.tables e below (T229.setTop (mkF m 164 #[.val (.int x0), .val (.int x1), .val (.int x2), .val (.int x3), .val (.ref b1), .val (.ref b18), .val (.ref b35), .val (.int mv), .val (.ref b195), .val (.int (1 : Int32)), .unset, .unset, .unset] [(.ref b226)])) _
              refine XS.astore X229.here hx rfl (hb hby at_164) rfl rfl (l' := #[.val (.int x0), .val (.int x1), .val (.int x2), .val (.int x3), .val (.ref b1), .val (.ref b18), .val (.ref b35), .val (.int mv), .val (.ref b195), .val (.int (1 : Int32)), .val (.ref b226), .unset, .unset]) rfl ?_
              show Steps p.tables e below (T229.setTop (mkF m 166 #[.val (.int x0), .val (.int x1), .val (.int x2), .val (.int x3), .val (.ref b1), .val (.ref b18), .val (.ref b35), .val (.int mv), .val (.ref b195), .val (.int (1 : Int32)), .val (.ref b226), .unset, .unset] [])) _
              refine XS.iload X229.here hx rfl (hb hby at_166) rfl ?_
              show Steps p.tables e below (T229.setTop (mkF m 168 #[.val (.int x0), .val (.int x1), .val (.int x2), .val (.int x3), .val (.ref b1), .val (.ref b18), .val (.ref b35), .val (.int mv), .val (.ref b195), .val (.int (1 : Int32)), .val (.ref b226), .unset, .unset] [(.int (1 : Int32))])) _
              refine XS.ifNo X229.here hx rfl (hb hby at_168) rfl ((if0 _ _).trans (feq (by decide : ¬ ((1 : Int32) = (0 : Int32)))).1) ?_
              show Steps p.tables e below (T229.setTop (mkF m 171 #[.val (.int x0), .val (.int x1), .val (.int x2), .val (.int x3), .val (.ref b1), .val (.ref b18), .val (.ref b35), .val (.int mv), .val (.ref b195), .val (.int (1 : Int32)), .val (.ref b226), .unset, .unset] [])) _
              refine XS.aload X229.here hx rfl (hb hby at_171) rfl rfl ?_
              show Steps p.tables e below (T229.setTop (mkF m 173 #[.val (.int x0), .val (.int x1), .val (.int x2), .val (.int x3), .val (.ref b1), .val (.ref b18), .val (.ref b35), .val (.int mv), .val (.ref b195), .val (.int (1 : Int32)), .val (.ref b226), .unset, .unset] [(.ref b226)])) _
              refine st231.trans ?_
              show Steps p.tables e below (T231.setTop (mkF m 176 #[.val (.int x0), .val (.int x1), .val (.int x2), .val (.int x3), .val (.ref b1), .val (.ref b18), .val (.ref b35), .val (.int mv), .val (.ref b195), .val (.int (1 : Int32)), .val (.ref b226), .unset, .unset] [])) _
              refine XS.aload X231.here hx rfl (hb hby at_176) rfl rfl ?_
              show Steps p.tables e below (T231.setTop (mkF m 178 #[.val (.int x0), .val (.int x1), .val (.int x2), .val (.int x3), .val (.ref b1), .val (.ref b18), .val (.ref b35), .val (.int mv), .val (.ref b195), .val (.int (1 : Int32)), .val (.ref b226), .unset, .unset] [(.ref b226)])) _
              refine st239.trans ?_
              show Steps p.tables e below (T239.setTop (mkF m 181 #[.val (.int x0), .val (.int x1), .val (.int x2), .val (.int x3), .val (.ref b1), .val (.ref b18), .val (.ref b35), .val (.int mv), .val (.ref b195), .val (.int (1 : Int32)), .val (.ref b226), .unset, .unset] [(.ref r231)])) _
              refine XS.astore X239.here hx rfl (hb hby at_181) rfl rfl (l' := #[.val (.int x0), .val (.int x1), .val (.int x2), .val (.int x3), .val (.ref b1), .val (.ref b18), .val (.ref b35), .val (.int mv), .val (.ref b195), .val (.int (1 : Int32)), .val (.ref b226), .val (.ref r231), .unset]) rfl ?_
              show Steps p.tables e below (T239.setTop (mkF m 183 #[.val (.int x0), .val (.int x1), .val (.int x2), .val (.int x3), .val (.ref b1), .val (.ref b18), .val (.ref b35), .val (.int mv), .val (.ref b195), .val (.int (1 : Int32)), .val (.ref b226), .val (.ref r231), .unset] [])) _
              refine XS.aload X239.here hx rfl (hb hby at_183) rfl rfl ?_
              show Steps p.tables e below (T239.setTop (mkF m 185 #[.val (.int x0), .val (.int x1), .val (.int x2), .val (.int x3), .val (.ref b1), .val (.ref b18), .val (.ref b35), .val (.int mv), .val (.ref b195), .val (.int (1 : Int32)), .val (.ref b226), .val (.ref r231), .unset] [(.ref b226)])) _
              refine XS.aload X239.here hx rfl (hb hby at_185) rfl rfl ?_
              show Steps p.tables e below (T239.setTop (mkF m 187 #[.val (.int x0), .val (.int x1), .val (.int x2), .val (.int x3), .val (.ref b1), .val (.ref b18), .val (.ref b35), .val (.int mv), .val (.ref b195), .val (.int (1 : Int32)), .val (.ref b226), .val (.ref r231), .unset] [(.ref b195), (.ref b226)])) _
              refine st242.trans ?_
              show Steps p.tables e below (T242.setTop (mkF m 190 #[.val (.int x0), .val (.int x1), .val (.int x2), .val (.int x3), .val (.ref b1), .val (.ref b18), .val (.ref b35), .val (.int mv), .val (.ref b195), .val (.int (1 : Int32)), .val (.ref b226), .val (.ref r231), .unset] [])) _
              refine XS.aload X242.here hx rfl (hb hby at_190) rfl rfl ?_
              show Steps p.tables e below (T242.setTop (mkF m 192 #[.val (.int x0), .val (.int x1), .val (.int x2), .val (.int x3), .val (.ref b1), .val (.ref b18), .val (.ref b35), .val (.int mv), .val (.ref b195), .val (.int (1 : Int32)), .val (.ref b226), .val (.ref r231), .unset] [(.ref b226)])) _
              refine XS.aload X242.here hx rfl (hb hby at_192) rfl rfl ?_
              show Steps p.tables e below (T242.setTop (mkF m 194 #[.val (.int x0), .val (.int x1), .val (.int x2), .val (.int x3), .val (.ref b1), .val (.ref b18), .val (.ref b35), .val (.int mv), .val (.ref b195), .val (.int (1 : Int32)), .val (.ref b226), .val (.ref r231), .unset] [(.ref b195), (.ref b226)])) _
              refine st244.trans ?_
              show Steps p.tables e below (T244.setTop (mkF m 197 #[.val (.int x0), .val (.int x1), .val (.int x2), .val (.int x3), .val (.ref b1), .val (.ref b18), .val (.ref b35), .val (.int mv), .val (.ref b195), .val (.int (1 : Int32)), .val (.ref b226), .val (.ref r231), .unset] [])) _
              refine XS.aload X244.here hx rfl (hb hby at_197) rfl rfl ?_
              show Steps p.tables e below (T244.setTop (mkF m 199 #[.val (.int x0), .val (.int x1), .val (.int x2), .val (.int x3), .val (.ref b1), .val (.ref b18), .val (.ref b35), .val (.int mv), .val (.ref b195), .val (.int (1 : Int32)), .val (.ref b226), .val (.ref r231), .unset] [(.ref b226)])) _
              refine st246.trans ?_
              show Steps p.tables e below (T246.setTop (mkF m 202 #[.val (.int x0), .val (.int x1), .val (.int x2), .val (.int x3), .val (.ref b1), .val (.ref b18), .val (.ref b35), .val (.int mv), .val (.ref b195), .val (.int (1 : Int32)), .val (.ref b226), .val (.ref r231), .unset] [(.ref r231)])) _
              refine XS.astore X246.here hx rfl (hb hby at_202) rfl rfl (l' := #[.val (.int x0), .val (.int x1), .val (.int x2), .val (.int x3), .val (.ref b1), .val (.ref b18), .val (.ref b35), .val (.int mv), .val (.ref b195), .val (.int (1 : Int32)), .val (.ref b226), .val (.ref r231), .val (.ref r231)]) rfl ?_
              show Steps p.tables e below (T246.setTop (mkF m 204 #[.val (.int x0), .val (.int x1), .val (.int x2), .val (.int x3), .val (.ref b1), .val (.ref b18), .val (.ref b35), .val (.int mv), .val (.ref b195), .val (.int (1 : Int32)), .val (.ref b226), .val (.ref r231), .val (.ref r231)] [])) _
              refine XS.aload X246.here hx rfl (hb hby at_204) rfl rfl ?_
              show Steps p.tables e below (T246.setTop (mkF m 206 #[.val (.int x0), .val (.int x1), .val (.int x2), .val (.int x3), .val (.ref b1), .val (.ref b18), .val (.ref b35), .val (.int mv), .val (.ref b195), .val (.int (1 : Int32)), .val (.ref b226), .val (.ref r231), .val (.ref r231)] [(.ref r231)])) _
              refine XS.aload X246.here hx rfl (hb hby at_206) rfl rfl ?_
              show Steps p.tables e below (T246.setTop (mkF m 208 #[.val (.int x0), .val (.int x1), .val (.int x2), .val (.int x3), .val (.ref b1), .val (.ref b18), .val (.ref b35), .val (.int mv), .val (.ref b195), .val (.int (1 : Int32)), .val (.ref b226), .val (.ref r231), .val (.ref r231)] [(.ref r231), (.ref r231)])) _
              refine Jvm.RoadKit.acmp (g := (mkF m 208 #[.val (.int x0), .val (.int x1), .val (.int x2), .val (.int x3), .val (.ref b1), .val (.ref b18), .val (.ref b35), .val (.int mv), .val (.ref b195), .val (.int (1 : Int32)), .val (.ref b226), .val (.ref r231), .val (.ref r231)] [(.ref r231), (.ref r231)])) X246 hx rfl rfl rfl (pc0 := 208) (pc' := 211) (same := true) rfl (hb hby at_208) rfl (decide_eq_true (congrArg Value.ref rfl)) (by decide) (by decide) ?_
              show Steps p.tables e below (T246.setTop (mkF m 211 #[.val (.int x0), .val (.int x1), .val (.int x2), .val (.int x3), .val (.ref b1), .val (.ref b18), .val (.ref b35), .val (.int mv), .val (.ref b195), .val (.int (1 : Int32)), .val (.ref b226), .val (.ref r231), .val (.ref r231)] [])) _
              refine XS.iload X246.here hx rfl (hb hby at_211) rfl ?_
              show Steps p.tables e below (T246.setTop (mkF m 213 #[.val (.int x0), .val (.int x1), .val (.int x2), .val (.int x3), .val (.ref b1), .val (.ref b18), .val (.ref b35), .val (.int mv), .val (.ref b195), .val (.int (1 : Int32)), .val (.ref b226), .val (.ref r231), .val (.ref r231)] [(.int (1 : Int32))])) _
              refine XS.aload X246.here hx rfl (hb hby at_213) rfl rfl ?_
              show Steps p.tables e below (T246.setTop (mkF m 215 #[.val (.int x0), .val (.int x1), .val (.int x2), .val (.int x3), .val (.ref b1), .val (.ref b18), .val (.ref b35), .val (.int mv), .val (.ref b195), .val (.int (1 : Int32)), .val (.ref b226), .val (.ref r231), .val (.ref r231)] [(.ref r231), (.int (1 : Int32))])) _
              refine XS.ifnullNo X246.here hx rfl (hb hby at_215) rfl ?_
              show Steps p.tables e below (T246.setTop (mkF m 218 #[.val (.int x0), .val (.int x1), .val (.int x2), .val (.int x3), .val (.ref b1), .val (.ref b18), .val (.ref b35), .val (.int mv), .val (.ref b195), .val (.int (1 : Int32)), .val (.ref b226), .val (.ref r231), .val (.ref r231)] [(.int (1 : Int32))])) _
              refine XS.iconst X246.here hx rfl (hb hby at_218) ?_
              show Steps p.tables e below (T246.setTop (mkF m 219 #[.val (.int x0), .val (.int x1), .val (.int x2), .val (.int x3), .val (.ref b1), .val (.ref b18), .val (.ref b35), .val (.int mv), .val (.ref b195), .val (.int (1 : Int32)), .val (.ref b226), .val (.ref r231), .val (.ref r231)] [(.int (1 : Int32)), (.int (1 : Int32))])) _
              refine XS.goto X246.here hx rfl (pc0 := 219) (pc' := 223) rfl (hb hby at_219) (by decide) (by decide) ?_
              show Steps p.tables e below (T246.setTop (mkF m 223 #[.val (.int x0), .val (.int x1), .val (.int x2), .val (.int x3), .val (.ref b1), .val (.ref b18), .val (.ref b35), .val (.int mv), .val (.ref b195), .val (.int (1 : Int32)), .val (.ref b226), .val (.ref r231), .val (.ref r231)] [(.int (1 : Int32)), (.int (1 : Int32))])) _
              refine XS.icmpNo X246.here hx rfl (hb hby at_223) rfl (teq (by decide : (1 : Int32) = (1 : Int32))).2 ?_
              show Steps p.tables e below (T246.setTop (mkF m 226 #[.val (.int x0), .val (.int x1), .val (.int x2), .val (.int x3), .val (.ref b1), .val (.ref b18), .val (.ref b35), .val (.int mv), .val (.ref b195), .val (.int (1 : Int32)), .val (.ref b226), .val (.ref r231), .val (.ref r231)] [])) _
              refine XS.iconst X246.here hx rfl (hb hby at_226) ?_
              show Steps p.tables e below (T246.setTop (mkF m 227 #[.val (.int x0), .val (.int x1), .val (.int x2), .val (.int x3), .val (.ref b1), .val (.ref b18), .val (.ref b35), .val (.int mv), .val (.ref b195), .val (.int (1 : Int32)), .val (.ref b226), .val (.ref r231), .val (.ref r231)] [(.int (1 : Int32))])) _
              refine XS.goto X246.here hx rfl (pc0 := 227) (pc' := 231) rfl (hb hby at_227) (by decide) (by decide) ?_
              show Steps p.tables e below (T246.setTop (mkF m 231 #[.val (.int x0), .val (.int x1), .val (.int x2), .val (.int x3), .val (.ref b1), .val (.ref b18), .val (.ref b35), .val (.int mv), .val (.ref b195), .val (.int (1 : Int32)), .val (.ref b226), .val (.ref r231), .val (.ref r231)] [(.int (1 : Int32))])) _
              exact retOut X246 hx Bd.returns rfl (Or.inl ⟨rfl, Or.inr (Or.inl rfl), _, rfl⟩) (hb hby at_231) hretL
            · show Q_rm0 Z x0 x1 x2 x3 G1 us se h0 n0 _ T246.heap _
              rw [eq246]
              exact ⟨rfl, N247⟩
        · have f248 := (f34.ext E35)
          have f249 := (V30.ext E35)
          obtain ⟨T250, h250, X250, e250, E250, A250, D250, U250, st250⟩ := newO X35 hx hZ hown (ow93 hw) (ow17 hw) (ow16 hw) e35 (g := (mkF m 133 #[.val (.int x0), .val (.int x1), .val (.int x2), .val (.int x3), .val (.ref b1), .val (.ref b18), .val (.ref b35), .val (.int mv), .unset, .unset, .unset, .unset, .unset] [])) rfl (hb hby at_133) (by decide) (by decide)
          obtain ⟨b250, g250⟩ : ∃ z, z = h35.size := ⟨_, rfl⟩
          rw [← g250] at A250 D250 U250 st250
          have gn250 : n0 ≤ b250 := Nat.le_trans (own_sz Ol37) (Nat.le_of_eq g250.symm)
          have neb1_250 : b1 ≠ b250 := Nat.ne_of_lt (Nat.lt_of_lt_of_le f248.lt (Nat.le_of_eq g250.symm))
          have neb18_250 : b18 ≠ b250 := Nat.ne_of_lt (Nat.lt_of_lt_of_le f249.lt (Nat.le_of_eq g250.symm))
          have neb35_250 : b35 ≠ b250 := Nat.ne_of_lt (Nat.lt_of_lt_of_le V35.lt (Nat.le_of_eq g250.symm))
          have Y250 := Safe.ext E250 CH36.1 (Safe.new (x := b250) (Nat.le_of_eq g250.symm))
          have CH251 := CH36.trans (CHr.ext E250 CH36.1)
          have hk251 := Nat.le_trans hk36 E250.1
          have Ol252 := Ol37.ext E250
          have Fvalue_250 : Fld Z h250 b250 "java/lang/String" "value" "[B" .null := D250 (Or.inr (ow19 hw)) (ty := (.array .byte)) (by decide)
          have Fcoder_250 : Fld Z h250 b250 "java/lang/String" "coder" "B" (.int (0 : Int32)) := D250 (Or.inr (ow20 hw)) (ty := .byte) (by decide)
          have f253 := (f248.ext E250)
          obtain ⟨_, _, ⟨T254, L254, k254, n254⟩, -, X254, ⟨Lc254, hQ254, l254, y254, z254⟩, st254⟩ := X250.specialBack hx (y := (⟨"java/lang/String", "<init>", "([C)V"⟩ : MethodName)) rfl hown (mvT hZ (ow94 hw)) (mvT hZ (ow95 hw)) (mvT hZ (ow96 hw)) (by decide) (StrChars.Road.backV (W := 1) hZ (own_ws hw) (kI := 4) (ow17 hw) (cs := ([nar .char ((x0 &&& (255 : Int32)).toUInt32.toUInt16.toUInt32.toInt32), nar .char ((x1 &&& (255 : Int32)).toUInt32.toUInt16.toUInt32.toInt32), nar .char ((x2 &&& (255 : Int32)).toUInt32.toUInt16.toUInt32.toInt32)] : List Int32)) (bs := ([nar .char ((x0 &&& (255 : Int32)).toUInt32.toUInt16.toUInt32.toInt32), nar .char ((x1 &&& (255 : Int32)).toUInt32.toUInt16.toUInt32.toInt32), nar .char ((x2 &&& (255 : Int32)).toUInt32.toUInt16.toUInt32.toInt32)] : List Int32).map (fun c => c.toInt8.toInt32)) (n := 3) gn250 (own_sz Ol252) A250 Fvalue_250 Fcoder_250 f253 (O2.ext Ol252.2) P5 rfl rfl (by decide) (by decide) (own_hp3 x0 x1 x2) rfl (by decide) (by decide)) (g := (mkF m 139 #[.val (.int x0), .val (.int x1), .val (.int x2), .val (.int x3), .val (.ref b1), .val (.ref b18), .val (.ref b35), .val (.int mv), .unset, .unset, .unset, .unset, .unset] [(.ref b1), (.ref b250), (.ref b250)])) rfl (by rw [hml]; rfl) (Steps.refl _) (a := b250) (argsL := [(.ref b1)]) (rest := [(.ref b250)]) (lenOf pd7 rfl) rfl (by show 2 * 0 + _ ≤ _; exact Nat.le_of_eq rfl) (hb hby at_139) (fun _ _ => ⟨rfl, e250, (by decide : 4 + 1 ≤ _), (by decide : 9 + 3 ≤ _)⟩)
          dsimp only [Pt.U, Pt.locs, Pt.cells, Pt.slots] at X254 l254 y254 z254 st254 hQ254
          subst l254 y254 z254
          obtain ⟨rfl, Nq254, kp254, sE254, sC254, t254, k254_, -, -, -, sV254, sA254⟩ := hQ254
          have N255 := Fr.app N33 Nq254
          have CH256 := CH251.trans (CHr.keep kp254 (sfS Y250 sf0) CH251.1)
          have hk256 := Nat.le_trans hk251 kp254.1
          have Ol257 := Ol252.keep kp254 (allS gn250 all0)
          have pre258 : ∀ tgt, Steps p.tables e below (T254.setTop (mkF m 147 #[.val (.int x0), .val (.int x1), .val (.int x2), .val (.int x3), .val (.ref b1), .val (.ref b18), .val (.ref b35), .val (.int mv), .val (.ref b250), .unset, .unset, .unset, .unset] [(.int (x3 &&& (1 : Int32)))])) tgt → Steps p.tables e below (s₁.setTop (entryFrame m #[(.int x0), (.int x1), (.int x2), (.int x3)] maxLocals)) tgt := by
            intro tgt kgo
            refine pre191 _ ?_
            refine XS.icmpYes X35.here hx rfl (pc0 := 116) (pc' := 133) rfl (hb hby at_116) rfl (feq hc116_192).2 (by decide) (by decide) ?_
            show Steps p.tables e below (T35.setTop (mkF m 133 #[.val (.int x0), .val (.int x1), .val (.int x2), .val (.int x3), .val (.ref b1), .val (.ref b18), .val (.ref b35), .val (.int mv), .unset, .unset, .unset, .unset, .unset] [])) _
            refine st250 _ ?_
            show Steps p.tables e below (T250.setTop (mkF m 136 #[.val (.int x0), .val (.int x1), .val (.int x2), .val (.int x3), .val (.ref b1), .val (.ref b18), .val (.ref b35), .val (.int mv), .unset, .unset, .unset, .unset, .unset] [(.ref b250)])) _
            refine XS.dup X250.here hx rfl (hb hby at_136) rfl rfl ?_
            show Steps p.tables e below (T250.setTop (mkF m 137 #[.val (.int x0), .val (.int x1), .val (.int x2), .val (.int x3), .val (.ref b1), .val (.ref b18), .val (.ref b35), .val (.int mv), .unset, .unset, .unset, .unset, .unset] [(.ref b250), (.ref b250)])) _
            refine XS.aload X250.here hx rfl (hb hby at_137) rfl rfl ?_
            show Steps p.tables e below (T250.setTop (mkF m 139 #[.val (.int x0), .val (.int x1), .val (.int x2), .val (.int x3), .val (.ref b1), .val (.ref b18), .val (.ref b35), .val (.int mv), .unset, .unset, .unset, .unset, .unset] [(.ref b1), (.ref b250), (.ref b250)])) _
            refine st254.trans ?_
            show Steps p.tables e below (T254.setTop (mkF m 142 #[.val (.int x0), .val (.int x1), .val (.int x2), .val (.int x3), .val (.ref b1), .val (.ref b18), .val (.ref b35), .val (.int mv), .unset, .unset, .unset, .unset, .unset] [(.ref b250)])) _
            refine XS.astore X254.here hx rfl (hb hby at_142) rfl rfl (l' := #[.val (.int x0), .val (.int x1), .val (.int x2), .val (.int x3), .val (.ref b1), .val (.ref b18), .val (.ref b35), .val (.int mv), .val (.ref b250), .unset, .unset, .unset, .unset]) rfl ?_
            show Steps p.tables e below (T254.setTop (mkF m 144 #[.val (.int x0), .val (.int x1), .val (.int x2), .val (.int x3), .val (.ref b1), .val (.ref b18), .val (.ref b35), .val (.int mv), .val (.ref b250), .unset, .unset, .unset, .unset] [])) _
            refine XS.iloadN X254.here hx rfl (hb hby at_144) rfl ?_
            show Steps p.tables e below (T254.setTop (mkF m 145 #[.val (.int x0), .val (.int x1), .val (.int x2), .val (.int x3), .val (.ref b1), .val (.ref b18), .val (.ref b35), .val (.int mv), .val (.ref b250), .unset, .unset, .unset, .unset] [(.int x3)])) _
            refine XS.iconst X254.here hx rfl (hb hby at_145) ?_
            show Steps p.tables e below (T254.setTop (mkF m 146 #[.val (.int x0), .val (.int x1), .val (.int x2), .val (.int x3), .val (.ref b1), .val (.ref b18), .val (.ref b35), .val (.int mv), .val (.ref b250), .unset, .unset, .unset, .unset] [(.int (1 : Int32)), (.int x3)])) _
            refine XS.iand X254.here hx rfl (hb hby at_146) rfl ?_
            show Steps p.tables e below (T254.setTop (mkF m 147 #[.val (.int x0), .val (.int x1), .val (.int x2), .val (.int x3), .val (.ref b1), .val (.ref b18), .val (.ref b35), .val (.int mv), .val (.ref b250), .unset, .unset, .unset, .unset] [(.int (x3 &&& (1 : Int32)))])) _
            exact kgo
          by_cases hc147_259 : (x3 &&& (1 : Int32)) = (0 : Int32)
          · have f260 := (f253.keep kp254 (ninS neb1_250 nin0))
            have f261 := ((f249.ext E250).keep kp254 (ninS neb18_250 nin0))
            have f262 := ((V35.ext E250).keep kp254 (ninS neb35_250 nin0))
            have f263 := (A250.keep kp254)
            obtain ⟨T264, h264, X264, e264, E264, A264, D264, U264, st264⟩ := newO X254 hx hZ hown (ow1 hw) (ow2 hw) (ow3 hw) rfl (g := (mkF m 157 #[.val (.int x0), .val (.int x1), .val (.int x2), .val (.int x3), .val (.ref b1), .val (.ref b18), .val (.ref b35), .val (.int mv), .val (.ref b250), .val (.int (0 : Int32)), .unset, .unset, .unset] [])) rfl (hb hby at_157) (by decide) (by decide)
            obtain ⟨b264, g264⟩ : ∃ z, z = T254.heap.size := ⟨_, rfl⟩
            rw [← g264] at A264 D264 U264 st264
            have gn264 : n0 ≤ b264 := Nat.le_trans (own_sz Ol257) (Nat.le_of_eq g264.symm)
            have neb1_264 : b1 ≠ b264 := Nat.ne_of_lt (Nat.lt_of_lt_of_le f260.lt (Nat.le_of_eq g264.symm))
            have neb18_264 : b18 ≠ b264 := Nat.ne_of_lt (Nat.lt_of_lt_of_le f261.lt (Nat.le_of_eq g264.symm))
            have neb35_264 : b35 ≠ b264 := Nat.ne_of_lt (Nat.lt_of_lt_of_le f262.lt (Nat.le_of_eq g264.symm))
            have neb250_264 : b250 ≠ b264 := Nat.ne_of_lt (Nat.lt_of_lt_of_le f263.lt (Nat.le_of_eq g264.symm))
            have Y264 := Safe.ext E264 CH256.1 (Safe.new (x := b264) (Nat.le_of_eq g264.symm))
            have CH265 := CH256.trans (CHr.ext E264 CH256.1)
            have hk265 := Nat.le_trans hk256 E264.1
            have Ol266 := Ol257.ext E264
            have Fended_264 : Fld Z h264 b264 "com/example/tx_at_boundaries/txatboundaries/mybatis/JoinedSessions" "ended" "Z" (.int (0 : Int32)) := D264 (Or.inl (ow29 hw)) (ty := .boolean) (by decide)
            have Frollback_264 : Fld Z h264 b264 "com/example/tx_at_boundaries/txatboundaries/mybatis/JoinedSessions" "rollback" "Lcom/example/tx_at_boundaries/txatboundaries/mybatis/JoinedSessions$SessionRollback;" .null := D264 (Or.inl (ow31 hw)) (ty := (.object "com/example/tx_at_boundaries/txatboundaries/mybatis/JoinedSessions$SessionRollback")) (by decide)
            obtain ⟨_, _, ⟨T267, L267, k267, n267⟩, -, X267, ⟨Lc267, hQ267, l267, y267, z267⟩, st267⟩ := X264.specialBack hx (y := (⟨"com/example/tx_at_boundaries/txatboundaries/mybatis/JoinedSessions", "<init>", "()V"⟩ : MethodName)) rfl hown (mvT hZ (ow4 hw)) (mvT hZ (ow5 hw)) (mvT hZ (ow6 hw)) (by decide) (backOf (W := 1) (rmji l Z a0 hw [] b264  h264 n0 Ol266 ) hZ (ow6 hw) (ow3 hw) (by decide) (by decide)) (g := (mkF m 161 #[.val (.int x0), .val (.int x1), .val (.int x2), .val (.int x3), .val (.ref b1), .val (.ref b18), .val (.ref b35), .val (.int mv), .val (.ref b250), .val (.int (0 : Int32)), .unset, .unset, .unset] [(.ref b264), (.ref b264)])) rfl (by rw [hml]; rfl) (Steps.refl _) (a := b264) (argsL := []) (rest := [(.ref b264)]) (lenOf pd5 rfl) rfl (by show 2 * 0 + _ ≤ _; exact Nat.le_of_eq rfl) (hb hby at_161) (fun _ _ => ⟨rfl, e264, (by decide : 6 + 0 ≤ _), (by decide : 14 + 0 ≤ _)⟩)
            dsimp only [Pt.U, Pt.locs, Pt.cells, Pt.slots] at X267 l267 y267 z267 st267 hQ267
            subst l267 y267 z267
            obtain ⟨rfl, Nq267, eq267⟩ := hQ267
            have N268 := Fr.app N255 Nq267
            obtain ⟨cq269, kq269, q269a, q269b, q269c⟩ := isOf hZ eq267 A264
            obtain ⟨_, _, ⟨T269, L269, k269, n269⟩, -, X269, ⟨Lc269, hQ269, l269, y269, z269⟩, st269⟩ := X267.virtualBack hx (y := (⟨"com/example/tx_at_boundaries/txatboundaries/mybatis/JoinedSessions", "failure", "()Ljava/lang/Throwable;"⟩ : MethodName)) (z := (⟨"com/example/tx_at_boundaries/txatboundaries/mybatis/JoinedSessions", "failure", "()Ljava/lang/Throwable;"⟩ : MethodName)) hown (mvT hZ (ow87 hw)) (mvT hZ (ow88 hw)) (notFace_of_selects (args := #[]) (mvT hZ (ow90 hw))) (mvT hZ (ow90 hw)) (mvT hZ (ow89 hw)) (by decide) (backOf (W := 0) (rmfl l Z a0 hw [] b264 .null h264 n0 Ol266 rfl Frollback_264) hZ (ow91 hw) (ow3 hw) (by decide) (by decide)) q269a q269c (g := (mkF m 178 #[.val (.int x0), .val (.int x1), .val (.int x2), .val (.int x3), .val (.ref b1), .val (.ref b18), .val (.ref b35), .val (.int mv), .val (.ref b250), .val (.int (0 : Int32)), .val (.ref b264), .unset, .unset] [(.ref b264)])) rfl (by rw [hml]; rfl) (Steps.refl _) (argsL := []) (rest := []) (lenOf pd6 rfl) rfl (by show 2 * 0 + _ ≤ _; exact Nat.le_of_eq rfl) (hb hby at_178) (fun _ _ => ⟨rfl, eq267, (by decide : 6 + 0 ≤ _), (by decide : 14 + 0 ≤ _)⟩)
            dsimp only [Pt.U, Pt.locs, Pt.cells, Pt.slots] at X269 l269 y269 z269 st269 hQ269
            subst l269 y269 z269
            obtain ⟨rfl, Nq269, eq269⟩ := hQ269
            have N270 := Fr.app N268 Nq269
            obtain ⟨cq271, kq271, q271a, q271b, q271c⟩ := isOf hZ eq269 A264
            obtain ⟨_, _, ⟨T271, L271, k271, n271⟩, -, X271, ⟨Lc271, hQ271, l271, y271, z271⟩, st271⟩ := X269.virtualBack hx (y := (⟨"com/example/tx_at_boundaries/txatboundaries/mybatis/JoinedSessions", "requireRunning", "(Ljava/lang/String;)V"⟩ : MethodName)) (z := (⟨"com/example/tx_at_boundaries/txatboundaries/mybatis/JoinedSessions", "requireRunning", "(Ljava/lang/String;)V"⟩ : MethodName)) hown (mvT hZ (ow92 hw)) (mvT hZ (ow24 hw)) (notFace_of_selects (args := #[]) (mvT hZ (ow26 hw))) (mvT hZ (ow26 hw)) (mvT hZ (ow25 hw)) (by decide) (backOf (W := 0) (rmrq l Z a0 hw [] b264 (.ref b250)  h264 n0 Ol266 rfl Fended_264) hZ (ow27 hw) (ow3 hw) (by decide) (by decide)) q271a q271c (g := (mkF m 187 #[.val (.int x0), .val (.int x1), .val (.int x2), .val (.int x3), .val (.ref b1), .val (.ref b18), .val (.ref b35), .val (.int mv), .val (.ref b250), .val (.int (0 : Int32)), .val (.ref b264), .val .null, .unset] [(.ref b250), (.ref b264)])) rfl (by rw [hml]; rfl) (Steps.refl _) (argsL := [(.ref b250)]) (rest := []) (lenOf pd4 rfl) rfl (by show 2 * 0 + _ ≤ _; exact Nat.le_of_eq rfl) (hb hby at_187) (fun _ _ => ⟨rfl, eq269, (by decide : 6 + 0 ≤ _), (by decide : 14 + 0 ≤ _)⟩)
            dsimp only [Pt.U, Pt.locs, Pt.cells, Pt.slots] at X271 l271 y271 z271 st271 hQ271
            subst l271 y271 z271
            obtain ⟨rfl, Nq271, eq271⟩ := hQ271
            have N272 := Fr.app N270 Nq271
            obtain ⟨cq273, kq273, q273a, q273b, q273c⟩ := isOf hZ eq271 A264
            obtain ⟨_, _, ⟨T273, L273, k273, n273⟩, -, X273, ⟨Lc273, hQ273, l273, y273, z273⟩, st273⟩ := X271.virtualBack hx (y := (⟨"com/example/tx_at_boundaries/txatboundaries/mybatis/JoinedSessions", "requireRunning", "(Ljava/lang/String;)V"⟩ : MethodName)) (z := (⟨"com/example/tx_at_boundaries/txatboundaries/mybatis/JoinedSessions", "requireRunning", "(Ljava/lang/String;)V"⟩ : MethodName)) hown (mvT hZ (ow92 hw)) (mvT hZ (ow24 hw)) (notFace_of_selects (args := #[]) (mvT hZ (ow26 hw))) (mvT hZ (ow26 hw)) (mvT hZ (ow25 hw)) (by decide) (backOf (W := 0) (rmrq l Z a0 hw [] b264 (.ref b250)  h264 n0 Ol266 rfl Fended_264) hZ (ow27 hw) (ow3 hw) (by decide) (by decide)) q273a q273c (g := (mkF m 194 #[.val (.int x0), .val (.int x1), .val (.int x2), .val (.int x3), .val (.ref b1), .val (.ref b18), .val (.ref b35), .val (.int mv), .val (.ref b250), .val (.int (0 : Int32)), .val (.ref b264), .val .null, .unset] [(.ref b250), (.ref b264)])) rfl (by rw [hml]; rfl) (Steps.refl _) (argsL := [(.ref b250)]) (rest := []) (lenOf pd4 rfl) rfl (by show 2 * 0 + _ ≤ _; exact Nat.le_of_eq rfl) (hb hby at_194) (fun _ _ => ⟨rfl, eq271, (by decide : 6 + 0 ≤ _), (by decide : 14 + 0 ≤ _)⟩)
            dsimp only [Pt.U, Pt.locs, Pt.cells, Pt.slots] at X273 l273 y273 z273 st273 hQ273
            subst l273 y273 z273
            obtain ⟨rfl, Nq273, eq273⟩ := hQ273
            have N274 := Fr.app N272 Nq273
            obtain ⟨cq275, kq275, q275a, q275b, q275c⟩ := isOf hZ eq273 A264
            obtain ⟨_, _, ⟨T275, L275, k275, n275⟩, -, X275, ⟨Lc275, hQ275, l275, y275, z275⟩, st275⟩ := X273.virtualBack hx (y := (⟨"com/example/tx_at_boundaries/txatboundaries/mybatis/JoinedSessions", "failure", "()Ljava/lang/Throwable;"⟩ : MethodName)) (z := (⟨"com/example/tx_at_boundaries/txatboundaries/mybatis/JoinedSessions", "failure", "()Ljava/lang/Throwable;"⟩ : MethodName)) hown (mvT hZ (ow87 hw)) (mvT hZ (ow88 hw)) (notFace_of_selects (args := #[]) (mvT hZ (ow90 hw))) (mvT hZ (ow90 hw)) (mvT hZ (ow89 hw)) (by decide) (backOf (W := 0) (rmfl l Z a0 hw [] b264 .null h264 n0 Ol266 rfl Frollback_264) hZ (ow91 hw) (ow3 hw) (by decide) (by decide)) q275a q275c (g := (mkF m 199 #[.val (.int x0), .val (.int x1), .val (.int x2), .val (.int x3), .val (.ref b1), .val (.ref b18), .val (.ref b35), .val (.int mv), .val (.ref b250), .val (.int (0 : Int32)), .val (.ref b264), .val .null, .unset] [(.ref b264)])) rfl (by rw [hml]; rfl) (Steps.refl _) (argsL := []) (rest := []) (lenOf pd6 rfl) rfl (by show 2 * 0 + _ ≤ _; exact Nat.le_of_eq rfl) (hb hby at_199) (fun _ _ => ⟨rfl, eq273, (by decide : 6 + 0 ≤ _), (by decide : 14 + 0 ≤ _)⟩)
            dsimp only [Pt.U, Pt.locs, Pt.cells, Pt.slots] at X275 l275 y275 z275 st275 hQ275
            subst l275 y275 z275
            obtain ⟨rfl, Nq275, eq275⟩ := hQ275
            have N276 := Fr.app N274 Nq275
            obtain ⟨fs, hretL, hrun, hended, hEnd⟩ := Stand.leaveW X275 hS0 (by rw [eq275]; exact hk265) (v := some (.int (1 : Int32))) (fun h => by rw [Bd.returns] at h; cases h)
            have hCf : CHr Z EL0 s.vm s.heap T275.vm T275.heap := by rw [hh, eq275]; exact CH265.trans (CHv.at X275 hZ (own_EW hw) CH265.1)
            refine ⟨_, _, pre258 _ ?_, hrun, hended, _, _, rfl, ?_, hCf, hEnd.1, hEnd.2.1, hEnd.2.2.1, hEnd.2.2.2.mono (by decide) (by decide)⟩
            · refine XS.ifYes X254.here hx rfl (pc0 := 147) (pc' := 154) rfl (hb hby at_147) rfl ((if0 _ _).trans (teq hc147_259).1) (by decide) (by decide) ?_
              show Steps p.tables e below (T254.setTop (mkF m 154 #[.val (.int x0), .val (.int x1), .val (.int x2), .val (.int x3), .val (.ref b1), .val (.ref b18), .val (.ref b35), .val (.int mv), .val (.ref b250), .unset, .unset, .unset, .unset] [])) _
              refine XS.iconst X254.here hx rfl (hb hby at_154) ?_
              show Steps p.tables e below (T254.setTop (mkF m 155 #[.val (.int x0), .val (.int x1), .val (.int x2), .val (.int x3), .val (.ref b1), .val (.ref b18), .val (.ref b35), .val (.int mv), .val (.ref b250), .unset, .unset, .unset, .unset] [(.int (0 : Int32))])) _
              refine XS.istore X254.here hx rfl (hb hby at_155) rfl (l' := #[.val (.int x0), .val (.int x1), .val (.int x2), .val (.int x3), .val (.ref b1), .val (.ref b18), .val (.ref b35), .val (.int mv), .val (.ref b250), .val (.int (0 : Int32)), .unset, .unset, .unset]) rfl ?_
              show Steps p.tables e below (T254.setTop (mkF m 157 #[.val (.int x0), .val (.int x1), .val (.int x2), .val (.int x3), .val (.ref b1), .val (.ref b18), .val (.ref b35), .val (.int mv), .val (.ref b250), .val (.int (0 : Int32)), .unset, .unset, .unset] [])) _
              refine st264 _ ?_
              show Steps p.tables e below (T264.setTop (mkF m 160 #[.val (.int x0), .val (.int x1), .val (.int x2), .val (.int x3), .val (.ref b1), .val (.ref b18), .val (.ref b35), .val (.int mv), .val (.ref b250), .val (.int (0 : Int32)), .unset, .unset, .unset] [(.ref b264)])) _
              refine XS.dup X264.here hx rfl (hb hby at_160) rfl rfl ?_
              show Steps p.tables e below (T264.setTop (mkF m 161 #[.val (.int x0), .val (.int x1), .val (.int x2), .val (.int x3), .val (.ref b1), .val (.ref b18), .val (.ref b35), .val (.int mv), .val (.ref b250), .val (.int (0 : Int32)), .unset, .unset, .unset] [(.ref b264), (.ref b264)])) _
              refine st267.trans ?_
              show Steps p.tables e below (T267.setTop (mkF m 164 #[.val (.int x0), .val (.int x1), .val (.int x2), .val (.int x3), .val (.ref b1), .val (.ref b18), .val (.ref b35), .val (.int mv), .val (.ref b250), .val (.int (0 : Int32)), .unset, .unset, .unset] [(.ref b264)])) _
              refine XS.astore X267.here hx rfl (hb hby at_164) rfl rfl (l' := #[.val (.int x0), .val (.int x1), .val (.int x2), .val (.int x3), .val (.ref b1), .val (.ref b18), .val (.ref b35), .val (.int mv), .val (.ref b250), .val (.int (0 : Int32)), .val (.ref b264), .unset, .unset]) rfl ?_
              show Steps p.tables e below (T267.setTop (mkF m 166 #[.val (.int x0), .val (.int x1), .val (.int x2), .val (.int x3), .val (.ref b1), .val (.ref b18), .val (.ref b35), .val (.int mv), .val (.ref b250), .val (.int (0 : Int32)), .val (.ref b264), .unset, .unset] [])) _
              refine XS.iload X267.here hx rfl (hb hby at_166) rfl ?_
              show Steps p.tables e below (T267.setTop (mkF m 168 #[.val (.int x0), .val (.int x1), .val (.int x2), .val (.int x3), .val (.ref b1), .val (.ref b18), .val (.ref b35), .val (.int mv), .val (.ref b250), .val (.int (0 : Int32)), .val (.ref b264), .unset, .unset] [(.int (0 : Int32))])) _
              refine XS.ifYes X267.here hx rfl (pc0 := 168) (pc' := 176) rfl (hb hby at_168) rfl ((if0 _ _).trans (teq (by decide : (0 : Int32) = (0 : Int32))).1) (by decide) (by decide) ?_
              show Steps p.tables e below (T267.setTop (mkF m 176 #[.val (.int x0), .val (.int x1), .val (.int x2), .val (.int x3), .val (.ref b1), .val (.ref b18), .val (.ref b35), .val (.int mv), .val (.ref b250), .val (.int (0 : Int32)), .val (.ref b264), .unset, .unset] [])) _
              refine XS.aload X267.here hx rfl (hb hby at_176) rfl rfl ?_
              show Steps p.tables e below (T267.setTop (mkF m 178 #[.val (.int x0), .val (.int x1), .val (.int x2), .val (.int x3), .val (.ref b1), .val (.ref b18), .val (.ref b35), .val (.int mv), .val (.ref b250), .val (.int (0 : Int32)), .val (.ref b264), .unset, .unset] [(.ref b264)])) _
              refine st269.trans ?_
              show Steps p.tables e below (T269.setTop (mkF m 181 #[.val (.int x0), .val (.int x1), .val (.int x2), .val (.int x3), .val (.ref b1), .val (.ref b18), .val (.ref b35), .val (.int mv), .val (.ref b250), .val (.int (0 : Int32)), .val (.ref b264), .unset, .unset] [.null])) _
              refine XS.astore X269.here hx rfl (hb hby at_181) rfl rfl (l' := #[.val (.int x0), .val (.int x1), .val (.int x2), .val (.int x3), .val (.ref b1), .val (.ref b18), .val (.ref b35), .val (.int mv), .val (.ref b250), .val (.int (0 : Int32)), .val (.ref b264), .val .null, .unset]) rfl ?_
              show Steps p.tables e below (T269.setTop (mkF m 183 #[.val (.int x0), .val (.int x1), .val (.int x2), .val (.int x3), .val (.ref b1), .val (.ref b18), .val (.ref b35), .val (.int mv), .val (.ref b250), .val (.int (0 : Int32)), .val (.ref b264), .val .null, .unset] [])) _
              refine XS.aload X269.here hx rfl (hb hby at_183) rfl rfl ?_
              show Steps p.tables e below (T269.setTop (mkF m 185 #[.val (.int x0), .val (.int x1), .val (.int x2), .val (.int x3), .val (.ref b1), .val (.ref b18), .val (.ref b35), .val (.int mv), .val (.ref b250), .val (.int (0 : Int32)), .val (.ref b264), .val .null, .unset] [(.ref b264)])) _
              refine XS.aload X269.here hx rfl (hb hby at_185) rfl rfl ?_
              show Steps p.tables e below (T269.setTop (mkF m 187 #[.val (.int x0), .val (.int x1), .val (.int x2), .val (.int x3), .val (.ref b1), .val (.ref b18), .val (.ref b35), .val (.int mv), .val (.ref b250), .val (.int (0 : Int32)), .val (.ref b264), .val .null, .unset] [(.ref b250), (.ref b264)])) _
              refine st271.trans ?_
              show Steps p.tables e below (T271.setTop (mkF m 190 #[.val (.int x0), .val (.int x1), .val (.int x2), .val (.int x3), .val (.ref b1), .val (.ref b18), .val (.ref b35), .val (.int mv), .val (.ref b250), .val (.int (0 : Int32)), .val (.ref b264), .val .null, .unset] [])) _
              refine XS.aload X271.here hx rfl (hb hby at_190) rfl rfl ?_
              show Steps p.tables e below (T271.setTop (mkF m 192 #[.val (.int x0), .val (.int x1), .val (.int x2), .val (.int x3), .val (.ref b1), .val (.ref b18), .val (.ref b35), .val (.int mv), .val (.ref b250), .val (.int (0 : Int32)), .val (.ref b264), .val .null, .unset] [(.ref b264)])) _
              refine XS.aload X271.here hx rfl (hb hby at_192) rfl rfl ?_
              show Steps p.tables e below (T271.setTop (mkF m 194 #[.val (.int x0), .val (.int x1), .val (.int x2), .val (.int x3), .val (.ref b1), .val (.ref b18), .val (.ref b35), .val (.int mv), .val (.ref b250), .val (.int (0 : Int32)), .val (.ref b264), .val .null, .unset] [(.ref b250), (.ref b264)])) _
              refine st273.trans ?_
              show Steps p.tables e below (T273.setTop (mkF m 197 #[.val (.int x0), .val (.int x1), .val (.int x2), .val (.int x3), .val (.ref b1), .val (.ref b18), .val (.ref b35), .val (.int mv), .val (.ref b250), .val (.int (0 : Int32)), .val (.ref b264), .val .null, .unset] [])) _
              refine XS.aload X273.here hx rfl (hb hby at_197) rfl rfl ?_
              show Steps p.tables e below (T273.setTop (mkF m 199 #[.val (.int x0), .val (.int x1), .val (.int x2), .val (.int x3), .val (.ref b1), .val (.ref b18), .val (.ref b35), .val (.int mv), .val (.ref b250), .val (.int (0 : Int32)), .val (.ref b264), .val .null, .unset] [(.ref b264)])) _
              refine st275.trans ?_
              show Steps p.tables e below (T275.setTop (mkF m 202 #[.val (.int x0), .val (.int x1), .val (.int x2), .val (.int x3), .val (.ref b1), .val (.ref b18), .val (.ref b35), .val (.int mv), .val (.ref b250), .val (.int (0 : Int32)), .val (.ref b264), .val .null, .unset] [.null])) _
              refine XS.astore X275.here hx rfl (hb hby at_202) rfl rfl (l' := #[.val (.int x0), .val (.int x1), .val (.int x2), .val (.int x3), .val (.ref b1), .val (.ref b18), .val (.ref b35), .val (.int mv), .val (.ref b250), .val (.int (0 : Int32)), .val (.ref b264), .val .null, .val .null]) rfl ?_
              show Steps p.tables e below (T275.setTop (mkF m 204 #[.val (.int x0), .val (.int x1), .val (.int x2), .val (.int x3), .val (.ref b1), .val (.ref b18), .val (.ref b35), .val (.int mv), .val (.ref b250), .val (.int (0 : Int32)), .val (.ref b264), .val .null, .val .null] [])) _
              refine XS.aload X275.here hx rfl (hb hby at_204) rfl rfl ?_
              show Steps p.tables e below (T275.setTop (mkF m 206 #[.val (.int x0), .val (.int x1), .val (.int x2), .val (.int x3), .val (.ref b1), .val (.ref b18), .val (.ref b35), .val (.int mv), .val (.ref b250), .val (.int (0 : Int32)), .val (.ref b264), .val .null, .val .null] [.null])) _
              refine XS.aload X275.here hx rfl (hb hby at_206) rfl rfl ?_
              show Steps p.tables e below (T275.setTop (mkF m 208 #[.val (.int x0), .val (.int x1), .val (.int x2), .val (.int x3), .val (.ref b1), .val (.ref b18), .val (.ref b35), .val (.int mv), .val (.ref b250), .val (.int (0 : Int32)), .val (.ref b264), .val .null, .val .null] [.null, .null])) _
              refine Jvm.RoadKit.acmp (g := (mkF m 208 #[.val (.int x0), .val (.int x1), .val (.int x2), .val (.int x3), .val (.ref b1), .val (.ref b18), .val (.ref b35), .val (.int mv), .val (.ref b250), .val (.int (0 : Int32)), .val (.ref b264), .val .null, .val .null] [.null, .null])) X275 hx rfl rfl rfl (pc0 := 208) (pc' := 211) (same := true) rfl (hb hby at_208) rfl (decide_eq_true rfl) (by decide) (by decide) ?_
              show Steps p.tables e below (T275.setTop (mkF m 211 #[.val (.int x0), .val (.int x1), .val (.int x2), .val (.int x3), .val (.ref b1), .val (.ref b18), .val (.ref b35), .val (.int mv), .val (.ref b250), .val (.int (0 : Int32)), .val (.ref b264), .val .null, .val .null] [])) _
              refine XS.iload X275.here hx rfl (hb hby at_211) rfl ?_
              show Steps p.tables e below (T275.setTop (mkF m 213 #[.val (.int x0), .val (.int x1), .val (.int x2), .val (.int x3), .val (.ref b1), .val (.ref b18), .val (.ref b35), .val (.int mv), .val (.ref b250), .val (.int (0 : Int32)), .val (.ref b264), .val .null, .val .null] [(.int (0 : Int32))])) _
              refine XS.aload X275.here hx rfl (hb hby at_213) rfl rfl ?_
              show Steps p.tables e below (T275.setTop (mkF m 215 #[.val (.int x0), .val (.int x1), .val (.int x2), .val (.int x3), .val (.ref b1), .val (.ref b18), .val (.ref b35), .val (.int mv), .val (.ref b250), .val (.int (0 : Int32)), .val (.ref b264), .val .null, .val .null] [.null, (.int (0 : Int32))])) _
              refine XS.ifnullYes X275.here hx rfl (pc0 := 215) (pc' := 222) rfl (hb hby at_215) rfl (by decide) (by decide) ?_
              show Steps p.tables e below (T275.setTop (mkF m 222 #[.val (.int x0), .val (.int x1), .val (.int x2), .val (.int x3), .val (.ref b1), .val (.ref b18), .val (.ref b35), .val (.int mv), .val (.ref b250), .val (.int (0 : Int32)), .val (.ref b264), .val .null, .val .null] [(.int (0 : Int32))])) _
              refine XS.iconst X275.here hx rfl (hb hby at_222) ?_
              show Steps p.tables e below (T275.setTop (mkF m 223 #[.val (.int x0), .val (.int x1), .val (.int x2), .val (.int x3), .val (.ref b1), .val (.ref b18), .val (.ref b35), .val (.int mv), .val (.ref b250), .val (.int (0 : Int32)), .val (.ref b264), .val .null, .val .null] [(.int (0 : Int32)), (.int (0 : Int32))])) _
              refine XS.icmpNo X275.here hx rfl (hb hby at_223) rfl (teq (by decide : (0 : Int32) = (0 : Int32))).2 ?_
              show Steps p.tables e below (T275.setTop (mkF m 226 #[.val (.int x0), .val (.int x1), .val (.int x2), .val (.int x3), .val (.ref b1), .val (.ref b18), .val (.ref b35), .val (.int mv), .val (.ref b250), .val (.int (0 : Int32)), .val (.ref b264), .val .null, .val .null] [])) _
              refine XS.iconst X275.here hx rfl (hb hby at_226) ?_
              show Steps p.tables e below (T275.setTop (mkF m 227 #[.val (.int x0), .val (.int x1), .val (.int x2), .val (.int x3), .val (.ref b1), .val (.ref b18), .val (.ref b35), .val (.int mv), .val (.ref b250), .val (.int (0 : Int32)), .val (.ref b264), .val .null, .val .null] [(.int (1 : Int32))])) _
              refine XS.goto X275.here hx rfl (pc0 := 227) (pc' := 231) rfl (hb hby at_227) (by decide) (by decide) ?_
              show Steps p.tables e below (T275.setTop (mkF m 231 #[.val (.int x0), .val (.int x1), .val (.int x2), .val (.int x3), .val (.ref b1), .val (.ref b18), .val (.ref b35), .val (.int mv), .val (.ref b250), .val (.int (0 : Int32)), .val (.ref b264), .val .null, .val .null] [(.int (1 : Int32))])) _
              exact retOut X275 hx Bd.returns rfl (Or.inl ⟨rfl, Or.inr (Or.inl rfl), _, rfl⟩) (hb hby at_231) hretL
            · show Q_rm0 Z x0 x1 x2 x3 G1 us se h0 n0 _ T275.heap _
              rw [eq275]
              exact ⟨rfl, N276⟩
          · have f277 := (f253.keep kp254 (ninS neb1_250 nin0))
            have f278 := ((f249.ext E250).keep kp254 (ninS neb18_250 nin0))
            have f279 := ((V35.ext E250).keep kp254 (ninS neb35_250 nin0))
            have f280 := (A250.keep kp254)
            obtain ⟨T281, h281, X281, e281, E281, A281, D281, U281, st281⟩ := newO X254 hx hZ hown (ow1 hw) (ow2 hw) (ow3 hw) rfl (g := (mkF m 157 #[.val (.int x0), .val (.int x1), .val (.int x2), .val (.int x3), .val (.ref b1), .val (.ref b18), .val (.ref b35), .val (.int mv), .val (.ref b250), .val (.int (1 : Int32)), .unset, .unset, .unset] [])) rfl (hb hby at_157) (by decide) (by decide)
            obtain ⟨b281, g281⟩ : ∃ z, z = T254.heap.size := ⟨_, rfl⟩
            rw [← g281] at A281 D281 U281 st281
            have gn281 : n0 ≤ b281 := Nat.le_trans (own_sz Ol257) (Nat.le_of_eq g281.symm)
            have neb1_281 : b1 ≠ b281 := Nat.ne_of_lt (Nat.lt_of_lt_of_le f277.lt (Nat.le_of_eq g281.symm))
            have neb18_281 : b18 ≠ b281 := Nat.ne_of_lt (Nat.lt_of_lt_of_le f278.lt (Nat.le_of_eq g281.symm))
            have neb35_281 : b35 ≠ b281 := Nat.ne_of_lt (Nat.lt_of_lt_of_le f279.lt (Nat.le_of_eq g281.symm))
            have neb250_281 : b250 ≠ b281 := Nat.ne_of_lt (Nat.lt_of_lt_of_le f280.lt (Nat.le_of_eq g281.symm))
            have Y281 := Safe.ext E281 CH256.1 (Safe.new (x := b281) (Nat.le_of_eq g281.symm))
            have CH282 := CH256.trans (CHr.ext E281 CH256.1)
            have hk282 := Nat.le_trans hk256 E281.1
            have Ol283 := Ol257.ext E281
            have Fended_281 : Fld Z h281 b281 "com/example/tx_at_boundaries/txatboundaries/mybatis/JoinedSessions" "ended" "Z" (.int (0 : Int32)) := D281 (Or.inl (ow29 hw)) (ty := .boolean) (by decide)
            have Frollback_281 : Fld Z h281 b281 "com/example/tx_at_boundaries/txatboundaries/mybatis/JoinedSessions" "rollback" "Lcom/example/tx_at_boundaries/txatboundaries/mybatis/JoinedSessions$SessionRollback;" .null := D281 (Or.inl (ow31 hw)) (ty := (.object "com/example/tx_at_boundaries/txatboundaries/mybatis/JoinedSessions$SessionRollback")) (by decide)
            obtain ⟨_, _, ⟨T284, L284, k284, n284⟩, -, X284, ⟨Lc284, hQ284, l284, y284, z284⟩, st284⟩ := X281.specialBack hx (y := (⟨"com/example/tx_at_boundaries/txatboundaries/mybatis/JoinedSessions", "<init>", "()V"⟩ : MethodName)) rfl hown (mvT hZ (ow4 hw)) (mvT hZ (ow5 hw)) (mvT hZ (ow6 hw)) (by decide) (backOf (W := 1) (rmji l Z a0 hw [] b281  h281 n0 Ol283 ) hZ (ow6 hw) (ow3 hw) (by decide) (by decide)) (g := (mkF m 161 #[.val (.int x0), .val (.int x1), .val (.int x2), .val (.int x3), .val (.ref b1), .val (.ref b18), .val (.ref b35), .val (.int mv), .val (.ref b250), .val (.int (1 : Int32)), .unset, .unset, .unset] [(.ref b281), (.ref b281)])) rfl (by rw [hml]; rfl) (Steps.refl _) (a := b281) (argsL := []) (rest := [(.ref b281)]) (lenOf pd5 rfl) rfl (by show 2 * 0 + _ ≤ _; exact Nat.le_of_eq rfl) (hb hby at_161) (fun _ _ => ⟨rfl, e281, (by decide : 6 + 0 ≤ _), (by decide : 14 + 0 ≤ _)⟩)
            dsimp only [Pt.U, Pt.locs, Pt.cells, Pt.slots] at X284 l284 y284 z284 st284 hQ284
            subst l284 y284 z284
            obtain ⟨rfl, Nq284, eq284⟩ := hQ284
            have N285 := Fr.app N255 Nq284
            obtain ⟨cq286, kq286, q286a, q286b, q286c⟩ := isOf hZ eq284 A281
            obtain ⟨_, _, ⟨T286, L286, k286, n286⟩, -, Xr286, hSr286, hgr286, ⟨Lc286, hQ286, l286, y286, z286, CR286⟩, st286⟩ := X284.virtualBackS hx (y := (⟨"com/example/tx_at_boundaries/txatboundaries/mybatis/JoinedSessions", "rollBack", "()V"⟩ : MethodName)) (z := (⟨"com/example/tx_at_boundaries/txatboundaries/mybatis/JoinedSessions", "rollBack", "()V"⟩ : MethodName)) hown (mvT hZ (ow10 hw)) (mvT hZ (ow11 hw)) (notFace_of_selects (args := #[]) (mvT hZ (ow13 hw))) (mvT hZ (ow13 hw)) (mvT hZ (ow12 hw)) (by decide) (backOfSKH (W := 0) (rmrb l Z a0 hw [] b281 us se h281 n0 Ol283 hst SU SS A281 Fended_281 Frollback_281 gn281) hZ (ow14 hw) (ow3 hw) (by decide) (by decide) (own_EW hw) CH282.1 (own_tk hZ0 hZ hK.1) (own_fk hZ0 hZ hK.2)) q286a q286c (g := (mkF m 173 #[.val (.int x0), .val (.int x1), .val (.int x2), .val (.int x3), .val (.ref b1), .val (.ref b18), .val (.ref b35), .val (.int mv), .val (.ref b250), .val (.int (1 : Int32)), .val (.ref b281), .unset, .unset] [(.ref b281)])) rfl (by rw [hml]; rfl) (Steps.refl _) (argsL := []) (rest := []) (lenOf pd5 rfl) rfl (by show 2 * 0 + _ ≤ _; exact Nat.le_of_eq rfl) (hb hby at_173) (fun _ _ => ⟨rfl, eq284, (by decide : 6 + 6 ≤ _), (by decide : 14 + 3066 ≤ _)⟩)
            dsimp only [Pt.U, Pt.locs, Pt.cells, Pt.slots] at Xr286 hSr286 hgr286 l286 y286 z286 CR286 st286 hQ286
            subst l286 y286 z286
            obtain ⟨X286, hS286, hZ286, hown286⟩ := rebS hS0 (by rw [eq284]; exact hk282) Xr286 hSr286 hgr286 hZ hown
            have hk286 : T286.heap.size ≤ T286.heap.size := Nat.le_refl _
            obtain ⟨r286, rfl, Nq286, kp286, fe286, fr286⟩ := hQ286
            have N287 := Fr.app N285 Nq286
            have f288 := (f277.ext E281)
            have f289 := (f278.ext E281)
            have f290 := (f279.ext E281)
            have f291 := (f280.ext E281)
            have CH292 := CH282.trans CR286
            have Ol293 := Ol283.keep kp286 (allS gn281 all0)
            have f295 := (A281.keep kp286)
            obtain ⟨cq294, kq294, q294a, q294b, q294c⟩ := isOf hZ286 rfl f295
            obtain ⟨_, _, ⟨T294, L294, k294, n294⟩, -, X294, ⟨Lc294, hQ294, l294, y294, z294⟩, st294⟩ := X286.virtualBack hx (y := (⟨"com/example/tx_at_boundaries/txatboundaries/mybatis/JoinedSessions", "failure", "()Ljava/lang/Throwable;"⟩ : MethodName)) (z := (⟨"com/example/tx_at_boundaries/txatboundaries/mybatis/JoinedSessions", "failure", "()Ljava/lang/Throwable;"⟩ : MethodName)) hown286 (mvT hZ286 (ow87 hw)) (mvT hZ286 (ow88 hw)) (notFace_of_selects (args := #[]) (mvT hZ286 (ow90 hw))) (mvT hZ286 (ow90 hw)) (mvT hZ286 (ow89 hw)) (by decide) (backOf (W := 0) (rmfl l Z a0 hw [] b281 (.ref r286) T286.heap n0 Ol293 rfl fr286) hZ286 (ow91 hw) (ow3 hw) (by decide) (by decide)) q294a q294c (g := (mkF m 178 #[.val (.int x0), .val (.int x1), .val (.int x2), .val (.int x3), .val (.ref b1), .val (.ref b18), .val (.ref b35), .val (.int mv), .val (.ref b250), .val (.int (1 : Int32)), .val (.ref b281), .unset, .unset] [(.ref b281)])) rfl (by rw [hml]; rfl) (Steps.refl _) (argsL := []) (rest := []) (lenOf pd6 rfl) rfl (by show 2 * 0 + _ ≤ _; exact Nat.le_of_eq rfl) (hb hby at_178) (fun _ _ => ⟨rfl, rfl, (by decide : 12 + 0 ≤ _), (by decide : 3080 + 0 ≤ _)⟩)
            dsimp only [Pt.U, Pt.locs, Pt.cells, Pt.slots] at X294 l294 y294 z294 st294 hQ294
            subst l294 y294 z294
            obtain ⟨rfl, Nq294, eq294⟩ := hQ294
            have N296 := Fr.app N287 Nq294
            obtain ⟨cq297, kq297, q297a, q297b, q297c⟩ := isOf hZ286 eq294 f295
            obtain ⟨_, _, ⟨T297, L297, k297, n297⟩, -, X297, ⟨Lc297, hQ297, l297, y297, z297⟩, st297⟩ := X294.virtualBack hx (y := (⟨"com/example/tx_at_boundaries/txatboundaries/mybatis/JoinedSessions", "requireRunning", "(Ljava/lang/String;)V"⟩ : MethodName)) (z := (⟨"com/example/tx_at_boundaries/txatboundaries/mybatis/JoinedSessions", "requireRunning", "(Ljava/lang/String;)V"⟩ : MethodName)) hown286 (mvT hZ286 (ow92 hw)) (mvT hZ286 (ow24 hw)) (notFace_of_selects (args := #[]) (mvT hZ286 (ow26 hw))) (mvT hZ286 (ow26 hw)) (mvT hZ286 (ow25 hw)) (by decide) (backOf (W := 0) (rmrq l Z a0 hw [] b281 (.ref b250)  T286.heap n0 Ol293 rfl fe286) hZ286 (ow27 hw) (ow3 hw) (by decide) (by decide)) q297a q297c (g := (mkF m 187 #[.val (.int x0), .val (.int x1), .val (.int x2), .val (.int x3), .val (.ref b1), .val (.ref b18), .val (.ref b35), .val (.int mv), .val (.ref b250), .val (.int (1 : Int32)), .val (.ref b281), .val (.ref r286), .unset] [(.ref b250), (.ref b281)])) rfl (by rw [hml]; rfl) (Steps.refl _) (argsL := [(.ref b250)]) (rest := []) (lenOf pd4 rfl) rfl (by show 2 * 0 + _ ≤ _; exact Nat.le_of_eq rfl) (hb hby at_187) (fun _ _ => ⟨rfl, eq294, (by decide : 12 + 0 ≤ _), (by decide : 3080 + 0 ≤ _)⟩)
            dsimp only [Pt.U, Pt.locs, Pt.cells, Pt.slots] at X297 l297 y297 z297 st297 hQ297
            subst l297 y297 z297
            obtain ⟨rfl, Nq297, eq297⟩ := hQ297
            have N298 := Fr.app N296 Nq297
            obtain ⟨cq299, kq299, q299a, q299b, q299c⟩ := isOf hZ286 eq297 f295
            obtain ⟨_, _, ⟨T299, L299, k299, n299⟩, -, X299, ⟨Lc299, hQ299, l299, y299, z299⟩, st299⟩ := X297.virtualBack hx (y := (⟨"com/example/tx_at_boundaries/txatboundaries/mybatis/JoinedSessions", "requireRunning", "(Ljava/lang/String;)V"⟩ : MethodName)) (z := (⟨"com/example/tx_at_boundaries/txatboundaries/mybatis/JoinedSessions", "requireRunning", "(Ljava/lang/String;)V"⟩ : MethodName)) hown286 (mvT hZ286 (ow92 hw)) (mvT hZ286 (ow24 hw)) (notFace_of_selects (args := #[]) (mvT hZ286 (ow26 hw))) (mvT hZ286 (ow26 hw)) (mvT hZ286 (ow25 hw)) (by decide) (backOf (W := 0) (rmrq l Z a0 hw [] b281 (.ref b250)  T286.heap n0 Ol293 rfl fe286) hZ286 (ow27 hw) (ow3 hw) (by decide) (by decide)) q299a q299c (g := (mkF m 194 #[.val (.int x0), .val (.int x1), .val (.int x2), .val (.int x3), .val (.ref b1), .val (.ref b18), .val (.ref b35), .val (.int mv), .val (.ref b250), .val (.int (1 : Int32)), .val (.ref b281), .val (.ref r286), .unset] [(.ref b250), (.ref b281)])) rfl (by rw [hml]; rfl) (Steps.refl _) (argsL := [(.ref b250)]) (rest := []) (lenOf pd4 rfl) rfl (by show 2 * 0 + _ ≤ _; exact Nat.le_of_eq rfl) (hb hby at_194) (fun _ _ => ⟨rfl, eq297, (by decide : 12 + 0 ≤ _), (by decide : 3080 + 0 ≤ _)⟩)
            dsimp only [Pt.U, Pt.locs, Pt.cells, Pt.slots] at X299 l299 y299 z299 st299 hQ299
            subst l299 y299 z299
            obtain ⟨rfl, Nq299, eq299⟩ := hQ299
            have N300 := Fr.app N298 Nq299
            obtain ⟨cq301, kq301, q301a, q301b, q301c⟩ := isOf hZ286 eq299 f295
            obtain ⟨_, _, ⟨T301, L301, k301, n301⟩, -, X301, ⟨Lc301, hQ301, l301, y301, z301⟩, st301⟩ := X299.virtualBack hx (y := (⟨"com/example/tx_at_boundaries/txatboundaries/mybatis/JoinedSessions", "failure", "()Ljava/lang/Throwable;"⟩ : MethodName)) (z := (⟨"com/example/tx_at_boundaries/txatboundaries/mybatis/JoinedSessions", "failure", "()Ljava/lang/Throwable;"⟩ : MethodName)) hown286 (mvT hZ286 (ow87 hw)) (mvT hZ286 (ow88 hw)) (notFace_of_selects (args := #[]) (mvT hZ286 (ow90 hw))) (mvT hZ286 (ow90 hw)) (mvT hZ286 (ow89 hw)) (by decide) (backOf (W := 0) (rmfl l Z a0 hw [] b281 (.ref r286) T286.heap n0 Ol293 rfl fr286) hZ286 (ow91 hw) (ow3 hw) (by decide) (by decide)) q301a q301c (g := (mkF m 199 #[.val (.int x0), .val (.int x1), .val (.int x2), .val (.int x3), .val (.ref b1), .val (.ref b18), .val (.ref b35), .val (.int mv), .val (.ref b250), .val (.int (1 : Int32)), .val (.ref b281), .val (.ref r286), .unset] [(.ref b281)])) rfl (by rw [hml]; rfl) (Steps.refl _) (argsL := []) (rest := []) (lenOf pd6 rfl) rfl (by show 2 * 0 + _ ≤ _; exact Nat.le_of_eq rfl) (hb hby at_199) (fun _ _ => ⟨rfl, eq299, (by decide : 12 + 0 ≤ _), (by decide : 3080 + 0 ≤ _)⟩)
            dsimp only [Pt.U, Pt.locs, Pt.cells, Pt.slots] at X301 l301 y301 z301 st301 hQ301
            subst l301 y301 z301
            obtain ⟨rfl, Nq301, eq301⟩ := hQ301
            have N302 := Fr.app N300 Nq301
            obtain ⟨fs, hretL, hrun, hended, hEnd⟩ := Stand.leaveW X301 hS286 (by rw [eq301]; exact hk286) (v := some (.int (1 : Int32))) (fun h => by rw [Bd.returns] at h; cases h)
            have hCf : CHr Z EL0 s.vm s.heap T301.vm T301.heap := by rw [hh, eq301]; exact CH292.trans (CHv.at X301 hZ286 (own_EW hw) CH292.1)
            refine ⟨_, _, pre258 _ ?_, hrun, hended, _, _, rfl, ?_, hCf, hEnd.1, hEnd.2.1, hEnd.2.2.1, hEnd.2.2.2.mono (by decide) (by decide)⟩
            · refine XS.ifNo X254.here hx rfl (hb hby at_147) rfl ((if0 _ _).trans (feq hc147_259).1) ?_
              show Steps p.tables e below (T254.setTop (mkF m 150 #[.val (.int x0), .val (.int x1), .val (.int x2), .val (.int x3), .val (.ref b1), .val (.ref b18), .val (.ref b35), .val (.int mv), .val (.ref b250), .unset, .unset, .unset, .unset] [])) _
              refine XS.iconst X254.here hx rfl (hb hby at_150) ?_
              show Steps p.tables e below (T254.setTop (mkF m 151 #[.val (.int x0), .val (.int x1), .val (.int x2), .val (.int x3), .val (.ref b1), .val (.ref b18), .val (.ref b35), .val (.int mv), .val (.ref b250), .unset, .unset, .unset, .unset] [(.int (1 : Int32))])) _
              refine XS.goto X254.here hx rfl (pc0 := 151) (pc' := 155) rfl (hb hby at_151) (by decide) (by decide) ?_
              show Steps p.tables e below (T254.setTop (mkF m 155 #[.val (.int x0), .val (.int x1), .val (.int x2), .val (.int x3), .val (.ref b1), .val (.ref b18), .val (.ref b35), .val (.int mv), .val (.ref b250), .unset, .unset, .unset, .unset] [(.int (1 : Int32))])) _
              refine XS.istore X254.here hx rfl (hb hby at_155) rfl (l' := #[.val (.int x0), .val (.int x1), .val (.int x2), .val (.int x3), .val (.ref b1), .val (.ref b18), .val (.ref b35), .val (.int mv), .val (.ref b250), .val (.int (1 : Int32)), .unset, .unset, .unset]) rfl ?_
              show Steps p.tables e below (T254.setTop (mkF m 157 #[.val (.int x0), .val (.int x1), .val (.int x2), .val (.int x3), .val (.ref b1), .val (.ref b18), .val (.ref b35), .val (.int mv), .val (.ref b250), .val (.int (1 : Int32)), .unset, .unset, .unset] [])) _
              refine st281 _ ?_
              show Steps p.tables e below (T281.setTop (mkF m 160 #[.val (.int x0), .val (.int x1), .val (.int x2), .val (.int x3), .val (.ref b1), .val (.ref b18), .val (.ref b35), .val (.int mv), .val (.ref b250), .val (.int (1 : Int32)), .unset, .unset, .unset] [(.ref b281)])) _
              refine XS.dup X281.here hx rfl (hb hby at_160) rfl rfl ?_
              show Steps p.tables e below (T281.setTop (mkF m 161 #[.val (.int x0), .val (.int x1), .val (.int x2), .val (.int x3), .val (.ref b1), .val (.ref b18), .val (.ref b35), .val (.int mv), .val (.ref b250), .val (.int (1 : Int32)), .unset, .unset, .unset] [(.ref b281), (.ref b281)])) _
              refine st284.trans ?_
              show Steps p.tables e below (T284.setTop (mkF m 164 #[.val (.int x0), .val (.int x1), .val (.int x2), .val (.int x3), .val (.ref b1), .val (.ref b18), .val (.ref b35), .val (.int mv), .val (.ref b250), .val (.int (1 : Int32)), .unset, .unset, .unset] [(.ref b281)])) _
              refine XS.astore X284.here hx rfl (hb hby at_164) rfl rfl (l' := #[.val (.int x0), .val (.int x1), .val (.int x2), .val (.int x3), .val (.ref b1), .val (.ref b18), .val (.ref b35), .val (.int mv), .val (.ref b250), .val (.int (1 : Int32)), .val (.ref b281), .unset, .unset]) rfl ?_
              show Steps p.tables e below (T284.setTop (mkF m 166 #[.val (.int x0), .val (.int x1), .val (.int x2), .val (.int x3), .val (.ref b1), .val (.ref b18), .val (.ref b35), .val (.int mv), .val (.ref b250), .val (.int (1 : Int32)), .val (.ref b281), .unset, .unset] [])) _
              refine XS.iload X284.here hx rfl (hb hby at_166) rfl ?_
              show Steps p.tables e below (T284.setTop (mkF m 168 #[.val (.int x0), .val (.int x1), .val (.int x2), .val (.int x3), .val (.ref b1), .val (.ref b18), .val (.ref b35), .val (.int mv), .val (.ref b250), .val (.int (1 : Int32)), .val (.ref b281), .unset, .unset] [(.int (1 : Int32))])) _
              refine XS.ifNo X284.here hx rfl (hb hby at_168) rfl ((if0 _ _).trans (feq (by decide : ¬ ((1 : Int32) = (0 : Int32)))).1) ?_
              show Steps p.tables e below (T284.setTop (mkF m 171 #[.val (.int x0), .val (.int x1), .val (.int x2), .val (.int x3), .val (.ref b1), .val (.ref b18), .val (.ref b35), .val (.int mv), .val (.ref b250), .val (.int (1 : Int32)), .val (.ref b281), .unset, .unset] [])) _
              refine XS.aload X284.here hx rfl (hb hby at_171) rfl rfl ?_
              show Steps p.tables e below (T284.setTop (mkF m 173 #[.val (.int x0), .val (.int x1), .val (.int x2), .val (.int x3), .val (.ref b1), .val (.ref b18), .val (.ref b35), .val (.int mv), .val (.ref b250), .val (.int (1 : Int32)), .val (.ref b281), .unset, .unset] [(.ref b281)])) _
              refine st286.trans ?_
              show Steps p.tables e below (T286.setTop (mkF m 176 #[.val (.int x0), .val (.int x1), .val (.int x2), .val (.int x3), .val (.ref b1), .val (.ref b18), .val (.ref b35), .val (.int mv), .val (.ref b250), .val (.int (1 : Int32)), .val (.ref b281), .unset, .unset] [])) _
              refine XS.aload X286.here hx rfl (hb hby at_176) rfl rfl ?_
              show Steps p.tables e below (T286.setTop (mkF m 178 #[.val (.int x0), .val (.int x1), .val (.int x2), .val (.int x3), .val (.ref b1), .val (.ref b18), .val (.ref b35), .val (.int mv), .val (.ref b250), .val (.int (1 : Int32)), .val (.ref b281), .unset, .unset] [(.ref b281)])) _
              refine st294.trans ?_
              show Steps p.tables e below (T294.setTop (mkF m 181 #[.val (.int x0), .val (.int x1), .val (.int x2), .val (.int x3), .val (.ref b1), .val (.ref b18), .val (.ref b35), .val (.int mv), .val (.ref b250), .val (.int (1 : Int32)), .val (.ref b281), .unset, .unset] [(.ref r286)])) _
              refine XS.astore X294.here hx rfl (hb hby at_181) rfl rfl (l' := #[.val (.int x0), .val (.int x1), .val (.int x2), .val (.int x3), .val (.ref b1), .val (.ref b18), .val (.ref b35), .val (.int mv), .val (.ref b250), .val (.int (1 : Int32)), .val (.ref b281), .val (.ref r286), .unset]) rfl ?_
              show Steps p.tables e below (T294.setTop (mkF m 183 #[.val (.int x0), .val (.int x1), .val (.int x2), .val (.int x3), .val (.ref b1), .val (.ref b18), .val (.ref b35), .val (.int mv), .val (.ref b250), .val (.int (1 : Int32)), .val (.ref b281), .val (.ref r286), .unset] [])) _
              refine XS.aload X294.here hx rfl (hb hby at_183) rfl rfl ?_
              show Steps p.tables e below (T294.setTop (mkF m 185 #[.val (.int x0), .val (.int x1), .val (.int x2), .val (.int x3), .val (.ref b1), .val (.ref b18), .val (.ref b35), .val (.int mv), .val (.ref b250), .val (.int (1 : Int32)), .val (.ref b281), .val (.ref r286), .unset] [(.ref b281)])) _
              refine XS.aload X294.here hx rfl (hb hby at_185) rfl rfl ?_
              show Steps p.tables e below (T294.setTop (mkF m 187 #[.val (.int x0), .val (.int x1), .val (.int x2), .val (.int x3), .val (.ref b1), .val (.ref b18), .val (.ref b35), .val (.int mv), .val (.ref b250), .val (.int (1 : Int32)), .val (.ref b281), .val (.ref r286), .unset] [(.ref b250), (.ref b281)])) _
              refine st297.trans ?_
              show Steps p.tables e below (T297.setTop (mkF m 190 #[.val (.int x0), .val (.int x1), .val (.int x2), .val (.int x3), .val (.ref b1), .val (.ref b18), .val (.ref b35), .val (.int mv), .val (.ref b250), .val (.int (1 : Int32)), .val (.ref b281), .val (.ref r286), .unset] [])) _
              refine XS.aload X297.here hx rfl (hb hby at_190) rfl rfl ?_
              show Steps p.tables e below (T297.setTop (mkF m 192 #[.val (.int x0), .val (.int x1), .val (.int x2), .val (.int x3), .val (.ref b1), .val (.ref b18), .val (.ref b35), .val (.int mv), .val (.ref b250), .val (.int (1 : Int32)), .val (.ref b281), .val (.ref r286), .unset] [(.ref b281)])) _
              refine XS.aload X297.here hx rfl (hb hby at_192) rfl rfl ?_
              show Steps p.tables e below (T297.setTop (mkF m 194 #[.val (.int x0), .val (.int x1), .val (.int x2), .val (.int x3), .val (.ref b1), .val (.ref b18), .val (.ref b35), .val (.int mv), .val (.ref b250), .val (.int (1 : Int32)), .val (.ref b281), .val (.ref r286), .unset] [(.ref b250), (.ref b281)])) _
              refine st299.trans ?_
              show Steps p.tables e below (T299.setTop (mkF m 197 #[.val (.int x0), .val (.int x1), .val (.int x2), .val (.int x3), .val (.ref b1), .val (.ref b18), .val (.ref b35), .val (.int mv), .val (.ref b250), .val (.int (1 : Int32)), .val (.ref b281), .val (.ref r286), .unset] [])) _
              refine XS.aload X299.here hx rfl (hb hby at_197) rfl rfl ?_
              show Steps p.tables e below (T299.setTop (mkF m 199 #[.val (.int x0), .val (.int x1), .val (.int x2), .val (.int x3), .val (.ref b1), .val (.ref b18), .val (.ref b35), .val (.int mv), .val (.ref b250), .val (.int (1 : Int32)), .val (.ref b281), .val (.ref r286), .unset] [(.ref b281)])) _
              refine st301.trans ?_
              show Steps p.tables e below (T301.setTop (mkF m 202 #[.val (.int x0), .val (.int x1), .val (.int x2), .val (.int x3), .val (.ref b1), .val (.ref b18), .val (.ref b35), .val (.int mv), .val (.ref b250), .val (.int (1 : Int32)), .val (.ref b281), .val (.ref r286), .unset] [(.ref r286)])) _
              refine XS.astore X301.here hx rfl (hb hby at_202) rfl rfl (l' := #[.val (.int x0), .val (.int x1), .val (.int x2), .val (.int x3), .val (.ref b1), .val (.ref b18), .val (.ref b35), .val (.int mv), .val (.ref b250), .val (.int (1 : Int32)), .val (.ref b281), .val (.ref r286), .val (.ref r286)]) rfl ?_
              show Steps p.tables e below (T301.setTop (mkF m 204 #[.val (.int x0), .val (.int x1), .val (.int x2), .val (.int x3), .val (.ref b1), .val (.ref b18), .val (.ref b35), .val (.int mv), .val (.ref b250), .val (.int (1 : Int32)), .val (.ref b281), .val (.ref r286), .val (.ref r286)] [])) _
              refine XS.aload X301.here hx rfl (hb hby at_204) rfl rfl ?_
              show Steps p.tables e below (T301.setTop (mkF m 206 #[.val (.int x0), .val (.int x1), .val (.int x2), .val (.int x3), .val (.ref b1), .val (.ref b18), .val (.ref b35), .val (.int mv), .val (.ref b250), .val (.int (1 : Int32)), .val (.ref b281), .val (.ref r286), .val (.ref r286)] [(.ref r286)])) _
              refine XS.aload X301.here hx rfl (hb hby at_206) rfl rfl ?_
              show Steps p.tables e below (T301.setTop (mkF m 208 #[.val (.int x0), .val (.int x1), .val (.int x2), .val (.int x3), .val (.ref b1), .val (.ref b18), .val (.ref b35), .val (.int mv), .val (.ref b250), .val (.int (1 : Int32)), .val (.ref b281), .val (.ref r286), .val (.ref r286)] [(.ref r286), (.ref r286)])) _
              refine Jvm.RoadKit.acmp (g := (mkF m 208 #[.val (.int x0), .val (.int x1), .val (.int x2), .val (.int x3), .val (.ref b1), .val (.ref b18), .val (.ref b35), .val (.int mv), .val (.ref b250), .val (.int (1 : Int32)), .val (.ref b281), .val (.ref r286), .val (.ref r286)] [(.ref r286), (.ref r286)])) X301 hx rfl rfl rfl (pc0 := 208) (pc' := 211) (same := true) rfl (hb hby at_208) rfl (decide_eq_true (congrArg Value.ref rfl)) (by decide) (by decide) ?_
              show Steps p.tables e below (T301.setTop (mkF m 211 #[.val (.int x0), .val (.int x1), .val (.int x2), .val (.int x3), .val (.ref b1), .val (.ref b18), .val (.ref b35), .val (.int mv), .val (.ref b250), .val (.int (1 : Int32)), .val (.ref b281), .val (.ref r286), .val (.ref r286)] [])) _
              refine XS.iload X301.here hx rfl (hb hby at_211) rfl ?_
              show Steps p.tables e below (T301.setTop (mkF m 213 #[.val (.int x0), .val (.int x1), .val (.int x2), .val (.int x3), .val (.ref b1), .val (.ref b18), .val (.ref b35), .val (.int mv), .val (.ref b250), .val (.int (1 : Int32)), .val (.ref b281), .val (.ref r286), .val (.ref r286)] [(.int (1 : Int32))])) _
              refine XS.aload X301.here hx rfl (hb hby at_213) rfl rfl ?_
              show Steps p.tables e below (T301.setTop (mkF m 215 #[.val (.int x0), .val (.int x1), .val (.int x2), .val (.int x3), .val (.ref b1), .val (.ref b18), .val (.ref b35), .val (.int mv), .val (.ref b250), .val (.int (1 : Int32)), .val (.ref b281), .val (.ref r286), .val (.ref r286)] [(.ref r286), (.int (1 : Int32))])) _
              refine XS.ifnullNo X301.here hx rfl (hb hby at_215) rfl ?_
              show Steps p.tables e below (T301.setTop (mkF m 218 #[.val (.int x0), .val (.int x1), .val (.int x2), .val (.int x3), .val (.ref b1), .val (.ref b18), .val (.ref b35), .val (.int mv), .val (.ref b250), .val (.int (1 : Int32)), .val (.ref b281), .val (.ref r286), .val (.ref r286)] [(.int (1 : Int32))])) _
              refine XS.iconst X301.here hx rfl (hb hby at_218) ?_
              show Steps p.tables e below (T301.setTop (mkF m 219 #[.val (.int x0), .val (.int x1), .val (.int x2), .val (.int x3), .val (.ref b1), .val (.ref b18), .val (.ref b35), .val (.int mv), .val (.ref b250), .val (.int (1 : Int32)), .val (.ref b281), .val (.ref r286), .val (.ref r286)] [(.int (1 : Int32)), (.int (1 : Int32))])) _
              refine XS.goto X301.here hx rfl (pc0 := 219) (pc' := 223) rfl (hb hby at_219) (by decide) (by decide) ?_
              show Steps p.tables e below (T301.setTop (mkF m 223 #[.val (.int x0), .val (.int x1), .val (.int x2), .val (.int x3), .val (.ref b1), .val (.ref b18), .val (.ref b35), .val (.int mv), .val (.ref b250), .val (.int (1 : Int32)), .val (.ref b281), .val (.ref r286), .val (.ref r286)] [(.int (1 : Int32)), (.int (1 : Int32))])) _
              refine XS.icmpNo X301.here hx rfl (hb hby at_223) rfl (teq (by decide : (1 : Int32) = (1 : Int32))).2 ?_
              show Steps p.tables e below (T301.setTop (mkF m 226 #[.val (.int x0), .val (.int x1), .val (.int x2), .val (.int x3), .val (.ref b1), .val (.ref b18), .val (.ref b35), .val (.int mv), .val (.ref b250), .val (.int (1 : Int32)), .val (.ref b281), .val (.ref r286), .val (.ref r286)] [])) _
              refine XS.iconst X301.here hx rfl (hb hby at_226) ?_
              show Steps p.tables e below (T301.setTop (mkF m 227 #[.val (.int x0), .val (.int x1), .val (.int x2), .val (.int x3), .val (.ref b1), .val (.ref b18), .val (.ref b35), .val (.int mv), .val (.ref b250), .val (.int (1 : Int32)), .val (.ref b281), .val (.ref r286), .val (.ref r286)] [(.int (1 : Int32))])) _
              refine XS.goto X301.here hx rfl (pc0 := 227) (pc' := 231) rfl (hb hby at_227) (by decide) (by decide) ?_
              show Steps p.tables e below (T301.setTop (mkF m 231 #[.val (.int x0), .val (.int x1), .val (.int x2), .val (.int x3), .val (.ref b1), .val (.ref b18), .val (.ref b35), .val (.int mv), .val (.ref b250), .val (.int (1 : Int32)), .val (.ref b281), .val (.ref r286), .val (.ref r286)] [(.int (1 : Int32))])) _
              exact retOut X301 hx Bd.returns rfl (Or.inl ⟨rfl, Or.inr (Or.inl rfl), _, rfl⟩) (hb hby at_231) hretL
            · show Q_rm0 Z x0 x1 x2 x3 G1 us se h0 n0 _ T301.heap _
              rw [eq301]
              exact ⟨rfl, N302⟩
set_option maxRecDepth 65536 in
set_option maxHeartbeats 40000000 in
theorem comes_1 {Post : Tables → Env → Array Value → State → Outcome → State → Prop} (hpost : ∀ tb e args s v u, (limb_1_1.after args s (.returned v) u = true ∧ limb_1_2.after args s (.returned v) u = true ∧ True) → ReturnedEndW s (.returned v) u (Jvm.fieldLocs frame_1_writes args s ++ Jvm.arrayLocs frame_1_arrays args s ++ Jvm.staticLocs frame_1_statics s) 32 8704 → Post tb e args s (.returned v) u) :
    ArmFor flags0 classFile x code maxLocals ret World_1 tables_1 room_1 Calls_1 rest_1 Pre_1 Post := by
  intro l hfl _ _ p e ha hc hk s m args below hf hA hF happ hP
  obtain ⟨hcalls, hrest, hpre⟩ := hP
  obtain ⟨-, -, -, hnamed, -, -, -, hat⟩ := (Spec.applies_iff hf).mp happ
  obtain ⟨hg, hn⟩ := and_e (Cond.before_iff.mp (show (Jvm.Cond.and given_1 narrow_1).before args s = true from hpre))
  obtain ⟨u1, v1⟩ := and_e hg
  obtain ⟨u2, v2⟩ := and_e v1
  obtain ⟨u3, v3⟩ := and_e v2
  obtain ⟨u4, v4⟩ := and_e v3
  obtain ⟨w0, w1, w2, w3, rfl⟩ : ∃ w0 w1 w2 w3 : Value, args = #[w0, w1, w2, w3] := by
    have hs : args.size = 4 := by simpa [Cond.value, given_1] using u1
    obtain ⟨L⟩ := args
    match L, hs with
    | [w0, w1, w2, w3], _ => exact ⟨w0, w1, w2, w3, rfl⟩
  have hw := fun d (hd : d ∈ tables_1) => atoms_spec (ws := Jvm.Cond.code x code maxLocals ret :: tables_1) hat d (List.mem_cons_of_mem _ hd)
  have hfit : Fit s := fun {y c} hc i hi => by
    obtain ⟨ha, rfl⟩ := Array.getElem?_eq_some_iff.mp hc
    have q := List.all_eq_true.mp ((Array.all_eq_true_iff_forall_mem.mp hF) _ (Array.getElem_mem ha)) i (List.mem_range.mpr hi)
    simpa [Array.getElem?_eq_getElem hi] using q
  obtain ⟨i0, ei0⟩ := is_v u2
  obtain rfl : w0 = (.int i0) := Option.some.inj ei0
  obtain ⟨i1, ei1⟩ := is_v u3
  obtain rfl : w1 = (.int i1) := Option.some.inj ei1
  obtain ⟨i2, ei2⟩ := is_v u4
  obtain rfl : w2 = (.int i2) := Option.some.inj ei2
  obtain ⟨i3, ei3⟩ := is_v v4
  obtain rfl : w3 = (.int i3) := Option.some.inj ei3
  obtain ⟨hsets, hown0⟩ := atoms_of _ (rest_1_c_eq ▸ (show rest_1_c.before _ s = true from hrest))
  have hci := hsets _ (List.mem_of_getElem? (i := 20) rfl)
  obtain ⟨G1, evG⟩ := is_v (Cond.before_iff.mp (hsets _ (List.mem_of_getElem? (i := 21) rfl)))
  have O2 := Sta.start evG (Or.inl hci)
  have P5 : ¬ (G1 = (0 : Int32)) := fun q => by
    have hq := not_v (Cond.before_iff.mp (hsets _ (List.mem_of_getElem? (i := 22) rfl)))
    subst q
    rw [Cond.value, evG, Term.int_eval] at hq
    simp at hq
  have hst : l.stackTraces = true := by unfold Launch.stackTraces; rw [hfl]; decide
  obtain ⟨us, evu⟩ := arr_v (Cond.before_iff.mp (hsets _ (List.mem_of_getElem? (i := 8) rfl)))
  have SU := Sta.start evu (Or.inl (hsets _ (List.mem_of_getElem? (i := 6) rfl)))
  obtain ⟨se, evs⟩ := exa_v (Cond.before_iff.mp (hsets _ (List.mem_of_getElem? (i := 13) rfl)))
  have SS := Sta.start evs (Or.inl (hsets _ (List.mem_of_getElem? (i := 11) rfl)))
  have hCH : CHv s EL0 s.vm s.heap := CHv.start (own_EW hw) hcalls.2.2.1 (own_cw hsets) (ow18 hw) (ow17 hw)
  obtain ⟨n, o, h1, h2, h3, _, L, rfl, ⟨rfl, N⟩, -, hq⟩ := rm0 l s _ hw tables_1 i0 i1 i2 i3 G1 us se s.heap s.heap.size (Old.start s) O2 P5 hst SU SS p e ha hc hk s m _ below hf ((Spec.applies_iff_loose hf).mp happ).1 ⟨rfl, State.Warmed39.refl s, rfl, hCH⟩ ⟨MethodsKnown_of_tablesKnown hcalls.2.1, FramesKnown_of_framesKnown hcalls.1 hf⟩
  refine ⟨n, _, h1, h2, h3, hpost _ _ _ _ _ _ ⟨Cond.after_iff.mpr rfl, Cond.after_iff.mpr (eq_i res_at (Term.int_eval (1)) rfl), trivial⟩ ⟨hq.1, hq.2.1, hq.2.2.1, (hq.2.2.2.sift fun y hy => Or.inr (N y hy)).mono (by decide) (by decide)⟩⟩
theorem main_1_1 : Claimed_1_1 := comes_1 fun _ _ _ _ _ _ h hF => ⟨h.1, hF⟩
theorem main_1_2 : Claimed_1_2 := comes_1 fun _ _ _ _ _ _ h hF => ⟨h.2.1, hF⟩
end Jvm.Pilot.@@N@@
namespace Jvm.Pilot.@@N@@
open Jvm Jvm.ClassFile Sem Op Lib Jvm.Free Jvm.Stand Jvm.Pilot.@@N@@.Jvm.D
/-! MADE BY PROGRAM (witnessworld.py) out of the Statement's table words and the real class files: 37 classes; the members and pool entries that the words name. The judged class is class 1, her method 1. -/
namespace start1
open Jvm.ClassFile
def u (s : String) : CpInfo := .utf8 (stringToUtf16 s)
/-- a pool by its gaps: so many unusable entries, then the entry; so many at the end -/
def gap : Nat → List CpInfo → List CpInfo
  | 0, r => r
  | n + 1, r => .unusable :: gap n r
def poolList (es : List (Nat × CpInfo)) (last : Nat) : List CpInfo := es.foldr (fun e r => gap e.1 (e.2 :: r)) (gap last [])
def pool (es : List (Nat × CpInfo)) (last : Nat) : Array CpInfo := ⟨poolList es last⟩
def fileOf (pool : Array CpInfo) (this : Nat) (attrs : Array Attribute := #[]) (ms : Array MethodInfo := #[]) (fl : Nat := 33) (sup : Nat := 0) (ifs : Array Nat := #[]) (fds : Array FieldInfo := #[]) : ClassFile where
  minorVersion := 0
  majorVersion := 65
  constantPool := pool
  accessFlags := fl
  thisClass := this
  superClass := sup
  interfaces := ifs
  fields := fds
  methods := ms
  attributes := attrs
def plain (name : String) (sup : Option ClassId) : Class where
  name := name
  kind := .ordinary
  loader := none
  accessFlags := 33
  super := sup
  interfaces := #[]
  cf := none
  fields := #[]
  methods := #[]
  instanceTypes := #[]
  staticTypes := #[]
  resolved := #[]
  callSites := []
  init := .initialized
  statics := none
  mirror := none

def pool0 : Array CpInfo := pool [(5, u "<init>"), (0, u "()V"), (1, .class_ 10), (1, u "java/lang/Object")] 113

def k0c0 : Code := { maxStack := 0, maxLocals := 1, code := object_method_1_code, exceptionTable := #[], attributes := #[] }
def k0m0 : Method := { name := "<init>", desc := "()V", sig := { parameters := [], returnType := none }, accessFlags := 1, code := some k0c0 }
/-- java/lang/Object -/
def k0 : Class := { plain "java/lang/Object" none with
  accessFlags := 33
  interfaces := #[]
  cf := some (fileOf pool0 8 #[] #[{ accessFlags := 1, nameIndex := 5, descriptorIndex := 6, attributes := #[] }] 33 0 #[] #[])
  fields := #[]
  methods := #[k0m0]
  instanceTypes := #[]
  staticTypes := #[]
  resolved := Array.replicate 124 none
  statics := none }

def pool1 : Array CpInfo := pool [(2, .class_ 4), (0, .nameAndType 5 6), (0, u "java/lang/Object"), (0, u "<init>"), (0, u "()V"), (0, .class_ 8), (0, u "java/lang/String"), (0, .methodref 7 10), (0, .nameAndType 5 11), (0, u "([C)V"), (0, .methodref 7 13), (0, .nameAndType 14 15), (0, u "valueOf"), (0, u "(C)Ljava/lang/String;"), (0, .class_ 17), (0, u "com/example/tx_at_boundaries/txatboundaries/mybatis/JoinedSessions"), (0, .methodref 16 3), (0, .methodref 16 20), (0, .nameAndType 21 6), (0, u "rollBack"), (0, .methodref 16 23), (0, .nameAndType 24 25), (0, u "failure"), (0, u "()Ljava/lang/Throwable;"), (0, .methodref 16 27), (0, .nameAndType 28 29), (0, u "requireRunning"), (0, u "(Ljava/lang/String;)V"), (0, .class_ 31), (0, u "com/example/tx_at_boundaries/txatboundaries/mybatis/JoinedSessionsRequireRunningPinLaw"), (2, u "law"), (0, u "(IIII)Z")] 7

def k1m0 : Method := { name := "<init>", desc := "()V", sig := { parameters := [], returnType := none }, accessFlags := 2, code := none }
def k1c1 : Code := { maxStack := 5, maxLocals := 13, code := code, exceptionTable := #[], attributes := #[] }
def k1m1 : Method := { name := "law", desc := "(IIII)Z", sig := { parameters := [.int, .int, .int, .int], returnType := some .boolean }, accessFlags := 9, code := some k1c1 }
/-- com/example/tx_at_boundaries/txatboundaries/mybatis/JoinedSessionsRequireRunningPinLaw -/
def k1 : Class := { plain "com/example/tx_at_boundaries/txatboundaries/mybatis/JoinedSessionsRequireRunningPinLaw" (some 0) with
  accessFlags := 49
  interfaces := #[]
  cf := some (fileOf pool1 30 #[] #[{ accessFlags := 2, nameIndex := 5, descriptorIndex := 6, attributes := #[] }, { accessFlags := 9, nameIndex := 34, descriptorIndex := 35, attributes := #[] }] 49 2 #[] #[])
  fields := #[]
  methods := #[k1m0, k1m1]
  instanceTypes := #[]
  staticTypes := #[]
  resolved := Array.replicate 43 none
  statics := none }

def pool2 : Array CpInfo := pool [(1, .class_ 2), (0, u "com/example/tx_at_boundaries/txatboundaries/boundary/TransactionParticipant"), (0, .class_ 4), (0, u "java/lang/Object")] 11

/-- com/example/tx_at_boundaries/txatboundaries/boundary/TransactionParticipant -/
def k2 : Class := { plain "com/example/tx_at_boundaries/txatboundaries/boundary/TransactionParticipant" (some 0) with
  accessFlags := 1537
  interfaces := #[]
  cf := some (fileOf pool2 1 #[] #[] 1537 3 #[] #[])
  fields := #[]
  methods := #[]
  instanceTypes := #[]
  staticTypes := #[]
  resolved := Array.replicate 16 none
  statics := none }

def pool3 : Array CpInfo := pool [(1, .methodref 2 3), (0, .class_ 4), (0, .nameAndType 5 6), (0, u "java/lang/Object"), (0, u "<init>"), (0, u "()V"), (0, .string 8), (0, u "roll back"), (0, .methodref 10 11), (0, .class_ 12), (0, .nameAndType 13 14), (0, u "com/example/tx_at_boundaries/txatboundaries/mybatis/JoinedSessions"), (0, u "requireRunning"), (0, u "(Ljava/lang/String;)V"), (0, .fieldref 10 16), (0, .nameAndType 17 18), (0, u "rollback"), (0, u "Lcom/example/tx_at_boundaries/txatboundaries/mybatis/JoinedSessions$SessionRollback;"), (0, .class_ 20), (0, u "com/example/tx_at_boundaries/txatboundaries/mybatis/JoinedSessions$SessionRollback"), (0, .methodref 19 3), (0, .fieldref 10 23), (0, .nameAndType 24 25), (0, u "ended"), (0, u "Z"), (8, .class_ 35), (0, u "com/example/tx_at_boundaries/txatboundaries/boundary/TransactionParticipant"), (2, u "rollBack"), (5, u "failure"), (0, u "()Ljava/lang/Throwable;")] 19

def k3c0 : Code := { maxStack := 1, maxLocals := 1, code := prog_38_method_1_code, exceptionTable := #[], attributes := #[] }
def k3m0 : Method := { name := "<init>", desc := "()V", sig := { parameters := [], returnType := none }, accessFlags := 0, code := some k3c0 }
def k3c1 : Code := { maxStack := 3, maxLocals := 1, code := prog_38_method_2_code, exceptionTable := #[], attributes := #[] }
def k3m1 : Method := { name := "rollBack", desc := "()V", sig := { parameters := [], returnType := none }, accessFlags := 0, code := some k3c1 }
def k3c2 : Code := { maxStack := 3, maxLocals := 2, code := prog_38_method_3_code, exceptionTable := #[], attributes := #[] }
def k3m2 : Method := { name := "requireRunning", desc := "(Ljava/lang/String;)V", sig := { parameters := [(.object "java/lang/String")], returnType := none }, accessFlags := 0, code := some k3c2 }
def k3c3 : Code := { maxStack := 1, maxLocals := 1, code := prog_38_method_7_code, exceptionTable := #[], attributes := #[] }
def k3m3 : Method := { name := "failure", desc := "()Ljava/lang/Throwable;", sig := { parameters := [], returnType := some (.object "java/lang/Throwable") }, accessFlags := 1, code := some k3c3 }
/-- com/example/tx_at_boundaries/txatboundaries/mybatis/JoinedSessions -/
def k3 : Class := { plain "com/example/tx_at_boundaries/txatboundaries/mybatis/JoinedSessions" (some 0) with
  accessFlags := 48
  interfaces := #[2]
  cf := some (fileOf pool3 10 #[.nestMembers #[19]] #[{ accessFlags := 0, nameIndex := 5, descriptorIndex := 6, attributes := #[] }, { accessFlags := 0, nameIndex := 38, descriptorIndex := 6, attributes := #[] }, { accessFlags := 0, nameIndex := 13, descriptorIndex := 14, attributes := #[] }, { accessFlags := 1, nameIndex := 44, descriptorIndex := 45, attributes := #[] }] 48 2 #[34] #[{ accessFlags := 2, nameIndex := 17, descriptorIndex := 18, attributes := #[] }, { accessFlags := 2, nameIndex := 24, descriptorIndex := 25, attributes := #[] }])
  fields := #[{ name := "rollback", type := (.object "com/example/tx_at_boundaries/txatboundaries/mybatis/JoinedSessions$SessionRollback"), accessFlags := 2, slot := 0, constantValue := 0 }, { name := "ended", type := .boolean, accessFlags := 2, slot := 1, constantValue := 0 }]
  methods := #[k3m0, k3m1, k3m2, k3m3]
  instanceTypes := #[(.object "com/example/tx_at_boundaries/txatboundaries/mybatis/JoinedSessions$SessionRollback"), .boolean]
  staticTypes := #[]
  resolved := Array.replicate 65 none
  statics := none }

def pool4 : Array CpInfo := pool [(1, .class_ 2), (0, u "java/io/Serializable"), (0, .class_ 4), (0, u "java/lang/Object")] 2

/-- java/io/Serializable -/
def k4 : Class := { plain "java/io/Serializable" (some 0) with
  accessFlags := 1537
  interfaces := #[]
  cf := some (fileOf pool4 1 #[] #[] 1537 3 #[] #[])
  fields := #[]
  methods := #[]
  instanceTypes := #[]
  staticTypes := #[]
  resolved := Array.replicate 7 none
  statics := none }

def pool5 : Array CpInfo := pool [(1, .class_ 2), (0, u "java/lang/Comparable"), (0, .class_ 4), (0, u "java/lang/Object")] 7

/-- java/lang/Comparable -/
def k5 : Class := { plain "java/lang/Comparable" (some 0) with
  accessFlags := 1537
  interfaces := #[]
  cf := some (fileOf pool5 1 #[] #[] 1537 3 #[] #[])
  fields := #[]
  methods := #[]
  instanceTypes := #[]
  staticTypes := #[]
  resolved := Array.replicate 12 none
  statics := none }

def pool6 : Array CpInfo := pool [(2, .class_ 4), (1, u "java/lang/CharSequence"), (42, .class_ 48), (0, u "java/lang/CharSequence$1CodePointIterator"), (10, .class_ 60), (0, u "java/lang/CharSequence$1CharIterator"), (5, .class_ 67), (0, u "java/lang/Object")] 63

/-- java/lang/CharSequence -/
def k6 : Class := { plain "java/lang/CharSequence" (some 0) with
  accessFlags := 1537
  interfaces := #[]
  cf := some (fileOf pool6 2 #[.nestMembers #[47, 59]] #[] 1537 66 #[] #[])
  fields := #[]
  methods := #[]
  instanceTypes := #[]
  staticTypes := #[]
  resolved := Array.replicate 131 none
  statics := none }

def pool7 : Array CpInfo := pool [(1, .class_ 2), (0, u "java/lang/constant/Constable"), (0, .class_ 4), (0, u "java/lang/Object")] 6

/-- java/lang/constant/Constable -/
def k7 : Class := { plain "java/lang/constant/Constable" (some 0) with
  accessFlags := 1537
  interfaces := #[]
  cf := some (fileOf pool7 1 #[] #[] 1537 3 #[] #[])
  fields := #[]
  methods := #[]
  instanceTypes := #[]
  staticTypes := #[]
  resolved := Array.replicate 11 none
  statics := none }

def pool8 : Array CpInfo := pool [(1, .class_ 2), (0, u "java/lang/constant/ConstantDesc"), (0, .class_ 4), (0, u "java/lang/Object")] 32

/-- java/lang/constant/ConstantDesc -/
def k8 : Class := { plain "java/lang/constant/ConstantDesc" (some 0) with
  accessFlags := 1537
  interfaces := #[]
  cf := some (fileOf pool8 1 #[] #[] 1537 3 #[] #[])
  fields := #[]
  methods := #[]
  instanceTypes := #[]
  staticTypes := #[]
  resolved := Array.replicate 37 none
  statics := none }

def pool9 : Array CpInfo := pool [(1, .methodref 2 3), (0, .class_ 4), (0, .nameAndType 5 6), (0, u "java/lang/Object"), (0, u "<init>"), (0, u "()V"), (0, .string 8), (0, u ""), (0, .fieldref 10 11), (0, .class_ 12), (0, .nameAndType 13 14), (0, u "java/lang/String"), (0, u "value"), (0, u "[B"), (0, .fieldref 10 16), (0, .nameAndType 17 18), (0, u "coder"), (0, u "B"), (2, u "hash"), (0, u "I"), (2, u "hashIsZero"), (0, u "Z"), (0, .methodref 10 28), (0, .nameAndType 5 29), (0, u "([CIILjava/lang/Void;)V"), (8, .fieldref 10 39), (0, .nameAndType 40 26), (0, u "COMPACT_STRINGS"), (1, .class_ 44), (1, u "java/lang/StringUTF16"), (0, u "compress"), (1, .methodref 42 48), (0, .nameAndType 49 50), (0, u "coderFromArrayLen"), (0, u "([BI)B"), (2, u "toBytes"), (53, .class_ 109), (1, u "java/lang/StringLatin1"), (67, .methodref 42 178), (0, .nameAndType 45 179), (0, u "([CII)[B"), (29, .methodref 10 210), (0, .nameAndType 5 211), (0, u "([BB)V"), (157, u "(C)Z"), (205, .class_ 576), (0, u "java/lang/CharSequence"), (22, u "CASE_INSENSITIVE_ORDER"), (0, u "Ljava/util/Comparator;"), (181, u "valueOf"), (0, u "(C)Ljava/lang/String;"), (226, u "([C)V"), (4, .methodref 107 1016), (0, .nameAndType 1017 369), (0, u "canEncode"), (0, .methodref 107 1019), (0, .nameAndType 53 1020), (0, u "(C)[B"), (80, u "serialPersistentFields"), (0, u "[Ljava/io/ObjectStreamField;"), (0, .class_ 1104), (0, u "java/lang/String$CaseInsensitiveComparator"), (1, .class_ 1107), (0, u "java/io/Serializable"), (0, .class_ 1109), (0, u "java/lang/Comparable"), (0, .class_ 1111), (0, u "java/lang/constant/Constable"), (0, .class_ 1113), (0, u "java/lang/constant/ConstantDesc"), (2, u "serialVersionUID"), (0, u "J"), (3, u "REPL"), (0, u "C"), (2, u "LATIN1"), (1, u "UTF16")] 323

def k9m0 : Method := { name := "<init>", desc := "()V", sig := { parameters := [], returnType := none }, accessFlags := 1, code := none }
def k9c1 : Code := { maxStack := 5, maxLocals := 2, code := jdk_42_method_3_code, exceptionTable := #[], attributes := #[] }
def k9m1 : Method := { name := "<init>", desc := "([C)V", sig := { parameters := [(.array .char)], returnType := none }, accessFlags := 1, code := some k9c1 }
def k9c2 : Code := { maxStack := 4, maxLocals := 1, code := jdk_42_method_139_code, exceptionTable := #[], attributes := #[] }
def k9m2 : Method := { name := "valueOf", desc := "(C)Ljava/lang/String;", sig := { parameters := [.char], returnType := some (.object "java/lang/String") }, accessFlags := 9, code := some k9c2 }
def k9c3 : Code := { maxStack := 4, maxLocals := 6, code := jdk_42_method_149_code, exceptionTable := #[], attributes := #[] }
def k9m3 : Method := { name := "<init>", desc := "([CIILjava/lang/Void;)V", sig := { parameters := [(.array .char), .int, .int, (.object "java/lang/Void")], returnType := none }, accessFlags := 2, code := some k9c3 }
def k9c4 : Code := { maxStack := 2, maxLocals := 3, code := jdk_42_method_151_code, exceptionTable := #[], attributes := #[] }
def k9m4 : Method := { name := "<init>", desc := "([BB)V", sig := { parameters := [(.array .byte), .byte], returnType := none }, accessFlags := 0, code := some k9c4 }
/-- java/lang/String -/
def k9 : Class := { plain "java/lang/String" (some 0) with
  accessFlags := 49
  interfaces := #[4, 5, 6, 7, 8]
  cf := some (fileOf pool9 10 #[.nestMembers #[1103]] #[{ accessFlags := 1, nameIndex := 5, descriptorIndex := 6, attributes := #[] }, { accessFlags := 1, nameIndex := 5, descriptorIndex := 1010, attributes := #[] }, { accessFlags := 9, nameIndex := 782, descriptorIndex := 783, attributes := #[] }, { accessFlags := 2, nameIndex := 5, descriptorIndex := 29, attributes := #[] }, { accessFlags := 0, nameIndex := 5, descriptorIndex := 211, attributes := #[] }] 49 2 #[1106, 1108, 575, 1110, 1112] #[{ accessFlags := 18, nameIndex := 13, descriptorIndex := 14, attributes := #[] }, { accessFlags := 18, nameIndex := 17, descriptorIndex := 18, attributes := #[] }, { accessFlags := 2, nameIndex := 21, descriptorIndex := 22, attributes := #[] }, { accessFlags := 2, nameIndex := 25, descriptorIndex := 26, attributes := #[] }, { accessFlags := 26, nameIndex := 1116, descriptorIndex := 1117, attributes := #[] }, { accessFlags := 24, nameIndex := 40, descriptorIndex := 26, attributes := #[] }, { accessFlags := 26, nameIndex := 1101, descriptorIndex := 1102, attributes := #[] }, { accessFlags := 26, nameIndex := 1121, descriptorIndex := 1122, attributes := #[] }, { accessFlags := 25, nameIndex := 599, descriptorIndex := 600, attributes := #[] }, { accessFlags := 24, nameIndex := 1125, descriptorIndex := 18, attributes := #[] }, { accessFlags := 24, nameIndex := 1127, descriptorIndex := 18, attributes := #[] }])
  fields := #[{ name := "value", type := (.array .byte), accessFlags := 18, slot := 0, constantValue := 0 }, { name := "coder", type := .byte, accessFlags := 18, slot := 1, constantValue := 0 }, { name := "hash", type := .int, accessFlags := 2, slot := 2, constantValue := 0 }, { name := "hashIsZero", type := .boolean, accessFlags := 2, slot := 3, constantValue := 0 }, { name := "serialVersionUID", type := .long, accessFlags := 26, slot := 0, constantValue := 0 }, { name := "COMPACT_STRINGS", type := .boolean, accessFlags := 24, slot := 1, constantValue := 0 }, { name := "serialPersistentFields", type := (.array (.object "java/io/ObjectStreamField")), accessFlags := 26, slot := 2, constantValue := 0 }, { name := "REPL", type := .char, accessFlags := 26, slot := 3, constantValue := 0 }, { name := "CASE_INSENSITIVE_ORDER", type := (.object "java/util/Comparator"), accessFlags := 25, slot := 4, constantValue := 0 }, { name := "LATIN1", type := .byte, accessFlags := 24, slot := 5, constantValue := 0 }, { name := "UTF16", type := .byte, accessFlags := 24, slot := 6, constantValue := 0 }]
  methods := #[k9m0, k9m1, k9m2, k9m3, k9m4]
  instanceTypes := #[(.array .byte), .byte, .int, .boolean]
  staticTypes := #[.long, .boolean, (.array (.object "java/io/ObjectStreamField")), .char, (.object "java/util/Comparator"), .byte, .byte]
  resolved := Array.replicate 1451 none
  statics := some 0 }

def pool10 : Array CpInfo := pool [(1, .methodref 2 3), (0, .class_ 4), (0, .nameAndType 5 6), (0, u "java/lang/Object"), (0, u "<init>"), (0, u "()V"), (0, .fieldref 8 9), (0, .class_ 10), (0, .nameAndType 11 12), (0, u "java/lang/Throwable"), (0, u "cause"), (0, u "Ljava/lang/Throwable;"), (0, .fieldref 8 14), (0, .nameAndType 15 16), (0, u "UNASSIGNED_STACK"), (0, u "[Ljava/lang/StackTraceElement;"), (0, .fieldref 8 18), (0, .nameAndType 19 16), (0, u "stackTrace"), (0, .fieldref 8 21), (0, .nameAndType 22 23), (0, u "SUPPRESSED_SENTINEL"), (0, u "Ljava/util/List;"), (0, .fieldref 8 25), (0, .nameAndType 26 23), (0, u "suppressedExceptions"), (0, .methodref 8 28), (0, .nameAndType 29 30), (0, u "fillInStackTrace"), (0, u "()Ljava/lang/Throwable;"), (0, .fieldref 8 32), (0, .nameAndType 33 34), (0, u "detailMessage"), (0, u "Ljava/lang/String;"), (58, .class_ 94), (0, u "java/lang/Throwable$WrappedPrintStream"), (6, .class_ 103), (1, u "java/lang/Throwable$PrintStreamOrWriter"), (61, u "$assertionsDisabled"), (0, u "Z"), (26, .class_ 194), (0, u "java/lang/Throwable$WrappedPrintWriter"), (3, .fieldref 8 199), (0, .nameAndType 200 201), (0, u "backtrace"), (0, u "Ljava/lang/Object;"), (0, .methodref 8 203), (0, .nameAndType 29 204), (0, u "(I)Ljava/lang/Throwable;"), (6, u "depth"), (0, u "I"), (10, u "(Ljava/lang/String;)V"), (45, .class_ 271), (1, u "java/lang/Throwable$SentinelHolder"), (32, u "EMPTY_THROWABLE_ARRAY"), (0, u "[Ljava/lang/Throwable;"), (12, .class_ 319), (0, u "java/io/Serializable"), (0, u "serialVersionUID"), (0, u "J"), (5, u "NULL_CAUSE_MESSAGE"), (0, u "SELF_SUPPRESSION_MESSAGE"), (0, u "CAUSE_CAPTION"), (0, u "SUPPRESSED_CAPTION")] 73

def k10c0 : Code := { maxStack := 2, maxLocals := 1, code := jdk_78_method_1_code, exceptionTable := #[], attributes := #[] }
def k10m0 : Method := { name := "<init>", desc := "()V", sig := { parameters := [], returnType := none }, accessFlags := 1, code := some k10c0 }
def k10c1 : Code := { maxStack := 2, maxLocals := 2, code := jdk_78_method_2_code, exceptionTable := #[], attributes := #[] }
def k10m1 : Method := { name := "<init>", desc := "(Ljava/lang/String;)V", sig := { parameters := [(.object "java/lang/String")], returnType := none }, accessFlags := 1, code := some k10c1 }
def k10c2 : Code := { maxStack := 2, maxLocals := 1, code := ⟨#[0x2a, 0xb4, 0x00, 0x11, 0xc7, 0x00, 0x0a, 0x2a, 0xb4, 0x00, 0xc6, 0xc6, 0x00, 0x10, 0x2a, 0x03, 0xb6, 0x00, 0xca, 0x57, 0x2a, 0xb2, 0x00, 0x0d, 0xb5, 0x00, 0x11, 0x2a, 0xb0]⟩, exceptionTable := #[], attributes := #[] }
def k10m2 : Method := { name := "fillInStackTrace", desc := "()Ljava/lang/Throwable;", sig := { parameters := [], returnType := some (.object "java/lang/Throwable") }, accessFlags := 33, code := some k10c2 }
def k10m3 : Method := { name := "fillInStackTrace", desc := "(I)Ljava/lang/Throwable;", sig := { parameters := [.int], returnType := some (.object "java/lang/Throwable") }, accessFlags := 258, code := none }
/-- java/lang/Throwable -/
def k10 : Class := { plain "java/lang/Throwable" (some 0) with
  accessFlags := 33
  interfaces := #[4]
  cf := some (fileOf pool10 8 #[.nestMembers #[193, 93, 101, 269]] #[{ accessFlags := 1, nameIndex := 5, descriptorIndex := 6, attributes := #[] }, { accessFlags := 1, nameIndex := 5, descriptorIndex := 223, attributes := #[] }, { accessFlags := 33, nameIndex := 29, descriptorIndex := 30, attributes := #[] }, { accessFlags := 258, nameIndex := 29, descriptorIndex := 204, attributes := #[] }] 33 2 #[318] #[{ accessFlags := 26, nameIndex := 320, descriptorIndex := 321, attributes := #[] }, { accessFlags := 130, nameIndex := 200, descriptorIndex := 201, attributes := #[] }, { accessFlags := 2, nameIndex := 33, descriptorIndex := 34, attributes := #[] }, { accessFlags := 26, nameIndex := 15, descriptorIndex := 16, attributes := #[] }, { accessFlags := 2, nameIndex := 11, descriptorIndex := 12, attributes := #[] }, { accessFlags := 2, nameIndex := 19, descriptorIndex := 16, attributes := #[] }, { accessFlags := 130, nameIndex := 211, descriptorIndex := 212, attributes := #[] }, { accessFlags := 26, nameIndex := 22, descriptorIndex := 23, attributes := #[] }, { accessFlags := 2, nameIndex := 26, descriptorIndex := 23, attributes := #[] }, { accessFlags := 26, nameIndex := 327, descriptorIndex := 34, attributes := #[] }, { accessFlags := 26, nameIndex := 328, descriptorIndex := 34, attributes := #[] }, { accessFlags := 26, nameIndex := 329, descriptorIndex := 34, attributes := #[] }, { accessFlags := 26, nameIndex := 330, descriptorIndex := 34, attributes := #[] }, { accessFlags := 26, nameIndex := 304, descriptorIndex := 305, attributes := #[] }, { accessFlags := 4120, nameIndex := 165, descriptorIndex := 166, attributes := #[] }])
  fields := #[{ name := "serialVersionUID", type := .long, accessFlags := 26, slot := 0, constantValue := 0 }, { name := "backtrace", type := (.object "java/lang/Object"), accessFlags := 130, slot := 0, constantValue := 0 }, { name := "detailMessage", type := (.object "java/lang/String"), accessFlags := 2, slot := 1, constantValue := 0 }, { name := "UNASSIGNED_STACK", type := (.array (.object "java/lang/StackTraceElement")), accessFlags := 26, slot := 1, constantValue := 0 }, { name := "cause", type := (.object "java/lang/Throwable"), accessFlags := 2, slot := 2, constantValue := 0 }, { name := "stackTrace", type := (.array (.object "java/lang/StackTraceElement")), accessFlags := 2, slot := 3, constantValue := 0 }, { name := "depth", type := .int, accessFlags := 130, slot := 4, constantValue := 0 }, { name := "SUPPRESSED_SENTINEL", type := (.object "java/util/List"), accessFlags := 26, slot := 2, constantValue := 0 }, { name := "suppressedExceptions", type := (.object "java/util/List"), accessFlags := 2, slot := 5, constantValue := 0 }, { name := "NULL_CAUSE_MESSAGE", type := (.object "java/lang/String"), accessFlags := 26, slot := 3, constantValue := 0 }, { name := "SELF_SUPPRESSION_MESSAGE", type := (.object "java/lang/String"), accessFlags := 26, slot := 4, constantValue := 0 }, { name := "CAUSE_CAPTION", type := (.object "java/lang/String"), accessFlags := 26, slot := 5, constantValue := 0 }, { name := "SUPPRESSED_CAPTION", type := (.object "java/lang/String"), accessFlags := 26, slot := 6, constantValue := 0 }, { name := "EMPTY_THROWABLE_ARRAY", type := (.array (.object "java/lang/Throwable")), accessFlags := 26, slot := 7, constantValue := 0 }, { name := "$assertionsDisabled", type := .boolean, accessFlags := 4120, slot := 8, constantValue := 0 }]
  methods := #[k10m0, k10m1, k10m2, k10m3]
  instanceTypes := #[(.object "java/lang/Object"), (.object "java/lang/String"), (.object "java/lang/Throwable"), (.array (.object "java/lang/StackTraceElement")), .int, (.object "java/util/List")]
  staticTypes := #[.long, (.array (.object "java/lang/StackTraceElement")), (.object "java/util/List"), (.object "java/lang/String"), (.object "java/lang/String"), (.object "java/lang/String"), (.object "java/lang/String"), (.array (.object "java/lang/Throwable")), .boolean]
  resolved := Array.replicate 404 none
  statics := some 1 }

def pool11 : Array CpInfo := pool [(2, .class_ 4), (1, u "java/lang/Throwable"), (0, u "<init>"), (0, u "()V"), (0, .methodref 2 8), (0, .nameAndType 5 9), (0, u "(Ljava/lang/String;)V"), (9, .class_ 20), (0, u "java/lang/Exception"), (0, u "serialVersionUID"), (0, u "J")] 17

def k11m0 : Method := { name := "<init>", desc := "()V", sig := { parameters := [], returnType := none }, accessFlags := 1, code := none }
def k11c1 : Code := { maxStack := 2, maxLocals := 2, code := jdk_59_method_2_code, exceptionTable := #[], attributes := #[] }
def k11m1 : Method := { name := "<init>", desc := "(Ljava/lang/String;)V", sig := { parameters := [(.object "java/lang/String")], returnType := none }, accessFlags := 1, code := some k11c1 }
/-- java/lang/Exception -/
def k11 : Class := { plain "java/lang/Exception" (some 10) with
  accessFlags := 33
  interfaces := #[]
  cf := some (fileOf pool11 19 #[] #[{ accessFlags := 1, nameIndex := 5, descriptorIndex := 6, attributes := #[] }, { accessFlags := 1, nameIndex := 5, descriptorIndex := 9, attributes := #[] }] 33 2 #[] #[{ accessFlags := 24, nameIndex := 21, descriptorIndex := 22, attributes := #[] }])
  fields := #[{ name := "serialVersionUID", type := .long, accessFlags := 24, slot := 0, constantValue := 0 }]
  methods := #[k11m0, k11m1]
  instanceTypes := #[(.object "java/lang/Object"), (.object "java/lang/String"), (.object "java/lang/Throwable"), (.array (.object "java/lang/StackTraceElement")), .int, (.object "java/util/List")]
  staticTypes := #[.long]
  resolved := Array.replicate 40 none
  statics := none }

def pool12 : Array CpInfo := pool [(1, .string 2), (0, u "a MyBatis session that joined the transaction rolled its work back"), (0, .methodref 4 5), (0, .class_ 6), (0, .nameAndType 7 8), (0, u "java/lang/Exception"), (0, u "<init>"), (0, u "(Ljava/lang/String;)V"), (0, .class_ 10), (0, u "com/example/tx_at_boundaries/txatboundaries/mybatis/JoinedSessions$SessionRollback"), (0, u "serialVersionUID"), (0, u "J"), (3, u "()V"), (5, .class_ 23), (0, u "com/example/tx_at_boundaries/txatboundaries/mybatis/JoinedSessions")] 2

def k12c0 : Code := { maxStack := 2, maxLocals := 1, code := prog_39_method_1_code, exceptionTable := #[], attributes := #[] }
def k12m0 : Method := { name := "<init>", desc := "()V", sig := { parameters := [], returnType := none }, accessFlags := 0, code := some k12c0 }
/-- com/example/tx_at_boundaries/txatboundaries/mybatis/JoinedSessions$SessionRollback -/
def k12 : Class := { plain "com/example/tx_at_boundaries/txatboundaries/mybatis/JoinedSessions$SessionRollback" (some 11) with
  accessFlags := 48
  interfaces := #[]
  cf := some (fileOf pool12 9 #[.nestHost 22] #[{ accessFlags := 0, nameIndex := 7, descriptorIndex := 16, attributes := #[] }] 48 4 #[] #[{ accessFlags := 26, nameIndex := 11, descriptorIndex := 12, attributes := #[] }])
  fields := #[{ name := "serialVersionUID", type := .long, accessFlags := 26, slot := 0, constantValue := 0 }]
  methods := #[k12m0]
  instanceTypes := #[(.object "java/lang/Object"), (.object "java/lang/String"), (.object "java/lang/Throwable"), (.array (.object "java/lang/StackTraceElement")), .int, (.object "java/util/List")]
  staticTypes := #[.long]
  resolved := Array.replicate 26 none
  statics := none }

def pool13 : Array CpInfo := pool [(6, .class_ 8), (1, u "java/lang/Object"), (0, u "<init>"), (0, u "()V"), (1, .class_ 14), (1, u "java/lang/StringUTF16"), (31, u "$assertionsDisabled"), (0, u "Z"), (13, u "HI_BYTE_SHIFT"), (0, u "I"), (2, u "LO_BYTE_SHIFT"), (49, .methodref 12 116), (0, .nameAndType 117 118), (0, u "compress"), (0, u "([CI[BII)I"), (3, u "([CII)[B"), (138, u "coderFromArrayLen"), (0, u "([BI)B"), (106, .class_ 371), (1, u "java/lang/StringUTF16$LinesSpliterator"), (58, u "MAX_LENGTH"), (196, .class_ 628), (0, u "java/lang/StringUTF16$CodePointsSpliterator"), (0, .class_ 630), (0, u "java/lang/StringUTF16$CharsSpliterator")] 4

def k13m0 : Method := { name := "<init>", desc := "()V", sig := { parameters := [], returnType := none }, accessFlags := 0, code := none }
def k13c1 : Code := { maxStack := 2, maxLocals := 2, code := jdk_52_method_15_code, exceptionTable := #[], attributes := #[] }
def k13m1 : Method := { name := "coderFromArrayLen", desc := "([BI)B", sig := { parameters := [(.array .byte), .int], returnType := some .byte }, accessFlags := 8, code := some k13c1 }
def k13c2 : Code := { maxStack := 5, maxLocals := 6, code := jdk_52_method_16_code, exceptionTable := #[], attributes := #[] }
def k13m2 : Method := { name := "compress", desc := "([CII)[B", sig := { parameters := [(.array .char), .int, .int], returnType := some (.array .byte) }, accessFlags := 9, code := some k13c2 }
def k13c3 : Code := { maxStack := 3, maxLocals := 7, code := jdk_52_method_21_code, exceptionTable := #[], attributes := #[] }
def k13m3 : Method := { name := "compress", desc := "([CI[BII)I", sig := { parameters := [(.array .char), .int, (.array .byte), .int, .int], returnType := some .int }, accessFlags := 9, code := some k13c3 }
/-- java/lang/StringUTF16 -/
def k13 : Class := { plain "java/lang/StringUTF16" (some 0) with
  accessFlags := 48
  interfaces := #[]
  cf := some (fileOf pool13 12 #[.nestMembers #[627, 629, 369]] #[{ accessFlags := 0, nameIndex := 9, descriptorIndex := 10, attributes := #[] }, { accessFlags := 8, nameIndex := 261, descriptorIndex := 262, attributes := #[] }, { accessFlags := 9, nameIndex := 117, descriptorIndex := 122, attributes := #[] }, { accessFlags := 9, nameIndex := 117, descriptorIndex := 118, attributes := #[] }] 48 6 #[] #[{ accessFlags := 26, nameIndex := 61, descriptorIndex := 62, attributes := #[] }, { accessFlags := 26, nameIndex := 65, descriptorIndex := 62, attributes := #[] }, { accessFlags := 24, nameIndex := 430, descriptorIndex := 62, attributes := #[] }, { accessFlags := 4120, nameIndex := 46, descriptorIndex := 47, attributes := #[] }])
  fields := #[{ name := "HI_BYTE_SHIFT", type := .int, accessFlags := 26, slot := 0, constantValue := 0 }, { name := "LO_BYTE_SHIFT", type := .int, accessFlags := 26, slot := 1, constantValue := 0 }, { name := "MAX_LENGTH", type := .int, accessFlags := 24, slot := 2, constantValue := 0 }, { name := "$assertionsDisabled", type := .boolean, accessFlags := 4120, slot := 3, constantValue := 0 }]
  methods := #[k13m0, k13m1, k13m2, k13m3]
  instanceTypes := #[]
  staticTypes := #[.int, .int, .int, .boolean]
  resolved := Array.replicate 635 none
  statics := none }

def pool14 : Array CpInfo := pool [(4, .class_ 6), (1, u "java/lang/Object"), (0, u "<init>"), (0, u "()V"), (5, .class_ 16), (1, u "java/lang/StringLatin1"), (73, u "canEncode"), (14, u "(C)Z"), (15, u "$assertionsDisabled"), (0, u "Z"), (98, .class_ 223), (1, u "java/lang/StringLatin1$LinesSpliterator"), (156, u "toBytes"), (1, u "(C)[B"), (7, .class_ 391), (0, u "java/lang/StringLatin1$CharsSpliterator")] 3

def k14m0 : Method := { name := "<init>", desc := "()V", sig := { parameters := [], returnType := none }, accessFlags := 0, code := none }
def k14c1 : Code := { maxStack := 2, maxLocals := 1, code := jdk_43_method_3_code, exceptionTable := #[], attributes := #[] }
def k14m1 : Method := { name := "canEncode", desc := "(C)Z", sig := { parameters := [.char], returnType := some .boolean }, accessFlags := 9, code := some k14c1 }
def k14c2 : Code := { maxStack := 4, maxLocals := 1, code := jdk_43_method_46_code, exceptionTable := #[], attributes := #[] }
def k14m2 : Method := { name := "toBytes", desc := "(C)[B", sig := { parameters := [.char], returnType := some (.array .byte) }, accessFlags := 9, code := some k14c2 }
/-- java/lang/StringLatin1 -/
def k14 : Class := { plain "java/lang/StringLatin1" (some 0) with
  accessFlags := 48
  interfaces := #[]
  cf := some (fileOf pool14 14 #[.nestMembers #[390, 221]] #[{ accessFlags := 0, nameIndex := 7, descriptorIndex := 8, attributes := #[] }, { accessFlags := 9, nameIndex := 90, descriptorIndex := 105, attributes := #[] }, { accessFlags := 9, nameIndex := 380, descriptorIndex := 382, attributes := #[] }] 48 4 #[] #[{ accessFlags := 4120, nameIndex := 121, descriptorIndex := 122, attributes := #[] }])
  fields := #[{ name := "$assertionsDisabled", type := .boolean, accessFlags := 4120, slot := 0, constantValue := 0 }]
  methods := #[k14m0, k14m1, k14m2]
  instanceTypes := #[]
  staticTypes := #[.boolean]
  resolved := Array.replicate 395 none
  statics := none }

def pool15 : Array CpInfo := pool [(2, .class_ 4), (1, u "java/lang/Object"), (0, u "<init>"), (0, u "()V"), (12, .class_ 20), (0, u "java/util/Collections"), (63, u "r"), (0, u "Ljava/util/Random;"), (80, .class_ 167), (0, u "java/util/Collections$UnmodifiableCollection"), (6, .class_ 175), (0, u "java/util/Collections$UnmodifiableSequencedCollection"), (6, .class_ 183), (0, u "java/util/Collections$UnmodifiableSet"), (6, .class_ 191), (0, u "java/util/Collections$UnmodifiableSequencedSet"), (6, .class_ 199), (0, u "java/util/Collections$UnmodifiableSortedSet"), (6, .class_ 207), (0, u "java/util/Collections$UnmodifiableNavigableSet"), (4, .class_ 213), (0, u "java/util/Collections$UnmodifiableList"), (1, .class_ 216), (0, u "java/util/Collections$UnmodifiableRandomAccessList"), (6, .class_ 224), (0, u "java/util/Collections$UnmodifiableMap"), (6, .class_ 232), (0, u "java/util/Collections$UnmodifiableSequencedMap"), (4, .class_ 238), (0, u "java/util/Collections$UnmodifiableSortedMap"), (6, .class_ 246), (0, u "java/util/Collections$UnmodifiableNavigableMap"), (3, .class_ 251), (0, u "java/util/Collections$SynchronizedCollection"), (4, .class_ 257), (0, u "java/util/Collections$SynchronizedSet"), (4, .class_ 263), (0, u "java/util/Collections$SynchronizedSortedSet"), (1, .class_ 266), (0, u "java/util/Collections$SynchronizedNavigableSet"), (1, .class_ 269), (0, u "java/util/Collections$SynchronizedRandomAccessList"), (1, .class_ 272), (0, u "java/util/Collections$SynchronizedList"), (5, .class_ 279), (0, u "java/util/Collections$SynchronizedMap"), (1, .class_ 282), (0, u "java/util/Collections$SynchronizedSortedMap"), (1, .class_ 285), (0, u "java/util/Collections$SynchronizedNavigableMap"), (1, .class_ 288), (0, u "java/util/Collections$CheckedCollection"), (11, .class_ 301), (0, u "java/util/Collections$CheckedQueue"), (3, .class_ 306), (0, u "java/util/Collections$CheckedSet"), (3, .class_ 311), (0, u "java/util/Collections$CheckedSortedSet"), (3, .class_ 316), (0, u "java/util/Collections$CheckedNavigableSet"), (3, .class_ 321), (0, u "java/util/Collections$CheckedRandomAccessList"), (3, .class_ 326), (0, u "java/util/Collections$CheckedList"), (1, .class_ 329), (0, u "java/util/Collections$CheckedMap"), (3, .class_ 334), (0, u "java/util/Collections$CheckedSortedMap"), (3, .class_ 339), (0, u "java/util/Collections$CheckedNavigableMap"), (4, .class_ 346), (1, u "java/util/Collections$EmptyIterator"), (3, .class_ 352), (1, u "java/util/Collections$EmptyListIterator"), (2, .class_ 357), (1, u "java/util/Collections$EmptyEnumeration"), (4, u "EMPTY_SET"), (0, u "Ljava/util/Set;"), (6, u "EMPTY_LIST"), (0, u "Ljava/util/List;"), (2, u "EMPTY_MAP"), (0, u "Ljava/util/Map;"), (4, .class_ 381), (0, u "java/util/Collections$SingletonSet"), (2, .class_ 385), (0, u "java/util/Collections$1"), (1, .class_ 388), (0, u "java/util/Collections$2"), (1, .class_ 391), (0, u "java/util/Collections$SingletonList"), (1, .class_ 394), (0, u "java/util/Collections$SingletonMap"), (22, .class_ 418), (0, u "java/util/Collections$CopiesList"), (4, .class_ 425), (1, u "java/util/Collections$ReverseComparator"), (8, .class_ 435), (0, u "java/util/Collections$ReverseComparator2"), (6, .class_ 443), (0, u "java/util/Collections$3"), (25, .class_ 470), (0, u "java/util/Collections$SetFromMap"), (2, .class_ 474), (0, u "java/util/Collections$SequencedSetFromMap"), (3, .class_ 479), (0, u "java/util/Collections$AsLIFOQueue"), (11, .class_ 492), (0, u "java/util/Collections$EmptySet"), (1, .class_ 495), (0, u "java/util/Collections$EmptyList"), (1, .class_ 498), (0, u "java/util/Collections$EmptyMap"), (1, u "BINARYSEARCH_THRESHOLD"), (0, u "I"), (2, u "REVERSE_THRESHOLD"), (1, u "SHUFFLE_THRESHOLD"), (1, u "FILL_THRESHOLD"), (1, u "ROTATE_THRESHOLD"), (1, u "COPY_THRESHOLD"), (1, u "REPLACEALL_THRESHOLD"), (1, u "INDEXOFSUBLIST_THRESHOLD"), (333, .class_ 851), (0, u "java/util/Collections$CheckedMap$CheckedEntrySet"), (0, .class_ 853), (0, u "java/util/Collections$CheckedMap$CheckedEntrySet$CheckedEntry"), (0, .class_ 855), (0, u "java/util/Collections$CheckedMap$CheckedEntrySet$1"), (0, .class_ 857), (0, u "java/util/Collections$CheckedList$1"), (0, .class_ 859), (0, u "java/util/Collections$CheckedCollection$1"), (0, .class_ 861), (0, u "java/util/Collections$UnmodifiableNavigableMap$EmptyNavigableMap"), (0, .class_ 863), (0, u "java/util/Collections$UnmodifiableMap$UnmodifiableEntrySet"), (0, .class_ 865), (0, u "java/util/Collections$UnmodifiableMap$UnmodifiableEntrySet$UnmodifiableEntry"), (0, .class_ 867), (0, u "java/util/Collections$UnmodifiableMap$UnmodifiableEntrySet$UnmodifiableEntrySetSpliterator"), (0, .class_ 869), (0, u "java/util/Collections$UnmodifiableMap$UnmodifiableEntrySet$1"), (0, .class_ 871), (0, u "java/util/Collections$UnmodifiableList$1"), (0, .class_ 873), (0, u "java/util/Collections$UnmodifiableNavigableSet$EmptyNavigableSet"), (0, .class_ 875), (0, u "java/util/Collections$UnmodifiableCollection$1")] 57

def k15m0 : Method := { name := "<init>", desc := "()V", sig := { parameters := [], returnType := none }, accessFlags := 2, code := none }
/-- java/util/Collections -/
def k15 : Class := { plain "java/util/Collections" (some 0) with
  accessFlags := 33
  interfaces := #[]
  cf := some (fileOf pool15 19 #[.nestMembers #[478, 473, 469, 434, 423, 417, 393, 390, 380, 497, 494, 491, 355, 350, 344, 338, 333, 328, 850, 852, 854, 320, 325, 856, 315, 310, 305, 300, 287, 858, 284, 281, 278, 268, 271, 265, 262, 256, 250, 245, 860, 237, 231, 223, 862, 864, 866, 868, 215, 212, 870, 206, 872, 198, 190, 182, 174, 166, 874, 442, 387, 384]] #[{ accessFlags := 2, nameIndex := 5, descriptorIndex := 6, attributes := #[] }] 33 2 #[] #[{ accessFlags := 26, nameIndex := 500, descriptorIndex := 501, attributes := #[] }, { accessFlags := 26, nameIndex := 504, descriptorIndex := 501, attributes := #[] }, { accessFlags := 26, nameIndex := 506, descriptorIndex := 501, attributes := #[] }, { accessFlags := 26, nameIndex := 508, descriptorIndex := 501, attributes := #[] }, { accessFlags := 26, nameIndex := 510, descriptorIndex := 501, attributes := #[] }, { accessFlags := 26, nameIndex := 512, descriptorIndex := 501, attributes := #[] }, { accessFlags := 26, nameIndex := 514, descriptorIndex := 501, attributes := #[] }, { accessFlags := 26, nameIndex := 516, descriptorIndex := 501, attributes := #[] }, { accessFlags := 10, nameIndex := 84, descriptorIndex := 85, attributes := #[] }, { accessFlags := 25, nameIndex := 362, descriptorIndex := 363, attributes := #[] }, { accessFlags := 25, nameIndex := 370, descriptorIndex := 371, attributes := #[] }, { accessFlags := 25, nameIndex := 374, descriptorIndex := 375, attributes := #[] }])
  fields := #[{ name := "BINARYSEARCH_THRESHOLD", type := .int, accessFlags := 26, slot := 0, constantValue := 0 }, { name := "REVERSE_THRESHOLD", type := .int, accessFlags := 26, slot := 1, constantValue := 0 }, { name := "SHUFFLE_THRESHOLD", type := .int, accessFlags := 26, slot := 2, constantValue := 0 }, { name := "FILL_THRESHOLD", type := .int, accessFlags := 26, slot := 3, constantValue := 0 }, { name := "ROTATE_THRESHOLD", type := .int, accessFlags := 26, slot := 4, constantValue := 0 }, { name := "COPY_THRESHOLD", type := .int, accessFlags := 26, slot := 5, constantValue := 0 }, { name := "REPLACEALL_THRESHOLD", type := .int, accessFlags := 26, slot := 6, constantValue := 0 }, { name := "INDEXOFSUBLIST_THRESHOLD", type := .int, accessFlags := 26, slot := 7, constantValue := 0 }, { name := "r", type := (.object "java/util/Random"), accessFlags := 10, slot := 8, constantValue := 0 }, { name := "EMPTY_SET", type := (.object "java/util/Set"), accessFlags := 25, slot := 9, constantValue := 0 }, { name := "EMPTY_LIST", type := (.object "java/util/List"), accessFlags := 25, slot := 10, constantValue := 0 }, { name := "EMPTY_MAP", type := (.object "java/util/Map"), accessFlags := 25, slot := 11, constantValue := 0 }]
  methods := #[k15m0]
  instanceTypes := #[]
  staticTypes := #[.int, .int, .int, .int, .int, .int, .int, .int, (.object "java/util/Random"), (.object "java/util/Set"), (.object "java/util/List"), (.object "java/util/Map")]
  resolved := Array.replicate 933 none
  statics := some 2 }

def pool16 : Array CpInfo := pool [(2, .class_ 4), (1, u "java/lang/Object"), (0, u "<init>"), (0, u "()V"), (17, .class_ 26), (1, u "jdk/internal/util/Preconditions"), (28, .class_ 56), (0, u "jdk/internal/util/Preconditions$4"), (57, .class_ 115), (0, u "jdk/internal/util/Preconditions$1"), (7, u "SIOOBE_FORMATTER"), (0, u "Ljava/util/function/BiFunction;"), (0, .class_ 126), (0, u "jdk/internal/util/Preconditions$2"), (3, u "AIOOBE_FORMATTER"), (0, .class_ 132), (0, u "jdk/internal/util/Preconditions$3"), (3, u "IOOBE_FORMATTER")] 57

def k16m0 : Method := { name := "<init>", desc := "()V", sig := { parameters := [], returnType := none }, accessFlags := 1, code := none }
/-- jdk/internal/util/Preconditions -/
def k16 : Class := { plain "jdk/internal/util/Preconditions" (some 0) with
  accessFlags := 33
  interfaces := #[]
  cf := some (fileOf pool16 24 #[.nestMembers #[55, 131, 125, 114]] #[{ accessFlags := 1, nameIndex := 5, descriptorIndex := 6, attributes := #[] }] 33 2 #[] #[{ accessFlags := 25, nameIndex := 123, descriptorIndex := 124, attributes := #[] }, { accessFlags := 25, nameIndex := 130, descriptorIndex := 124, attributes := #[] }, { accessFlags := 25, nameIndex := 136, descriptorIndex := 124, attributes := #[] }])
  fields := #[{ name := "SIOOBE_FORMATTER", type := (.object "java/util/function/BiFunction"), accessFlags := 25, slot := 0, constantValue := 0 }, { name := "AIOOBE_FORMATTER", type := (.object "java/util/function/BiFunction"), accessFlags := 25, slot := 1, constantValue := 0 }, { name := "IOOBE_FORMATTER", type := (.object "java/util/function/BiFunction"), accessFlags := 25, slot := 2, constantValue := 0 }]
  methods := #[k16m0]
  instanceTypes := #[]
  staticTypes := #[(.object "java/util/function/BiFunction"), (.object "java/util/function/BiFunction"), (.object "java/util/function/BiFunction")]
  resolved := Array.replicate 194 none
  statics := some 3 }

def pool17 : Array CpInfo := pool [(9, u "<init>"), (6, .class_ 18), (1, u "java/lang/Object"), (0, u "()V"), (1, .class_ 23), (1, u "jdk/internal/util/ArraysSupport"), (0, u "LOG2_ARRAY_LONG_INDEX_SCALE"), (0, u "I"), (2, u "U"), (0, u "Ljdk/internal/misc/Unsafe;"), (8, u "BIG_ENDIAN"), (0, u "Z"), (8, u "LOG2_BYTE_BIT_SIZE"), (4, u "LOG2_ARRAY_INT_INDEX_SCALE"), (54, u "JLA"), (0, u "Ljdk/internal/access/JavaLangAccess;"), (11, u "LOG2_ARRAY_BOOLEAN_INDEX_SCALE"), (9, u "LOG2_ARRAY_BYTE_INDEX_SCALE"), (5, u "LOG2_ARRAY_CHAR_INDEX_SCALE"), (5, u "LOG2_ARRAY_SHORT_INDEX_SCALE"), (18, u "LOG2_ARRAY_FLOAT_INDEX_SCALE"), (24, u "LOG2_ARRAY_DOUBLE_INDEX_SCALE"), (89, u "T_BOOLEAN"), (2, u "T_CHAR"), (1, u "T_FLOAT"), (1, u "T_DOUBLE"), (1, u "T_BYTE"), (1, u "T_SHORT"), (1, u "T_INT"), (1, u "T_LONG"), (1, u "SOFT_MAX_ARRAY_LENGTH")] 83

def k17m0 : Method := { name := "<init>", desc := "()V", sig := { parameters := [], returnType := none }, accessFlags := 2, code := none }
/-- jdk/internal/util/ArraysSupport -/
def k17 : Class := { plain "jdk/internal/util/ArraysSupport" (some 0) with
  accessFlags := 33
  interfaces := #[]
  cf := some (fileOf pool17 21 #[] #[{ accessFlags := 2, nameIndex := 9, descriptorIndex := 19, attributes := #[] }] 33 16 #[] #[{ accessFlags := 24, nameIndex := 28, descriptorIndex := 29, attributes := #[] }, { accessFlags := 26, nameIndex := 38, descriptorIndex := 39, attributes := #[] }, { accessFlags := 25, nameIndex := 121, descriptorIndex := 25, attributes := #[] }, { accessFlags := 25, nameIndex := 131, descriptorIndex := 25, attributes := #[] }, { accessFlags := 25, nameIndex := 137, descriptorIndex := 25, attributes := #[] }, { accessFlags := 25, nameIndex := 143, descriptorIndex := 25, attributes := #[] }, { accessFlags := 25, nameIndex := 53, descriptorIndex := 25, attributes := #[] }, { accessFlags := 25, nameIndex := 24, descriptorIndex := 25, attributes := #[] }, { accessFlags := 25, nameIndex := 162, descriptorIndex := 25, attributes := #[] }, { accessFlags := 25, nameIndex := 187, descriptorIndex := 25, attributes := #[] }, { accessFlags := 26, nameIndex := 48, descriptorIndex := 25, attributes := #[] }, { accessFlags := 25, nameIndex := 277, descriptorIndex := 25, attributes := #[] }, { accessFlags := 25, nameIndex := 280, descriptorIndex := 25, attributes := #[] }, { accessFlags := 25, nameIndex := 282, descriptorIndex := 25, attributes := #[] }, { accessFlags := 25, nameIndex := 284, descriptorIndex := 25, attributes := #[] }, { accessFlags := 25, nameIndex := 286, descriptorIndex := 25, attributes := #[] }, { accessFlags := 25, nameIndex := 288, descriptorIndex := 25, attributes := #[] }, { accessFlags := 25, nameIndex := 290, descriptorIndex := 25, attributes := #[] }, { accessFlags := 25, nameIndex := 292, descriptorIndex := 25, attributes := #[] }, { accessFlags := 26, nameIndex := 108, descriptorIndex := 109, attributes := #[] }, { accessFlags := 25, nameIndex := 294, descriptorIndex := 25, attributes := #[] }])
  fields := #[{ name := "U", type := (.object "jdk/internal/misc/Unsafe"), accessFlags := 24, slot := 0, constantValue := 0 }, { name := "BIG_ENDIAN", type := .boolean, accessFlags := 26, slot := 1, constantValue := 0 }, { name := "LOG2_ARRAY_BOOLEAN_INDEX_SCALE", type := .int, accessFlags := 25, slot := 2, constantValue := 0 }, { name := "LOG2_ARRAY_BYTE_INDEX_SCALE", type := .int, accessFlags := 25, slot := 3, constantValue := 0 }, { name := "LOG2_ARRAY_CHAR_INDEX_SCALE", type := .int, accessFlags := 25, slot := 4, constantValue := 0 }, { name := "LOG2_ARRAY_SHORT_INDEX_SCALE", type := .int, accessFlags := 25, slot := 5, constantValue := 0 }, { name := "LOG2_ARRAY_INT_INDEX_SCALE", type := .int, accessFlags := 25, slot := 6, constantValue := 0 }, { name := "LOG2_ARRAY_LONG_INDEX_SCALE", type := .int, accessFlags := 25, slot := 7, constantValue := 0 }, { name := "LOG2_ARRAY_FLOAT_INDEX_SCALE", type := .int, accessFlags := 25, slot := 8, constantValue := 0 }, { name := "LOG2_ARRAY_DOUBLE_INDEX_SCALE", type := .int, accessFlags := 25, slot := 9, constantValue := 0 }, { name := "LOG2_BYTE_BIT_SIZE", type := .int, accessFlags := 26, slot := 10, constantValue := 0 }, { name := "T_BOOLEAN", type := .int, accessFlags := 25, slot := 11, constantValue := 0 }, { name := "T_CHAR", type := .int, accessFlags := 25, slot := 12, constantValue := 0 }, { name := "T_FLOAT", type := .int, accessFlags := 25, slot := 13, constantValue := 0 }, { name := "T_DOUBLE", type := .int, accessFlags := 25, slot := 14, constantValue := 0 }, { name := "T_BYTE", type := .int, accessFlags := 25, slot := 15, constantValue := 0 }, { name := "T_SHORT", type := .int, accessFlags := 25, slot := 16, constantValue := 0 }, { name := "T_INT", type := .int, accessFlags := 25, slot := 17, constantValue := 0 }, { name := "T_LONG", type := .int, accessFlags := 25, slot := 18, constantValue := 0 }, { name := "JLA", type := (.object "jdk/internal/access/JavaLangAccess"), accessFlags := 26, slot := 19, constantValue := 0 }, { name := "SOFT_MAX_ARRAY_LENGTH", type := .int, accessFlags := 25, slot := 20, constantValue := 0 }]
  methods := #[k17m0]
  instanceTypes := #[]
  staticTypes := #[(.object "jdk/internal/misc/Unsafe"), .boolean, .int, .int, .int, .int, .int, .int, .int, .int, .int, .int, .int, .int, .int, .int, .int, .int, .int, (.object "jdk/internal/access/JavaLangAccess"), .int]
  resolved := Array.replicate 378 none
  statics := none }

def pool18 : Array CpInfo := pool [(8, .class_ 10), (1, u "java/lang/Iterable"), (24, .class_ 36), (0, u "java/lang/Object")] 25

/-- java/lang/Iterable -/
def k18 : Class := { plain "java/lang/Iterable" (some 0) with
  accessFlags := 1537
  interfaces := #[]
  cf := some (fileOf pool18 8 #[] #[] 1537 35 #[] #[])
  fields := #[]
  methods := #[]
  instanceTypes := #[]
  staticTypes := #[]
  resolved := Array.replicate 62 none
  statics := none }

def pool19 : Array CpInfo := pool [(10, .class_ 12), (1, u "java/util/Collection"), (47, .class_ 61), (0, u "java/lang/Object"), (0, .class_ 63), (0, u "java/lang/Iterable")] 51

/-- java/util/Collection -/
def k19 : Class := { plain "java/util/Collection" (some 0) with
  accessFlags := 1537
  interfaces := #[18]
  cf := some (fileOf pool19 10 #[] #[] 1537 60 #[62] #[])
  fields := #[]
  methods := #[]
  instanceTypes := #[]
  staticTypes := #[]
  resolved := Array.replicate 115 none
  statics := none }

def pool20 : Array CpInfo := pool [(2, .class_ 4), (1, u "java/lang/Object"), (0, u "<init>"), (0, u "()V"), (1, .class_ 10), (1, u "java/util/AbstractCollection"), (66, .class_ 78), (0, u "java/util/Collection")] 81

def k20m0 : Method := { name := "<init>", desc := "()V", sig := { parameters := [], returnType := none }, accessFlags := 4, code := none }
/-- java/util/AbstractCollection -/
def k20 : Class := { plain "java/util/AbstractCollection" (some 0) with
  accessFlags := 1057
  interfaces := #[19]
  cf := some (fileOf pool20 8 #[] #[{ accessFlags := 4, nameIndex := 5, descriptorIndex := 6, attributes := #[] }] 1057 2 #[77] #[])
  fields := #[]
  methods := #[k20m0]
  instanceTypes := #[]
  staticTypes := #[]
  resolved := Array.replicate 160 none
  statics := none }

def pool21 : Array CpInfo := pool [(8, .class_ 10), (1, u "java/util/SequencedCollection"), (15, .class_ 27), (0, u "java/lang/Object"), (0, .class_ 29), (0, u "java/util/Collection")] 27

/-- java/util/SequencedCollection -/
def k21 : Class := { plain "java/util/SequencedCollection" (some 0) with
  accessFlags := 1537
  interfaces := #[19]
  cf := some (fileOf pool21 8 #[] #[] 1537 26 #[28] #[])
  fields := #[]
  methods := #[]
  instanceTypes := #[]
  staticTypes := #[]
  resolved := Array.replicate 57 none
  statics := none }

def pool22 : Array CpInfo := pool [(8, .class_ 10), (1, u "java/util/List"), (92, .class_ 104), (0, u "java/lang/Object"), (15, .class_ 121), (0, u "java/util/SequencedCollection")] 129

/-- java/util/List -/
def k22 : Class := { plain "java/util/List" (some 0) with
  accessFlags := 1537
  interfaces := #[21]
  cf := some (fileOf pool22 8 #[] #[] 1537 103 #[120] #[])
  fields := #[]
  methods := #[]
  instanceTypes := #[]
  staticTypes := #[]
  resolved := Array.replicate 251 none
  statics := none }

def pool23 : Array CpInfo := pool [(2, .class_ 4), (1, u "java/util/AbstractCollection"), (0, u "<init>"), (0, u "()V"), (1, .class_ 10), (1, u "java/util/AbstractList"), (0, u "modCount"), (0, u "I"), (64, .class_ 78), (0, u "java/util/AbstractList$Itr"), (3, .class_ 83), (0, u "java/util/AbstractList$ListItr"), (9, .class_ 94), (0, u "java/util/AbstractList$RandomAccessSubList"), (3, .class_ 99), (0, u "java/util/AbstractList$SubList"), (33, .class_ 134), (0, u "java/util/List"), (73, .class_ 209), (0, u "java/util/AbstractList$SubList$1"), (0, .class_ 211), (0, u "java/util/AbstractList$RandomAccessSpliterator")] 6

def k23m0 : Method := { name := "<init>", desc := "()V", sig := { parameters := [], returnType := none }, accessFlags := 4, code := none }
/-- java/util/AbstractList -/
def k23 : Class := { plain "java/util/AbstractList" (some 20) with
  accessFlags := 1057
  interfaces := #[22]
  cf := some (fileOf pool23 8 #[.nestMembers #[93, 98, 208, 210, 82, 77]] #[{ accessFlags := 4, nameIndex := 5, descriptorIndex := 6, attributes := #[] }] 1057 2 #[133] #[{ accessFlags := 132, nameIndex := 11, descriptorIndex := 12, attributes := #[] }])
  fields := #[{ name := "modCount", type := .int, accessFlags := 132, slot := 0, constantValue := 0 }]
  methods := #[k23m0]
  instanceTypes := #[.int]
  staticTypes := #[]
  resolved := Array.replicate 218 none
  statics := none }

def pool24 : Array CpInfo := pool [(1, .class_ 2), (0, u "java/util/RandomAccess"), (0, .class_ 4), (0, u "java/lang/Object")] 2

/-- java/util/RandomAccess -/
def k24 : Class := { plain "java/util/RandomAccess" (some 0) with
  accessFlags := 1537
  interfaces := #[]
  cf := some (fileOf pool24 1 #[] #[] 1537 3 #[] #[])
  fields := #[]
  methods := #[]
  instanceTypes := #[]
  staticTypes := #[]
  resolved := Array.replicate 7 none
  statics := none }

def pool25 : Array CpInfo := pool [(2, .class_ 4), (1, u "java/util/AbstractList"), (0, u "<init>"), (0, u "()V"), (1, .class_ 10), (1, u "java/util/Collections"), (54, .class_ 66), (0, u "java/util/Collections$EmptyList"), (0, .class_ 68), (0, u "java/util/RandomAccess"), (0, .class_ 70), (0, u "java/io/Serializable"), (0, u "serialVersionUID"), (0, u "J")] 77

def k25m0 : Method := { name := "<init>", desc := "()V", sig := { parameters := [], returnType := none }, accessFlags := 2, code := none }
/-- java/util/Collections$EmptyList -/
def k25 : Class := { plain "java/util/Collections$EmptyList" (some 23) with
  accessFlags := 32
  interfaces := #[24, 4]
  cf := some (fileOf pool25 65 #[.nestHost 8] #[{ accessFlags := 2, nameIndex := 5, descriptorIndex := 6, attributes := #[] }] 32 2 #[67, 69] #[{ accessFlags := 26, nameIndex := 71, descriptorIndex := 72, attributes := #[] }])
  fields := #[{ name := "serialVersionUID", type := .long, accessFlags := 26, slot := 0, constantValue := 0 }]
  methods := #[k25m0]
  instanceTypes := #[.int]
  staticTypes := #[.long]
  resolved := Array.replicate 150 none
  statics := none }

def pool26 : Array CpInfo := pool [(2, .class_ 4), (1, u "java/lang/StackTraceElement"), (0, u "<init>"), (2, .class_ 10), (1, u "java/lang/Object"), (0, u "()V"), (2, u "format"), (0, u "B"), (2, u "classLoaderName"), (0, u "Ljava/lang/String;"), (2, u "moduleName"), (2, u "moduleVersion"), (12, u "declaringClass"), (4, u "methodName"), (2, u "fileName"), (2, u "lineNumber"), (0, u "I"), (65, u "declaringClassObject"), (0, u "Ljava/lang/Class;"), (33, .class_ 153), (1, u "java/lang/StackTraceElement$HashedModules"), (17, .class_ 172), (0, u "java/io/Serializable"), (0, u "NATIVE_METHOD"), (1, u "UNKNOWN_SOURCE"), (2, u "BUILTIN_CLASS_LOADER"), (1, u "JDK_NON_UPGRADEABLE_MODULE"), (1, u "serialVersionUID"), (0, u "J")] 51

def k26m0 : Method := { name := "<init>", desc := "()V", sig := { parameters := [], returnType := none }, accessFlags := 2, code := none }
/-- java/lang/StackTraceElement -/
def k26 : Class := { plain "java/lang/StackTraceElement" (some 0) with
  accessFlags := 49
  interfaces := #[4]
  cf := some (fileOf pool26 2 #[.nestMembers #[151]] #[{ accessFlags := 2, nameIndex := 5, descriptorIndex := 11, attributes := #[] }] 49 8 #[171] #[{ accessFlags := 26, nameIndex := 173, descriptorIndex := 19, attributes := #[] }, { accessFlags := 26, nameIndex := 175, descriptorIndex := 19, attributes := #[] }, { accessFlags := 130, nameIndex := 116, descriptorIndex := 117, attributes := #[] }, { accessFlags := 2, nameIndex := 18, descriptorIndex := 19, attributes := #[] }, { accessFlags := 2, nameIndex := 22, descriptorIndex := 19, attributes := #[] }, { accessFlags := 2, nameIndex := 25, descriptorIndex := 19, attributes := #[] }, { accessFlags := 2, nameIndex := 38, descriptorIndex := 19, attributes := #[] }, { accessFlags := 2, nameIndex := 43, descriptorIndex := 19, attributes := #[] }, { accessFlags := 2, nameIndex := 46, descriptorIndex := 19, attributes := #[] }, { accessFlags := 2, nameIndex := 49, descriptorIndex := 50, attributes := #[] }, { accessFlags := 2, nameIndex := 14, descriptorIndex := 15, attributes := #[] }, { accessFlags := 26, nameIndex := 178, descriptorIndex := 15, attributes := #[] }, { accessFlags := 26, nameIndex := 180, descriptorIndex := 15, attributes := #[] }, { accessFlags := 26, nameIndex := 182, descriptorIndex := 183, attributes := #[] }])
  fields := #[{ name := "NATIVE_METHOD", type := (.object "java/lang/String"), accessFlags := 26, slot := 0, constantValue := 0 }, { name := "UNKNOWN_SOURCE", type := (.object "java/lang/String"), accessFlags := 26, slot := 1, constantValue := 0 }, { name := "declaringClassObject", type := (.object "java/lang/Class"), accessFlags := 130, slot := 0, constantValue := 0 }, { name := "classLoaderName", type := (.object "java/lang/String"), accessFlags := 2, slot := 1, constantValue := 0 }, { name := "moduleName", type := (.object "java/lang/String"), accessFlags := 2, slot := 2, constantValue := 0 }, { name := "moduleVersion", type := (.object "java/lang/String"), accessFlags := 2, slot := 3, constantValue := 0 }, { name := "declaringClass", type := (.object "java/lang/String"), accessFlags := 2, slot := 4, constantValue := 0 }, { name := "methodName", type := (.object "java/lang/String"), accessFlags := 2, slot := 5, constantValue := 0 }, { name := "fileName", type := (.object "java/lang/String"), accessFlags := 2, slot := 6, constantValue := 0 }, { name := "lineNumber", type := .int, accessFlags := 2, slot := 7, constantValue := 0 }, { name := "format", type := .byte, accessFlags := 2, slot := 8, constantValue := 0 }, { name := "BUILTIN_CLASS_LOADER", type := .byte, accessFlags := 26, slot := 2, constantValue := 0 }, { name := "JDK_NON_UPGRADEABLE_MODULE", type := .byte, accessFlags := 26, slot := 3, constantValue := 0 }, { name := "serialVersionUID", type := .long, accessFlags := 26, slot := 4, constantValue := 0 }]
  methods := #[k26m0]
  instanceTypes := #[(.object "java/lang/Class"), (.object "java/lang/String"), (.object "java/lang/String"), (.object "java/lang/String"), (.object "java/lang/String"), (.object "java/lang/String"), (.object "java/lang/String"), .int, .byte]
  staticTypes := #[(.object "java/lang/String"), (.object "java/lang/String"), .byte, .byte, .long]
  resolved := Array.replicate 235 none
  statics := none }

def pool27 : Array CpInfo := pool [(1, u "java/lang/Cloneable"), (0, .class_ 1), (0, u "java/lang/Object"), (0, .class_ 3)] 3

/-- java/lang/Cloneable -/
def k27 : Class := { plain "java/lang/Cloneable" (some 0) with
  accessFlags := 1537
  interfaces := #[]
  cf := some (fileOf pool27 2 #[] #[] 1537 4 #[] #[])
  fields := #[]
  methods := #[]
  instanceTypes := #[]
  staticTypes := #[]
  resolved := Array.replicate 8 none
  statics := none }

/-- the primitive byte -/
def k28 : Class := { plain "byte" none with kind := .primitive 'B', accessFlags := 0x411 }
/-- [B -/
def k29 : Class := { plain "[B" (some 0) with kind := .array 28 .byte, interfaces := #[27, 4], accessFlags := 1041 }

/-- the primitive char -/
def k30 : Class := { plain "char" none with kind := .primitive 'C', accessFlags := 0x411 }
/-- [C -/
def k31 : Class := { plain "[C" (some 0) with kind := .array 30 .char, interfaces := #[27, 4], accessFlags := 1041 }

/-- the primitive int -/
def k32 : Class := { plain "int" none with kind := .primitive 'I', accessFlags := 0x411 }
/-- [I -/
def k33 : Class := { plain "[I" (some 0) with kind := .array 32 .int, interfaces := #[27, 4], accessFlags := 1041 }

/-- [Ljava/lang/Object; -/
def k34 : Class := { plain "[Ljava/lang/Object;" (some 0) with kind := .array 0 (.object "java/lang/Object"), interfaces := #[27, 4], accessFlags := 1041 }

/-- [Ljava/lang/StackTraceElement; -/
def k35 : Class := { plain "[Ljava/lang/StackTraceElement;" (some 0) with kind := .array 26 (.object "java/lang/StackTraceElement"), interfaces := #[27, 4], accessFlags := 1041 }

/-- [Ljava/lang/Throwable; -/
def k36 : Class := { plain "[Ljava/lang/Throwable;" (some 0) with kind := .array 10 (.object "java/lang/Throwable"), interfaces := #[27, 4], accessFlags := 1041 }

def heap : Heap := #[{ cls := 9, slots := #[.long 0, .int 1, .null, .int 0, .null, .int 0, .int 0], vm := .statics 9 },
  { cls := 10, slots := #[.long 0, .ref 4, .ref 5, .null, .null, .null, .null, .ref 6, .int 1], vm := .statics 10 },
  { cls := 15, slots := #[.int 0, .int 0, .int 0, .int 0, .int 0, .int 0, .int 0, .int 0, .null, .null, .ref 5, .null], vm := .statics 15 },
  { cls := 16, slots := #[.null, .null, .null], vm := .statics 16 },
  { cls := 35, slots := #[], vm := .none },
  { cls := 25, slots := #[.int 0], vm := .none },
  { cls := 36, slots := #[], vm := .none }]
def classes : Array Class := #[k0, k1, k2, k3, k4, k5, k6, k7, k8, k9, k10, k11, k12, k13, k14, k15, k16, k17, k18, k19, k20, k21, k22, k23, k24, k25, k26, k27, k28, k29, k30, k31, k32, k33, k34, k35, k36]
def interned : List (Array UInt16 × Addr) := []
def slotsUsed : Nat := 32
def theMethod : MethodId := ⟨1, 1⟩
def args0 : Array Value := #[.int 5, .int 5, .int 5, .int 5]
def aboutOver (below : List Frame) : State where
  vm := { classes := classes, interned := interned.toArray }
  heap := heap
  slotsUsed := slotsUsed
  threads := #[{ frames := .invoking theMethod args0 :: below }]
def below0 : List Frame := [.native { method := ⟨0, 0⟩, args := #[] }]
def about1 : State := aboutOver below0
def p0 : Program := .bare "" "" ""
def e0 : Env := launch0.env 0 0 0
theorem w_frames : about1.frames = Frame.invoking theMethod args0 :: below0 := rfl
set_option maxRecDepth 65536 in
theorem w_args : argsFit about1.vm theMethod args0 = true := by decide +kernel
set_option maxRecDepth 65536 in
theorem w_heap : heapFits about1 = true := by decide +kernel
set_option maxRecDepth 65536 in
theorem w_runnable : about1.curStatus? = some .runnable := by decide +kernel
set_option maxRecDepth 65536 in
theorem w_alone : about1.alone = true := by decide +kernel
set_option maxRecDepth 65536 in
theorem w_named : about1.methodNamed? x = some theMethod := by decide +kernel
set_option maxRecDepth 65536 in
theorem w_hears : about1.hears theMethod below0 = true := by decide +kernel
set_option maxRecDepth 65536 in
theorem w_ripe : about1.ripe theMethod args0 below0 = true := by decide +kernel
theorem w_running : about1.status = .running := rfl
set_option maxRecDepth 65536 in
theorem w_room : about1.hasRoom e0.platform room_1 = true :=
  launch0.hasRoom_least _ room_1 (by decide +kernel) (by decide +kernel) (by decide +kernel) (by decide +kernel) (by decide +kernel) (by decide +kernel)
theorem allAtoms_all (ts : List Jvm.Cond) (a : Array Jvm.Value) (st : Jvm.State) : (allAtoms ts).before a st = ts.all (fun c => c.before a st) := by
  induction ts with
  | nil => rfl
  | cons c t ih =>
    show (Jvm.Cond.and c (allAtoms t)).before a st = _
    rw [Jvm.Cond.before_and, ih, List.all_cons]
def words1 : List Jvm.Cond := Jvm.Cond.code x code maxLocals ret :: tables_1
/-- a 'code' word, met by the world's own term for the bytes: nothing is compared byte by byte -/
theorem code_word {y : MethodName} {bytes : ByteArray} {mx : Nat} {rt : Option FieldType} {a : Array Value} {s : State} {m : MethodId} {meth : Method} {c : Code} (h1 : s.methodNamed? y = some m) (h2 : s.vm.method? m = some meth) (h3 : meth.code = some c) (h4 : c.code = bytes)
    (h5 : (c.maxLocals == mx && c.exceptionTable.isEmpty && decide (c.maxStack ≤ mostOperands) && decide (meth.sig.returnType = rt) && !meth.locks && decide (parseMethodDescriptor y.desc = some meth.sig)) = true) : (Jvm.Cond.code y bytes mx rt).before a s = true := by
  simp only [Bool.and_eq_true, beq_iff_eq, Bool.not_eq_true', decide_eq_true_eq] at h5
  obtain ⟨⟨⟨⟨⟨g1, g2⟩, g3⟩, g4⟩, g5⟩, g6⟩ := h5
  simp [Cond.before, Cond.holds, Cond.value, h1, h2, h3, h4, g1, g2, g3, g4, g5, g6]
def isCode : Jvm.Cond → Bool
  | .code _ _ _ _ => true
  | _ => false
theorem all_split {L : List Jvm.Cond} {P : Jvm.Cond → Bool} (h1 : L.all (fun c => isCode c || P c) = true) (h2 : ∀ c ∈ L.filter isCode, P c = true) : L.all P = true := by
  refine List.all_eq_true.mpr fun c hc => ?_
  have h := List.all_eq_true.mp h1 c hc
  rcases Bool.eq_false_or_eq_true (isCode c) with hi | hi
  · exact h2 c (List.mem_filter.mpr ⟨hc, hi⟩)
  · simpa [hi] using h
set_option maxRecDepth 65536 in
theorem w_c0 : (Jvm.Cond.code x code maxLocals ret).before args0 about1 = true := code_word (m := ⟨1, 1⟩) (meth := k1m1) (c := k1c1) (by decide +kernel) rfl rfl rfl (by decide +kernel)
set_option maxRecDepth 65536 in
theorem w_c1 : (Jvm.Cond.code ({ cls := "com/example/tx_at_boundaries/txatboundaries/mybatis/JoinedSessions", name := "<init>", desc := "()V" } : Jvm.MethodName) prog_38_method_1_code (1 : Nat) (Option.none : Option Jvm.ClassFile.FieldType)).before args0 about1 = true := code_word (m := ⟨3, 0⟩) (meth := k3m0) (c := k3c0) (by decide +kernel) rfl rfl rfl (by decide +kernel)
set_option maxRecDepth 65536 in
theorem w_c2 : (Jvm.Cond.code ({ cls := "java/lang/Object", name := "<init>", desc := "()V" } : Jvm.MethodName) object_method_1_code (1 : Nat) (Option.none : Option Jvm.ClassFile.FieldType)).before args0 about1 = true := code_word (m := ⟨0, 0⟩) (meth := k0m0) (c := k0c0) (by decide +kernel) rfl rfl rfl (by decide +kernel)
set_option maxRecDepth 65536 in
theorem w_c3 : (Jvm.Cond.code ({ cls := "com/example/tx_at_boundaries/txatboundaries/mybatis/JoinedSessions", name := "rollBack", desc := "()V" } : Jvm.MethodName) prog_38_method_2_code (1 : Nat) (Option.none : Option Jvm.ClassFile.FieldType)).before args0 about1 = true := code_word (m := ⟨3, 1⟩) (meth := k3m1) (c := k3c1) (by decide +kernel) rfl rfl rfl (by decide +kernel)
set_option maxRecDepth 65536 in
theorem w_c4 : (Jvm.Cond.code ({ cls := "com/example/tx_at_boundaries/txatboundaries/mybatis/JoinedSessions", name := "requireRunning", desc := "(Ljava/lang/String;)V" } : Jvm.MethodName) prog_38_method_3_code (2 : Nat) (Option.none : Option Jvm.ClassFile.FieldType)).before args0 about1 = true := code_word (m := ⟨3, 2⟩) (meth := k3m2) (c := k3c2) (by decide +kernel) rfl rfl rfl (by decide +kernel)
set_option maxRecDepth 65536 in
theorem w_c5 : (Jvm.Cond.code ({ cls := "com/example/tx_at_boundaries/txatboundaries/mybatis/JoinedSessions$SessionRollback", name := "<init>", desc := "()V" } : Jvm.MethodName) prog_39_method_1_code (1 : Nat) (Option.none : Option Jvm.ClassFile.FieldType)).before args0 about1 = true := code_word (m := ⟨12, 0⟩) (meth := k12m0) (c := k12c0) (by decide +kernel) rfl rfl rfl (by decide +kernel)
set_option maxRecDepth 65536 in
theorem w_c6 : (Jvm.Cond.code ({ cls := "java/lang/Exception", name := "<init>", desc := "(Ljava/lang/String;)V" } : Jvm.MethodName) jdk_59_method_2_code (2 : Nat) (Option.none : Option Jvm.ClassFile.FieldType)).before args0 about1 = true := code_word (m := ⟨11, 1⟩) (meth := k11m1) (c := k11c1) (by decide +kernel) rfl rfl rfl (by decide +kernel)
set_option maxRecDepth 65536 in
theorem w_c7 : (Jvm.Cond.code ({ cls := "java/lang/Throwable", name := "<init>", desc := "(Ljava/lang/String;)V" } : Jvm.MethodName) jdk_78_method_2_code (2 : Nat) (Option.none : Option Jvm.ClassFile.FieldType)).before args0 about1 = true := code_word (m := ⟨10, 1⟩) (meth := k10m1) (c := k10c1) (by decide +kernel) rfl rfl rfl (by decide +kernel)
set_option maxRecDepth 65536 in
theorem w_c8 : (Jvm.Cond.code ({ cls := "java/lang/Throwable", name := "<init>", desc := "()V" } : Jvm.MethodName) jdk_78_method_1_code (1 : Nat) (Option.none : Option Jvm.ClassFile.FieldType)).before args0 about1 = true := code_word (m := ⟨10, 0⟩) (meth := k10m0) (c := k10c0) (by decide +kernel) rfl rfl rfl (by decide +kernel)
set_option maxRecDepth 65536 in
theorem w_c9 : (Jvm.Cond.code ({ cls := "com/example/tx_at_boundaries/txatboundaries/mybatis/JoinedSessions", name := "failure", desc := "()Ljava/lang/Throwable;" } : Jvm.MethodName) prog_38_method_7_code (1 : Nat) (Option.some (Jvm.ClassFile.FieldType.object "java/lang/Throwable"))).before args0 about1 = true := code_word (m := ⟨3, 3⟩) (meth := k3m3) (c := k3c3) (by decide +kernel) rfl rfl rfl (by decide +kernel)
set_option maxRecDepth 65536 in
theorem w_c10 : (Jvm.Cond.code ({ cls := "java/lang/String", name := "<init>", desc := "([C)V" } : Jvm.MethodName) jdk_42_method_3_code (2 : Nat) (Option.none : Option Jvm.ClassFile.FieldType)).before args0 about1 = true := code_word (m := ⟨9, 1⟩) (meth := k9m1) (c := k9c1) (by decide +kernel) rfl rfl rfl (by decide +kernel)
set_option maxRecDepth 65536 in
theorem w_c11 : (Jvm.Cond.code ({ cls := "java/lang/String", name := "<init>", desc := "([CIILjava/lang/Void;)V" } : Jvm.MethodName) jdk_42_method_149_code (6 : Nat) (Option.none : Option Jvm.ClassFile.FieldType)).before args0 about1 = true := code_word (m := ⟨9, 3⟩) (meth := k9m3) (c := k9c3) (by decide +kernel) rfl rfl rfl (by decide +kernel)
set_option maxRecDepth 65536 in
theorem w_c12 : (Jvm.Cond.code ({ cls := "java/lang/StringUTF16", name := "compress", desc := "([CII)[B" } : Jvm.MethodName) jdk_52_method_16_code (6 : Nat) (Option.some (Jvm.ClassFile.FieldType.array Jvm.ClassFile.FieldType.byte))).before args0 about1 = true := code_word (m := ⟨13, 2⟩) (meth := k13m2) (c := k13c2) (by decide +kernel) rfl rfl rfl (by decide +kernel)
set_option maxRecDepth 65536 in
theorem w_c13 : (Jvm.Cond.code ({ cls := "java/lang/StringUTF16", name := "compress", desc := "([CI[BII)I" } : Jvm.MethodName) jdk_52_method_21_code (7 : Nat) (Option.some Jvm.ClassFile.FieldType.int)).before args0 about1 = true := code_word (m := ⟨13, 3⟩) (meth := k13m3) (c := k13c3) (by decide +kernel) rfl rfl rfl (by decide +kernel)
set_option maxRecDepth 65536 in
theorem w_c14 : (Jvm.Cond.code ({ cls := "java/lang/StringUTF16", name := "coderFromArrayLen", desc := "([BI)B" } : Jvm.MethodName) jdk_52_method_15_code (2 : Nat) (Option.some Jvm.ClassFile.FieldType.byte)).before args0 about1 = true := code_word (m := ⟨13, 1⟩) (meth := k13m1) (c := k13c1) (by decide +kernel) rfl rfl rfl (by decide +kernel)
set_option maxRecDepth 65536 in
theorem w_c15 : (Jvm.Cond.code ({ cls := "java/lang/String", name := "valueOf", desc := "(C)Ljava/lang/String;" } : Jvm.MethodName) jdk_42_method_139_code (1 : Nat) (Option.some (Jvm.ClassFile.FieldType.object "java/lang/String"))).before args0 about1 = true := code_word (m := ⟨9, 2⟩) (meth := k9m2) (c := k9c2) (by decide +kernel) rfl rfl rfl (by decide +kernel)
set_option maxRecDepth 65536 in
theorem w_c16 : (Jvm.Cond.code ({ cls := "java/lang/StringLatin1", name := "canEncode", desc := "(C)Z" } : Jvm.MethodName) jdk_43_method_3_code (1 : Nat) (Option.some Jvm.ClassFile.FieldType.boolean)).before args0 about1 = true := code_word (m := ⟨14, 1⟩) (meth := k14m1) (c := k14c1) (by decide +kernel) rfl rfl rfl (by decide +kernel)
set_option maxRecDepth 65536 in
theorem w_c17 : (Jvm.Cond.code ({ cls := "java/lang/StringLatin1", name := "toBytes", desc := "(C)[B" } : Jvm.MethodName) jdk_43_method_46_code (1 : Nat) (Option.some (Jvm.ClassFile.FieldType.array Jvm.ClassFile.FieldType.byte))).before args0 about1 = true := code_word (m := ⟨14, 2⟩) (meth := k14m2) (c := k14c2) (by decide +kernel) rfl rfl rfl (by decide +kernel)
set_option maxRecDepth 65536 in
theorem w_c18 : (Jvm.Cond.code ({ cls := "java/lang/String", name := "<init>", desc := "([BB)V" } : Jvm.MethodName) jdk_42_method_151_code (3 : Nat) (Option.none : Option Jvm.ClassFile.FieldType)).before args0 about1 = true := code_word (m := ⟨9, 4⟩) (meth := k9m4) (c := k9c4) (by decide +kernel) rfl rfl rfl (by decide +kernel)
def codes1 : List Jvm.Cond := [Jvm.Cond.code x code maxLocals ret, Jvm.Cond.code ({ cls := "com/example/tx_at_boundaries/txatboundaries/mybatis/JoinedSessions", name := "<init>", desc := "()V" } : Jvm.MethodName) prog_38_method_1_code (1 : Nat) (Option.none : Option Jvm.ClassFile.FieldType), Jvm.Cond.code ({ cls := "java/lang/Object", name := "<init>", desc := "()V" } : Jvm.MethodName) object_method_1_code (1 : Nat) (Option.none : Option Jvm.ClassFile.FieldType), Jvm.Cond.code ({ cls := "com/example/tx_at_boundaries/txatboundaries/mybatis/JoinedSessions", name := "rollBack", desc := "()V" } : Jvm.MethodName) prog_38_method_2_code (1 : Nat) (Option.none : Option Jvm.ClassFile.FieldType), Jvm.Cond.code ({ cls := "com/example/tx_at_boundaries/txatboundaries/mybatis/JoinedSessions", name := "requireRunning", desc := "(Ljava/lang/String;)V" } : Jvm.MethodName) prog_38_method_3_code (2 : Nat) (Option.none : Option Jvm.ClassFile.FieldType), Jvm.Cond.code ({ cls := "com/example/tx_at_boundaries/txatboundaries/mybatis/JoinedSessions$SessionRollback", name := "<init>", desc := "()V" } : Jvm.MethodName) prog_39_method_1_code (1 : Nat) (Option.none : Option Jvm.ClassFile.FieldType), Jvm.Cond.code ({ cls := "java/lang/Exception", name := "<init>", desc := "(Ljava/lang/String;)V" } : Jvm.MethodName) jdk_59_method_2_code (2 : Nat) (Option.none : Option Jvm.ClassFile.FieldType), Jvm.Cond.code ({ cls := "java/lang/Throwable", name := "<init>", desc := "(Ljava/lang/String;)V" } : Jvm.MethodName) jdk_78_method_2_code (2 : Nat) (Option.none : Option Jvm.ClassFile.FieldType), Jvm.Cond.code ({ cls := "java/lang/Throwable", name := "<init>", desc := "()V" } : Jvm.MethodName) jdk_78_method_1_code (1 : Nat) (Option.none : Option Jvm.ClassFile.FieldType), Jvm.Cond.code ({ cls := "com/example/tx_at_boundaries/txatboundaries/mybatis/JoinedSessions", name := "failure", desc := "()Ljava/lang/Throwable;" } : Jvm.MethodName) prog_38_method_7_code (1 : Nat) (Option.some (Jvm.ClassFile.FieldType.object "java/lang/Throwable")), Jvm.Cond.code ({ cls := "java/lang/String", name := "<init>", desc := "([C)V" } : Jvm.MethodName) jdk_42_method_3_code (2 : Nat) (Option.none : Option Jvm.ClassFile.FieldType), Jvm.Cond.code ({ cls := "java/lang/String", name := "<init>", desc := "([CIILjava/lang/Void;)V" } : Jvm.MethodName) jdk_42_method_149_code (6 : Nat) (Option.none : Option Jvm.ClassFile.FieldType), Jvm.Cond.code ({ cls := "java/lang/StringUTF16", name := "compress", desc := "([CII)[B" } : Jvm.MethodName) jdk_52_method_16_code (6 : Nat) (Option.some (Jvm.ClassFile.FieldType.array Jvm.ClassFile.FieldType.byte)), Jvm.Cond.code ({ cls := "java/lang/StringUTF16", name := "compress", desc := "([CI[BII)I" } : Jvm.MethodName) jdk_52_method_21_code (7 : Nat) (Option.some Jvm.ClassFile.FieldType.int), Jvm.Cond.code ({ cls := "java/lang/StringUTF16", name := "coderFromArrayLen", desc := "([BI)B" } : Jvm.MethodName) jdk_52_method_15_code (2 : Nat) (Option.some Jvm.ClassFile.FieldType.byte), Jvm.Cond.code ({ cls := "java/lang/String", name := "valueOf", desc := "(C)Ljava/lang/String;" } : Jvm.MethodName) jdk_42_method_139_code (1 : Nat) (Option.some (Jvm.ClassFile.FieldType.object "java/lang/String")), Jvm.Cond.code ({ cls := "java/lang/StringLatin1", name := "canEncode", desc := "(C)Z" } : Jvm.MethodName) jdk_43_method_3_code (1 : Nat) (Option.some Jvm.ClassFile.FieldType.boolean), Jvm.Cond.code ({ cls := "java/lang/StringLatin1", name := "toBytes", desc := "(C)[B" } : Jvm.MethodName) jdk_43_method_46_code (1 : Nat) (Option.some (Jvm.ClassFile.FieldType.array Jvm.ClassFile.FieldType.byte)), Jvm.Cond.code ({ cls := "java/lang/String", name := "<init>", desc := "([BB)V" } : Jvm.MethodName) jdk_42_method_151_code (3 : Nat) (Option.none : Option Jvm.ClassFile.FieldType)]
set_option maxRecDepth 65536 in
theorem codes_eq : words1.filter isCode = codes1 := rfl
theorem w_codes : ∀ c ∈ words1.filter isCode, c.before args0 about1 = true := by
  rw [codes_eq]
  intro c hc
  simp only [codes1, List.mem_cons, List.not_mem_nil, or_false] at hc
  rcases hc with rfl | rfl | rfl | rfl | rfl | rfl | rfl | rfl | rfl | rfl | rfl | rfl | rfl | rfl | rfl | rfl | rfl | rfl | rfl
  · exact w_c0
  · exact w_c1
  · exact w_c2
  · exact w_c3
  · exact w_c4
  · exact w_c5
  · exact w_c6
  · exact w_c7
  · exact w_c8
  · exact w_c9
  · exact w_c10
  · exact w_c11
  · exact w_c12
  · exact w_c13
  · exact w_c14
  · exact w_c15
  · exact w_c16
  · exact w_c17
  · exact w_c18
set_option maxRecDepth 65536 in
theorem w_t1 : (words1.take 24).all (fun c => isCode c || c.before args0 about1) = true := by decide +kernel
set_option maxRecDepth 65536 in
theorem w_t2 : ((words1.drop 24).take 24).all (fun c => isCode c || c.before args0 about1) = true := by decide +kernel
set_option maxRecDepth 65536 in
theorem w_t3 : (((words1.drop 24).drop 24).take 24).all (fun c => isCode c || c.before args0 about1) = true := by decide +kernel
set_option maxRecDepth 65536 in
theorem w_t4 : ((((words1.drop 24).drop 24).drop 24).take 24).all (fun c => isCode c || c.before args0 about1) = true := by decide +kernel
set_option maxRecDepth 65536 in
theorem w_t5 : (((((words1.drop 24).drop 24).drop 24).drop 24).take 24).all (fun c => isCode c || c.before args0 about1) = true := by decide +kernel
set_option maxRecDepth 65536 in
theorem w_t6 : (((((words1.drop 24).drop 24).drop 24).drop 24).drop 24).all (fun c => isCode c || c.before args0 about1) = true := by decide +kernel
theorem w_tables : (allAtoms (Jvm.Cond.code x code maxLocals ret :: tables_1)).before args0 about1 = true := by
  rw [allAtoms_all]
  show words1.all (fun c => c.before args0 about1) = true
  refine all_split ?_ w_codes
  rw [← List.take_append_drop 24 words1, List.all_append, w_t1, ← List.take_append_drop 24 (words1.drop 24), List.all_append, w_t2, ← List.take_append_drop 24 ((words1.drop 24).drop 24), List.all_append, w_t3, ← List.take_append_drop 24 (((words1.drop 24).drop 24).drop 24), List.all_append, w_t4, ← List.take_append_drop 24 ((((words1.drop 24).drop 24).drop 24).drop 24), List.all_append, w_t5, w_t6]
  rfl
set_option maxRecDepth 65536 in
theorem w_rest : rest_1_c.before args0 about1 = true := by decide +kernel
set_option maxRecDepth 65536 in
theorem w_case : (Jvm.Cond.and given_1 narrow_1).before args0 about1 = true := by decide +kernel
set_option maxRecDepth 65536 in
theorem w_consts : constsHeld consts_1 about1 := Jvm.Lit.constsHeldB_iff.mp (by decide +kernel)
theorem w_applies : (headSpec (Jvm.Cond.code x code maxLocals ret :: tables_1) room_1).applies x e0.platform about1 = true :=
  (Spec.applies_iff w_frames).mpr ⟨w_running, w_runnable, w_alone, w_named, w_hears, w_ripe, w_room, w_tables⟩
theorem atStart : AtStart classFile x code maxLocals ret World_1 tables_1 room_1 Calls_1 rest_1 Pre_1 launch0 p0 e0 about1 theMethod args0 below0 :=
  ⟨lists_1, trivial, launch0.admits_env _ _ _, launch0.least_env, fairChoices_fair.cas, fairChoices_fair.clock, w_frames, w_args, w_heap, w_applies, ⟨(by decide +kernel : framesKnown about1 = true), ⟨(by decide +kernel : tablesKnown about1 = true), ⟨w_consts, trivial⟩⟩⟩, w_rest, w_case⟩
end start1
theorem witness_1 : WitnessClaimed_1 := ⟨start1.p0, start1.e0, start1.about1, start1.theMethod, start1.args0, start1.below0, start1.atStart⟩
end Jvm.Pilot.@@N@@
