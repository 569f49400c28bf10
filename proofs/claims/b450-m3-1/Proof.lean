import JvmDerived
import JvmDerived.Pilot.@@N@@Statement
import JvmDerived.Pilot.@@N@@Code
set_option linter.unusedVariables false
set_option linter.unusedSimpArgs false
/- laws to paste: Road.backV, Road.eqW, Road.codOf (cut by pick.py; bodies as the Statement names them) -/
namespace Jvm.Pilot.@@N@@
namespace StrChars
open Jvm Sem ClassFile Op Lib Jvm.Stand Jvm.Free.XT Jvm.Free.ALB Jvm.Free.JM Jvm.Free
open Jvm.Lib.Cold (StaticIs)
/-- a char array whose places are chars -/
def Ch (a : Addr) (A : Cell) (U : State) : Prop := Arr .char a A U ∧ Typed .char A
theorem Ch.mv {a : Addr} {A : Cell} {U U' : State} (h : Ch a A U) (hal : U.vm.Alike U'.vm) (hh : U'.heap = U.heap) : Ch a A U' := ⟨h.1.mv hal hh, h.2⟩
theorem Ch.keep {a : Addr} {A : Cell} {U U' : State} (h : Ch a A U) (hal : U.vm.Alike U'.vm) (hk : U'.heap[a]? = some A) : Ch a A U' := ⟨h.1.keep hal hk, h.2⟩
/-- what place i of a char[]'s cell holds -/
def cv (A : Cell) (i : Nat) : Int32 := match A.slots[i]? with | some (.int x) => x | _ => 0
theorem Ch.get {a : Addr} {A : Cell} {U : State} (h : Ch a A U) {i : Nat} (hi : i < A.slots.size) : A.slots[i]? = some (.int (cv A i)) := by
  have e := Array.getElem?_eq_getElem hi
  have f := h.2 i _ e
  unfold cv; rw [e]
  generalize A.slots[i] = v at f
  cases v <;> simp [fits] at f ⊢
/-- the byte that i2b leaves of a char -/
def lo8 (x : Int32) : Int32 := x.toInt8.toInt32
theorem fits_lo8 (y : Int32) : fits .byte (.int (lo8 y)) = true := by
  have h1 := y.toInt8.le_toInt
  have h2 := y.toInt8.toInt_lt
  simp only [lo8, fits, Bool.and_eq_true, decide_eq_true_eq, Int32.le_iff_toInt_le, Int8.toInt_toInt32, show (-128 : Int32).toInt = -128 from by decide, show (127 : Int32).toInt = 127 from by decide]
  omega
/-- A' is A but that each place j of lo .. hi - 1 holds f j -/
def Laid (A A' : Cell) (lo hi : Nat) (f : Nat → Value) : Prop := A'.cls = A.cls ∧ A'.vm = A.vm ∧ A'.slots.size = A.slots.size ∧ ∀ i, A'.slots[i]? = if lo ≤ i ∧ i < hi then some (f i) else A.slots[i]?
theorem Laid.zero (A : Cell) (lo : Nat) (f : Nat → Value) : Laid A A lo (lo + 0) f := ⟨rfl, rfl, rfl, fun i => by rw [if_neg (by omega)]⟩
theorem Laid.step {A Ak : Cell} {lo k : Nat} {f : Nat → Value} {v : Value} (h : Laid A Ak lo k f) (hlo : lo ≤ k) (hk : k < Ak.slots.size) (hv : v = f k) : Laid A (Ak.setSlot k v) lo (k + 1) f := by
  refine ⟨h.1, h.2.1, by simpa [Cell.setSlot] using h.2.2.1, fun i => ?_⟩
  by_cases e : k = i
  · subst e; rw [Cell.slots_setSlot_self v hk, if_pos (by omega), hv]
  · rw [Cell.slots_setSlot_ne v e, h.2.2.2 i]
    by_cases q : lo ≤ i ∧ i < k
    · rw [if_pos q, if_pos (by omega)]
    · rw [if_neg q, if_neg (by omega)]
def U16 : String := "java/lang/StringUTF16"
namespace Cmp5
def yN : MethodName := ⟨"java/lang/StringUTF16", "compress", "([CI[BII)I"⟩
abbrev yB : ByteArray := jdk_52_method_21_code
theorem d0 : decode yB 0 = .ok (.iconst 0, 1) := by decide +kernel
theorem d1 : decode yB 1 = .ok (.istore 5, 2) := by decide +kernel
theorem d3 : decode yB 3 = .ok (.iload 5, 2) := by decide +kernel
theorem d5 : decode yB 5 = .ok (.iload 4, 2) := by decide +kernel
theorem d7 : decode yB 7 = .ok (.if_icmp (.ge) 37, 3) := by decide +kernel
theorem d10 : decode yB 10 = .ok (.aload_n 0, 1) := by decide +kernel
theorem d11 : decode yB 11 = .ok (.iload_n 1, 1) := by decide +kernel
theorem d12 : decode yB 12 = .ok (.caload, 1) := by decide +kernel
theorem d13 : decode yB 13 = .ok (.istore 6, 2) := by decide +kernel
theorem d15 : decode yB 15 = .ok (.iload 6, 2) := by decide +kernel
theorem d17 : decode yB 17 = .ok (.sipush 255, 3) := by decide +kernel
theorem d20 : decode yB 20 = .ok (.if_icmp (.le) 6, 3) := by decide +kernel
theorem d26 : decode yB 26 = .ok (.aload_n 2, 1) := by decide +kernel
theorem d27 : decode yB 27 = .ok (.iload_n 3, 1) := by decide +kernel
theorem d28 : decode yB 28 = .ok (.iload 6, 2) := by decide +kernel
theorem d30 : decode yB 30 = .ok (.i2b, 1) := by decide +kernel
theorem d31 : decode yB 31 = .ok (.bastore, 1) := by decide +kernel
theorem d32 : decode yB 32 = .ok (.iinc 1 1, 3) := by decide +kernel
theorem d35 : decode yB 35 = .ok (.iinc 3 1, 3) := by decide +kernel
theorem d38 : decode yB 38 = .ok (.iinc 5 1, 3) := by decide +kernel
theorem d41 : decode yB 41 = .ok (.goto (-38), 3) := by decide +kernel
theorem d44 : decode yB 44 = .ok (.iload 4, 2) := by decide +kernel
theorem d46 : decode yB 46 = .ok (.ireturn, 1) := by decide +kernel
def site : List Cond := []
def tab : Cond := tabOf yN yB 7 (some .int) site
def P (b : Addr) (A : Cell) (d : Addr) (B : Cell) (o q len : Nat) (args : Array Value) (s : State) : Prop := args = #[.ref b, .int (Int32.ofNat o), .ref d, .int (Int32.ofNat q), .int (Int32.ofNat len)] ∧ Ch b A s ∧ Arr .byte d B s ∧ b ≠ d ∧ o + len ≤ A.slots.size ∧ q + len ≤ B.slots.size ∧ ∀ i, i < len → ¬ 255 < cv A (o + i)
def E (b : Addr) (A : Cell) (d : Addr) (B : Cell) (o q len : Nat) (r : Option Value) (s u : State) : Prop := r = some (.int (Int32.ofNat len)) ∧ ∃ B', Put d B' s u ∧ Laid B B' q (q + len) (fun j => Value.int (lo8 (cv A (o + (j - q)))))
/-- no char of the range above 255: len; the places written hold each char's low byte -/
theorem law (l : Launch) (b : Addr) (A : Cell) (d : Addr) (B : Cell) (o q len : Nat) : Law l yN 5 5 0 0 yB 7 (some .int) site (P b A d B o q len) (E b A d B o q len) (copyLocs d q len) 0 0 := by
  refine Law.of_walk (plainFor_of_name (by decide +kernel)) (by decide +kernel) (by decide +kernel) (by decide) (fun _ _ h => by rw [h.1]; rfl) (fun _ U U' hal hh h => ⟨h.1, h.2.1.mv hal hh, h.2.2.1.mv hal hh, h.2.2.2⟩) (fun r U U' V V' h1 hal h2 h => ⟨h.1, h.2.elim fun B' q => ⟨B', q.1.mv h1 h2, q.2⟩⟩) ?_
  intro p e s m args below meth c s₁ X0 hexec hbytes hml hret hlk hnm hown hh0 W hP
  obtain ⟨rfl, hA, hB, hne, l1, l2, hp⟩ := hP
  have c1 : Steps p.tables e below (s₁.setTop (entryFrame m #[.ref b, .int (Int32.ofNat o), .ref d, .int (Int32.ofNat q), .int (Int32.ofNat len)] 7)) (s₁.setTop (mkF m 0 #[.val (.ref b), .val (.int (Int32.ofNat o)), .val (.ref d), .val (.int (Int32.ofNat q)), .val (.int (Int32.ofNat len)), .unset, .unset] [])) := entry rfl
  have hA0 := hA.1.mv X0.warmed.alike hh0
  have hB0 := hB.mv X0.warmed.alike hh0
  have a31 := hA.1.2.2.2
  have c2 : Steps p.tables e below (s₁.setTop (entryFrame m #[.ref b, .int (Int32.ofNat o), .ref d, .int (Int32.ofNat q), .int (Int32.ofNat len)] 7)) (s₁.setTop (mkF m 3 #[.val (.ref b), .val (.int (Int32.ofNat o)), .val (.ref d), .val (.int (Int32.ofNat q)), .val (.int (Int32.ofNat len)), .val (.int 0), .unset] [])) := c1.trans (by
    refine iconstV X0.here hexec rfl 0 (hb hbytes d0) (by decide) ?_
    refine XS.istore X0.here hexec rfl (hb hbytes d1) rfl rfl ?_
    exact Steps.refl _)
  have loop : ∀ (r i : Nat), i + r = len → ∀ (z : Slot), (z = .unset ∨ ∃ w, z = .val w ∧ w.category = 1) → ∀ (Tl : State) (Bk : Cell), Stand p l e { frames := 0, locals := 0, cells := 0, slots := 0 } s m #[.ref b, .int (Int32.ofNat o), .ref d, .int (Int32.ofNat q), .int (Int32.ofNat len)] below meth c Tl ([] ++ copyLocs d q i) 0 0 → Put d Bk s₁ Tl → Laid B Bk q (q + i) (fun j => Value.int (lo8 (cv A (o + (j - q))))) →
      Steps p.tables e below (s₁.setTop (entryFrame m #[.ref b, .int (Int32.ofNat o), .ref d, .int (Int32.ofNat q), .int (Int32.ofNat len)] 7)) (Tl.setTop (mkF m 3 #[.val (.ref b), .val (.int (Int32.ofNat (o + i))), .val (.ref d), .val (.int (Int32.ofNat (q + i))), .val (.int (Int32.ofNat len)), .val (.int (Int32.ofNat i)), z] [])) → ∃ (T' : State) (B' : Cell) (z' : Slot), Stand p l e { frames := 0, locals := 0, cells := 0, slots := 0 } s m #[.ref b, .int (Int32.ofNat o), .ref d, .int (Int32.ofNat q), .int (Int32.ofNat len)] below meth c T' ([] ++ copyLocs d q len) 0 0 ∧ Put d B' s₁ T' ∧ Laid B B' q (q + len) (fun j => Value.int (lo8 (cv A (o + (j - q))))) ∧
      Steps p.tables e below (s₁.setTop (entryFrame m #[.ref b, .int (Int32.ofNat o), .ref d, .int (Int32.ofNat q), .int (Int32.ofNat len)] 7)) (T'.setTop (mkF m 3 #[.val (.ref b), .val (.int (Int32.ofNat (o + len))), .val (.ref d), .val (.int (Int32.ofNat (q + len))), .val (.int (Int32.ofNat len)), .val (.int (Int32.ofNat len)), z'] [])) := by
    intro r
    induction r with
    | zero =>
      intro i hi z hz Tl Bk Xl pl fl cl
      have hil : i = len := by omega
      rw [hil] at Xl fl cl
      exact ⟨Tl, Bk, z, Xl, pl, fl, cl⟩
    | succ r ih =>
      intro i hi z hz Tl Bk Xl pl fl cl
      have all := X0.warmed.alike.symm.trans Xl.warmed.alike
      have hAl := hA0.keep all (pl.other hne hA0.1)
      have hBk := hB0.like all pl.1 fl.1 fl.2.1 fl.2.2.1
      have hlt : q + i < Bk.slots.size := by rw [fl.2.2.1]; omega
      have c3 : Steps p.tables e below (s₁.setTop (entryFrame m #[.ref b, .int (Int32.ofNat o), .ref d, .int (Int32.ofNat q), .int (Int32.ofNat len)] 7)) (Tl.setTop (mkF m 12 #[.val (.ref b), .val (.int (Int32.ofNat (o + i))), .val (.ref d), .val (.int (Int32.ofNat (q + i))), .val (.int (Int32.ofNat len)), .val (.int (Int32.ofNat i)), z] [.int (Int32.ofNat (o + i)), .ref b])) := cl.trans (by
        refine XS.iload Xl.here hexec rfl (hb hbytes d3) rfl ?_
        refine XS.iload Xl.here hexec rfl (hb hbytes d5) rfl ?_
        refine XS.icmpNo Xl.here hexec rfl (hb hbytes d7) rfl (ii_ge_f (lt32 (by omega) (by omega))) ?_
        refine XS.aloadN Xl.here hexec rfl (hb hbytes d10) rfl rfl ?_
        refine XS.iloadN Xl.here hexec rfl (hb hbytes d11) rfl ?_
        exact Steps.refl _)
      have c4 : Steps p.tables e below (s₁.setTop (entryFrame m #[.ref b, .int (Int32.ofNat o), .ref d, .int (Int32.ofNat q), .int (Int32.ofNat len)] 7)) (Tl.setTop (mkF m 13 #[.val (.ref b), .val (.int (Int32.ofNat (o + i))), .val (.ref d), .val (.int (Int32.ofNat (q + i))), .val (.int (Int32.ofNat len)), .val (.int (Int32.ofNat i)), z] [.int (cv A (o + i))])) := c3.trans (by
        refine Xl.aget hexec hAl rfl (hA.get (i := o + i) (by omega)) rfl rfl (hb hbytes d12) ?_
        exact Steps.refl _)
      have c5 : Steps p.tables e below (s₁.setTop (entryFrame m #[.ref b, .int (Int32.ofNat o), .ref d, .int (Int32.ofNat q), .int (Int32.ofNat len)] 7)) (Tl.setTop (mkF m 15 #[.val (.ref b), .val (.int (Int32.ofNat (o + i))), .val (.ref d), .val (.int (Int32.ofNat (q + i))), .val (.int (Int32.ofNat len)), .val (.int (Int32.ofNat i)), .val (.int (cv A (o + i)))] [])) := c4.trans (by
        refine XS.istoreS Xl.here hexec rfl (hb hbytes d13) rfl rfl hz ?_
        exact Steps.refl _)
      have c6 : Steps p.tables e below (s₁.setTop (entryFrame m #[.ref b, .int (Int32.ofNat o), .ref d, .int (Int32.ofNat q), .int (Int32.ofNat len)] 7)) (Tl.setTop (mkF m 31 #[.val (.ref b), .val (.int (Int32.ofNat (o + i))), .val (.ref d), .val (.int (Int32.ofNat (q + i))), .val (.int (Int32.ofNat len)), .val (.int (Int32.ofNat i)), .val (.int (cv A (o + i)))] [.int (lo8 (cv A (o + i))), .int (Int32.ofNat (q + i)), .ref d])) := c5.trans (by
        refine XS.iload Xl.here hexec rfl (hb hbytes d15) rfl ?_
        refine sipushV Xl.here hexec rfl 255 (hb hbytes d17) (by decide) ?_
        refine XS.icmpYes Xl.here hexec rfl (pc0 := 20) rfl (hb hbytes d20) rfl (ii_le_t (hp i (by omega))) (by decide) rfl ?_
        refine XS.aloadN Xl.here hexec rfl (hb hbytes d26) rfl rfl ?_
        refine XS.iloadN Xl.here hexec rfl (hb hbytes d27) rfl ?_
        refine XS.iload Xl.here hexec rfl (hb hbytes d28) rfl ?_
        refine i2b Xl.here hexec rfl (hb hbytes d30) rfl ?_
        exact Steps.refl _)
      obtain ⟨T7, X7, p7, st7⟩ := Xl.aput hexec hBk rfl hlt rfl (fits_lo8 (cv A (o + i))) (g := (mkF m 31 #[.val (.ref b), .val (.int (Int32.ofNat (o + i))), .val (.ref d), .val (.int (Int32.ofNat (q + i))), .val (.int (Int32.ofNat len)), .val (.int (Int32.ofNat i)), .val (.int (cv A (o + i)))] [.int (lo8 (cv A (o + i))), .int (Int32.ofNat (q + i)), .ref d])) rfl (rest := []) rfl (hb hbytes d31)
      have c8 : Steps p.tables e below (s₁.setTop (entryFrame m #[.ref b, .int (Int32.ofNat o), .ref d, .int (Int32.ofNat q), .int (Int32.ofNat len)] 7)) (T7.setTop (mkF m 32 #[.val (.ref b), .val (.int (Int32.ofNat (o + i))), .val (.ref d), .val (.int (Int32.ofNat (q + i))), .val (.int (Int32.ofNat len)), .val (.int (Int32.ofNat i)), .val (.int (cv A (o + i)))] [])) := c6.trans (st7 _ (Steps.refl _))
      have c9 : Steps p.tables e below (s₁.setTop (entryFrame m #[.ref b, .int (Int32.ofNat o), .ref d, .int (Int32.ofNat q), .int (Int32.ofNat len)] 7)) (T7.setTop (mkF m 3 #[.val (.ref b), .val (.int (Int32.ofNat (o + i) + 1)), .val (.ref d), .val (.int (Int32.ofNat (q + i) + 1)), .val (.int (Int32.ofNat len)), .val (.int (Int32.ofNat i + 1)), .val (.int (cv A (o + i)))] [])) := c8.trans (by
        refine iincV X7.here hexec rfl 1 (hb hbytes d32) (by decide) rfl rfl ?_
        refine iincV X7.here hexec rfl 1 (hb hbytes d35) (by decide) rfl rfl ?_
        refine iincV X7.here hexec rfl 1 (hb hbytes d38) (by decide) rfl rfl ?_
        refine XS.goto X7.here hexec rfl (pc0 := 41) rfl (hb hbytes d41) (by decide) rfl ?_
        exact Steps.refl _)
      have c10 : Steps p.tables e below (s₁.setTop (entryFrame m #[.ref b, .int (Int32.ofNat o), .ref d, .int (Int32.ofNat q), .int (Int32.ofNat len)] 7)) (T7.setTop (mkF m 3 #[.val (.ref b), .val (.int (Int32.ofNat (o + (i + 1)))), .val (.ref d), .val (.int (Int32.ofNat (q + (i + 1)))), .val (.int (Int32.ofNat len)), .val (.int (Int32.ofNat (i + 1))), .val (.int (cv A (o + i)))] [])) := by
        have := c9
        rw [succ32, succ32, succ32] at this
        exact this
      exact ih (i + 1) (by omega) _ (Or.inr ⟨_, rfl, rfl⟩) T7 _ (by rw [copyLocs_step, ← List.append_assoc]; exact X7) (pl.trans p7) (fl.step (by omega) hlt (by simp)) c10
  obtain ⟨T9, B9, z9, X9, p9, f9, g9⟩ := loop len 0 (by omega) .unset (Or.inl rfl) s₁ B (by simpa [copyLocs] using X0) ⟨hB0.1, fun _ _ => rfl, rfl⟩ (Laid.zero _ _ _) c2
  have c11 : Steps p.tables e below (s₁.setTop (entryFrame m #[.ref b, .int (Int32.ofNat o), .ref d, .int (Int32.ofNat q), .int (Int32.ofNat len)] 7)) (T9.setTop (mkF m 46 #[.val (.ref b), .val (.int (Int32.ofNat (o + len))), .val (.ref d), .val (.int (Int32.ofNat (q + len))), .val (.int (Int32.ofNat len)), .val (.int (Int32.ofNat len)), z9] [.int (Int32.ofNat len)])) := g9.trans (by
    refine XS.iload X9.here hexec rfl (hb hbytes d3) rfl ?_
    refine XS.iload X9.here hexec rfl (hb hbytes d5) rfl ?_
    refine XS.icmpYes X9.here hexec rfl (pc0 := 7) rfl (hb hbytes d7) rfl (ii_ge_t (nlt32 (by omega) (Nat.le_refl _))) (by decide) rfl ?_
    refine XS.iload X9.here hexec rfl (hb hbytes d44) rfl ?_
    exact Steps.refl _)
  exact ⟨T9, some (.int (Int32.ofNat len)), _, _, _, X9, by simp, rfl, rfl, (fun h => by cases h), ⟨rfl, B9, p9.from hh0, f9⟩, fun fs hl => c11.trans (X9.ireturnOut hexec hret rfl (Or.inl rfl) (hb hbytes d46) hl)⟩
end Cmp5
namespace Cmp3
def yN : MethodName := ⟨"java/lang/StringUTF16", "compress", "([CII)[B"⟩
abbrev yB : ByteArray := jdk_52_method_16_code
theorem d0 : decode yB 0 = .ok (.iload_n 2, 1) := by decide +kernel
theorem d1 : decode yB 1 = .ok (.newarray .byte, 2) := by decide +kernel
theorem d3 : decode yB 3 = .ok (.astore_n 3, 1) := by decide +kernel
theorem d4 : decode yB 4 = .ok (.aload_n 0, 1) := by decide +kernel
theorem d5 : decode yB 5 = .ok (.iload_n 1, 1) := by decide +kernel
theorem d6 : decode yB 6 = .ok (.aload_n 3, 1) := by decide +kernel
theorem d7 : decode yB 7 = .ok (.iconst 0, 1) := by decide +kernel
theorem d8 : decode yB 8 = .ok (.iload_n 2, 1) := by decide +kernel
theorem d9 : decode yB 9 = .ok (.invokestatic 115, 3) := by decide +kernel
theorem d12 : decode yB 12 = .ok (.istore 4, 2) := by decide +kernel
theorem d14 : decode yB 14 = .ok (.iload 4, 2) := by decide +kernel
theorem d16 : decode yB 16 = .ok (.iload_n 2, 1) := by decide +kernel
theorem d17 : decode yB 17 = .ok (.if_icmp (.eq) 40, 3) := by decide +kernel
theorem d57 : decode yB 57 = .ok (.aload_n 3, 1) := by decide +kernel
theorem d58 : decode yB 58 = .ok (.areturn, 1) := by decide +kernel
def site : List Cond := [.arrayClass .byte, Cmp5.tab] ++ staticW U16 115 Cmp5.yN
def tab : Cond := tabOf yN yB 6 (some (.array .byte)) site
def P (b : Addr) (A : Cell) (o len : Nat) (args : Array Value) (s : State) : Prop := args = #[.ref b, .int (Int32.ofNat o), .int (Int32.ofNat len)] ∧ Ch b A s ∧ o + len ≤ A.slots.size ∧ len ≤ 536870912 ∧ ∀ i, i < len → ¬ 255 < cv A (o + i)
def E (b : Addr) (A : Cell) (o len : Nat) (r : Option Value) (s u : State) : Prop := NewArr .byte "[B" len (fun j => .int (lo8 (cv A (o + j)))) r s u ∧ u.heap.size = s.heap.size + 1
/-- no char of the range above 255: a new byte[] of their low bytes -/
theorem law (l : Launch) (b : Addr) (A : Cell) (o len : Nat) : Law l yN 3 3 1 18 yB 6 (some (.array .byte)) site (P b A o len) (E b A o len) [] 1 len := by
  refine Law.of_walk (plainFor_of_name (by decide +kernel)) (by decide +kernel) (by decide +kernel) (by decide) (fun _ _ h => by rw [h.1]; rfl) (fun _ U U' hal hh h => ⟨h.1, h.2.1.mv hal hh, h.2.2⟩) (fun r U U' V V' h1 hal h2 h => ⟨NewArr.mv r U U' V V' h1 hal h2 h.1, by rw [h1, h2]; exact h.2⟩) ?_
  intro p e s m args below meth c s₁ X0 hexec hbytes hml hret hlk hnm hown hh0 W hP
  obtain ⟨rfl, hA, l1, l2, hp⟩ := hP
  have a31 := hA.1.2.2.2
  have c1 : Steps p.tables e below (s₁.setTop (entryFrame m #[.ref b, .int (Int32.ofNat o), .int (Int32.ofNat len)] 6)) (s₁.setTop (mkF m 0 #[.val (.ref b), .val (.int (Int32.ofNat o)), .val (.int (Int32.ofNat len)), .unset, .unset, .unset] [])) := entry rfl
  have c2 : Steps p.tables e below (s₁.setTop (entryFrame m #[.ref b, .int (Int32.ofNat o), .int (Int32.ofNat len)] 6)) (s₁.setTop (mkF m 1 #[.val (.ref b), .val (.int (Int32.ofNat o)), .val (.int (Int32.ofNat len)), .unset, .unset, .unset] [.int (Int32.ofNat len)])) := c1.trans (by
    refine XS.iloadN X0.here hexec rfl (hb hbytes d0) rfl ?_
    exact Steps.refl _)
  obtain ⟨T3, B3, X3, ba3, bs3, bv3, bh3, bf3, st3⟩ := X0.anew hexec (atype := .byte) (wk W (.arrayClass .byte)) rfl (by show len * 1 ≤ _; omega) (by omega) (g := (mkF m 1 #[.val (.ref b), .val (.int (Int32.ofNat o)), .val (.int (Int32.ofNat len)), .unset, .unset, .unset] [.int (Int32.ofNat len)])) rfl (hb hbytes d1) (rest := []) rfl (Nat.le_refl _) (by show 0 + len ≤ len; omega)
  rw [hh0] at ba3 st3
  have kp3 : XT.Kept s T3 := (XT.Kept.of_eq hh0).push bh3
  have hA3 := hA.keep X3.warmed.alike (kp3 _ _ hA.1.1)
  have hne : b ≠ s.heap.size := hA.1.ne
  have c4 : Steps p.tables e below (s₁.setTop (entryFrame m #[.ref b, .int (Int32.ofNat o), .int (Int32.ofNat len)] 6)) (T3.setTop (mkF m 3 #[.val (.ref b), .val (.int (Int32.ofNat o)), .val (.int (Int32.ofNat len)), .unset, .unset, .unset] [.ref s.heap.size])) := c2.trans (st3 _ (Steps.refl _))
  have c5 : Steps p.tables e below (s₁.setTop (entryFrame m #[.ref b, .int (Int32.ofNat o), .int (Int32.ofNat len)] 6)) (T3.setTop (mkF m 9 #[.val (.ref b), .val (.int (Int32.ofNat o)), .val (.int (Int32.ofNat len)), .val (.ref s.heap.size), .unset, .unset] [.int (Int32.ofNat len), .int 0, .ref s.heap.size, .int (Int32.ofNat o), .ref b])) := c4.trans (by
    refine XS.astoreN X3.here hexec rfl (hb hbytes d3) rfl rfl rfl ?_
    refine XS.aloadN X3.here hexec rfl (hb hbytes d4) rfl rfl ?_
    refine XS.iloadN X3.here hexec rfl (hb hbytes d5) rfl ?_
    refine XS.aloadN X3.here hexec rfl (hb hbytes d6) rfl rfl ?_
    refine iconstV X3.here hexec rfl 0 (hb hbytes d7) (by decide) ?_
    refine XS.iloadN X3.here hexec rfl (hb hbytes d8) rfl ?_
    exact Steps.refl _)
  obtain ⟨v6, T6, X6, E6, g6⟩ := X3.callS hexec (Cmp5.law l b A s.heap.size B3 o 0 len) hown (wks W (staticW U16 115 Cmp5.yN)) (wk W Cmp5.tab) (W := 0) (Nat.le_of_ble_eq_true rfl) (Nat.le_of_ble_eq_true rfl) (Nat.le_refl _) (by show 0 + len + 0 ≤ len; omega) (g := (mkF m 9 #[.val (.ref b), .val (.int (Int32.ofNat o)), .val (.int (Int32.ofNat len)), .val (.ref s.heap.size), .unset, .unset] [.int (Int32.ofNat len), .int (Int32.ofNat 0), .ref s.heap.size, .int (Int32.ofNat o), .ref b])) rfl (by rw [hml]; rfl) c5 (argsL := [.ref b, .int (Int32.ofNat o), .ref s.heap.size, .int (Int32.ofNat 0), .int (Int32.ofNat len)]) (rest := []) rfl rfl (by show 2 * 0 + 0 ≤ _; decide) (hb hbytes d9) (⟨rfl, hA3, ba3, hne, l1, by rw [bs3]; simp, hp⟩)
  obtain ⟨rfl, B6, p6, f6⟩ := E6
  have c7 : Steps p.tables e below (s₁.setTop (entryFrame m #[.ref b, .int (Int32.ofNat o), .int (Int32.ofNat len)] 6)) (T6.setTop (mkF m 12 #[.val (.ref b), .val (.int (Int32.ofNat o)), .val (.int (Int32.ofNat len)), .val (.ref s.heap.size), .unset, .unset] [.int (Int32.ofNat len)])) := g6
  have c8 : Steps p.tables e below (s₁.setTop (entryFrame m #[.ref b, .int (Int32.ofNat o), .int (Int32.ofNat len)] 6)) (T6.setTop (mkF m 58 #[.val (.ref b), .val (.int (Int32.ofNat o)), .val (.int (Int32.ofNat len)), .val (.ref s.heap.size), .val (.int (Int32.ofNat len)), .unset] [.ref s.heap.size])) := c7.trans (by
    refine XS.istore X6.here hexec rfl (hb hbytes d12) rfl rfl ?_
    refine XS.iload X6.here hexec rfl (hb hbytes d14) rfl ?_
    refine XS.iloadN X6.here hexec rfl (hb hbytes d16) rfl ?_
    refine XS.icmpYes X6.here hexec rfl (pc0 := 17) rfl (hb hbytes d17) rfl (ii_eq_t rfl) (by decide) rfl ?_
    refine XS.aloadN X6.here hexec rfl (hb hbytes d57) rfl rfl ?_
    exact Steps.refl _)
  have X8 := X6.wide (L' := []) (cells' := 1) (slots' := len) (fun x hx hlt => by
    simp only [List.nil_append, copyLocs, List.mem_map, List.mem_range] at hx
    obtain ⟨i, -, rfl⟩ := hx
    exact absurd hlt (Nat.lt_irrefl _)) (Nat.le_refl _) (by omega)
  exact ⟨T6, some (.ref s.heap.size), _, _, _, X8, rfl, rfl, rfl, (fun h => by cases h), ⟨⟨rfl, B6, ba3.like (X3.warmed.alike.symm.trans X6.warmed.alike) p6.1 f6.1 f6.2.1 f6.2.2.1, f6.2.1.trans bv3, by rw [X6.warmed.alike.findClass, f6.1]; exact bf3, by rw [f6.2.2.1, bs3]; simp, fun j hj => by rw [f6.2.2.2 j, if_pos (by omega)]; rfl, kp3.put p6 (Nat.le_refl _)⟩, by rw [p6.2.2, bh3, hh0]; simp⟩, fun fs hl => c8.trans (X8.areturnOut hexec rfl hret rfl (hb hbytes d58) hl)⟩
end Cmp3
namespace CodL
def yN : MethodName := ⟨"java/lang/StringUTF16", "coderFromArrayLen", "([BI)B"⟩
abbrev yB : ByteArray := jdk_52_method_15_code
theorem d0 : decode yB 0 = .ok (.iload_n 1, 1) := by decide +kernel
theorem d1 : decode yB 1 = .ok (.aload_n 0, 1) := by decide +kernel
theorem d2 : decode yB 2 = .ok (.arraylength, 1) := by decide +kernel
theorem d3 : decode yB 3 = .ok (.isub, 1) := by decide +kernel
theorem d4 : decode yB 4 = .ok (.bipush 31, 2) := by decide +kernel
theorem d6 : decode yB 6 = .ok (.iushr, 1) := by decide +kernel
theorem d7 : decode yB 7 = .ok (.i2b, 1) := by decide +kernel
theorem d8 : decode yB 8 = .ok (.ireturn, 1) := by decide +kernel
def site : List Cond := []
def tab : Cond := tabOf yN yB 2 (some .byte) site
def P (d : Addr) (B : Cell) (args : Array Value) (s : State) : Prop := args = #[.ref d, .int (Int32.ofNat B.slots.size)] ∧ Arr .byte d B s
def E (r : Option Value) (s u : State) : Prop := XT.PureE (some (.int 0)) r s u
/-- an array as long as the number of chars: LATIN1 -/
theorem law (l : Launch) (d : Addr) (B : Cell) : Law l yN 2 2 0 0 yB 2 (some .byte) site (P d B) E [] 0 0 := by
  refine Law.of_walk (plainFor_of_name (by decide +kernel)) (by decide +kernel) (by decide +kernel) (by decide) (fun _ _ h => by rw [h.1]; rfl) (fun _ U U' hal hh h => ⟨h.1, h.2.mv hal hh⟩) (fun r U U' V V' h1 hal h2 h => XT.PureE.mv r U U' V V' h1 hal h2 h) ?_
  intro p e s m args below meth c s₁ X0 hexec hbytes hml hret hlk hnm hown hh0 W hP
  obtain ⟨rfl, hB⟩ := hP
  have hB0 := hB.mv X0.warmed.alike hh0
  have c1 : Steps p.tables e below (s₁.setTop (entryFrame m #[.ref d, .int (Int32.ofNat B.slots.size)] 2)) (s₁.setTop (mkF m 0 #[.val (.ref d), .val (.int (Int32.ofNat B.slots.size))] [])) := entry rfl
  have c2 : Steps p.tables e below (s₁.setTop (entryFrame m #[.ref d, .int (Int32.ofNat B.slots.size)] 2)) (s₁.setTop (mkF m 2 #[.val (.ref d), .val (.int (Int32.ofNat B.slots.size))] [.ref d, .int (Int32.ofNat B.slots.size)])) := c1.trans (by
    refine XS.iloadN X0.here hexec rfl (hb hbytes d0) rfl ?_
    refine XS.aloadN X0.here hexec rfl (hb hbytes d1) rfl rfl ?_
    exact Steps.refl _)
  have c3 : Steps p.tables e below (s₁.setTop (entryFrame m #[.ref d, .int (Int32.ofNat B.slots.size)] 2)) (s₁.setTop (mkF m 8 #[.val (.ref d), .val (.int (Int32.ofNat B.slots.size))] [.int (lo8 (ushr (Int32.ofNat B.slots.size - Int32.ofNat B.slots.size) 31))])) := c2.trans (by
    refine X0.alen hexec hB0 rfl rfl (hb hbytes d2) ?_
    refine XS.isub X0.here hexec rfl (hb hbytes d3) rfl ?_
    refine bipushV X0.here hexec rfl 31 (hb hbytes d4) (by decide) ?_
    refine iushr X0.here hexec rfl (hb hbytes d6) rfl ?_
    refine i2b X0.here hexec rfl (hb hbytes d7) rfl ?_
    exact Steps.refl _)
  have e0 : lo8 (ushr (Int32.ofNat B.slots.size - Int32.ofNat B.slots.size) 31) = 0 := by rw [Int32.sub_self]; decide
  rw [e0] at c3
  exact ⟨s₁, some (.int 0), _, _, _, X0, rfl, rfl, rfl, (fun h => by cases h), ⟨rfl, hh0⟩, fun fs hl => c3.trans (X0.ireturnOut hexec hret rfl (Or.inr (Or.inr (Or.inl rfl))) (hb hbytes d8) hl)⟩
end CodL
/-- the String at a is Latin-1 over a new byte[] (the heap's one new cell): the low bytes of the len chars of A from o on; every cell but a is kept -/
def Got (a : Addr) (D : Cell) (fV fC : Field) (A : Cell) (o len : Nat) (r : Option Value) (s u : State) : Prop := r = none ∧ ∃ D' V : Cell, Blank "java/lang/String" a D' u ∧ Same D D' [fV.slot, fC.slot] ∧ D'.slots[fV.slot]? = some (.ref s.heap.size) ∧ D'.slots[fC.slot]? = some (.int 0) ∧ Arr .byte s.heap.size V u ∧ V.vm = .none ∧ u.vm.findClass "[B" = some V.cls ∧ V.slots.size = len ∧ (∀ j, j < len → V.slots[j]? = some (.int (lo8 (cv A (o + j))))) ∧ (∀ (y : Addr) (c : Cell), y ≠ a → s.heap[y]? = some c → u.heap[y]? = some c) ∧ u.heap.size = s.heap.size + 1
theorem Got.mv {a : Addr} {D A : Cell} {fV fC : Field} {o len : Nat} : ∀ r (U U' V V' : State), U'.heap = U.heap → V.vm.Alike V'.vm → V'.heap = V.heap → Got a D fV fC A o len r U V → Got a D fV fC A o len r U' V' :=
  fun r U U' V V' h1 hal h2 ⟨e0, D', X, a1, a2, a3, a4, a5, a6, a7, a8, a9, a10, a11⟩ => ⟨e0, D', X, a1.mv hal h2, a2, by rw [h1]; exact a3, a4, by rw [h1]; exact a5.mv hal h2, a6, by rw [hal.findClass]; exact a7, a8, a9, by rw [h1, h2]; exact a10, by rw [h1, h2]; exact a11⟩
namespace New4
def yN : MethodName := ⟨"java/lang/String", "<init>", "([CIILjava/lang/Void;)V"⟩
abbrev yB : ByteArray := jdk_42_method_149_code
theorem d0 : decode yB 0 = .ok (.aload_n 0, 1) := by decide +kernel
theorem d1 : decode yB 1 = .ok (.invokespecial 1, 3) := by decide +kernel
theorem d4 : decode yB 4 = .ok (.iload_n 3, 1) := by decide +kernel
theorem d5 : decode yB 5 = .ok (.ifCond (.ne) 22, 3) := by decide +kernel
theorem d27 : decode yB 27 = .ok (.getstatic 38, 3) := by decide +kernel
theorem d30 : decode yB 30 = .ok (.ifCond (.eq) 28, 3) := by decide +kernel
theorem d33 : decode yB 33 = .ok (.aload_n 1, 1) := by decide +kernel
theorem d34 : decode yB 34 = .ok (.iload_n 2, 1) := by decide +kernel
theorem d35 : decode yB 35 = .ok (.iload_n 3, 1) := by decide +kernel
theorem d36 : decode yB 36 = .ok (.invokestatic 177, 3) := by decide +kernel
theorem d39 : decode yB 39 = .ok (.astore 5, 2) := by decide +kernel
theorem d41 : decode yB 41 = .ok (.aload_n 0, 1) := by decide +kernel
theorem d42 : decode yB 42 = .ok (.aload 5, 2) := by decide +kernel
theorem d44 : decode yB 44 = .ok (.iload_n 3, 1) := by decide +kernel
theorem d45 : decode yB 45 = .ok (.invokestatic 47, 3) := by decide +kernel
theorem d48 : decode yB 48 = .ok (.putfield 15, 3) := by decide +kernel
theorem d51 : decode yB 51 = .ok (.aload_n 0, 1) := by decide +kernel
theorem d52 : decode yB 52 = .ok (.aload 5, 2) := by decide +kernel
theorem d54 : decode yB 54 = .ok (.putfield 9, 3) := by decide +kernel
theorem d57 : decode yB 57 = .ok (.return_, 1) := by decide +kernel
def site : List Cond := [.fieldLink "java/lang/String" 38 "java/lang/String" "COMPACT_STRINGS" "Z", Cmp3.tab, CodL.tab, .laysFinal "java/lang/String" "java/lang/String" "value" "[B", .fieldLink "java/lang/String" 9 "java/lang/String" "value" "[B", .laysFinal "java/lang/String" "java/lang/String" "coder" "B", .fieldLink "java/lang/String" 15 "java/lang/String" "coder" "B"] ++ objW "java/lang/String" 1 ++ staticW "java/lang/String" 177 Cmp3.yN ++ staticW "java/lang/String" 47 CodL.yN
def tab : Cond := tabOf yN yB 6 none site
def P (a : Addr) (D : Cell) (fV fC : Field) (b : Addr) (A : Cell) (z : Int32) (o len : Nat) (args : Array Value) (s : State) : Prop := args = #[.ref a, .ref b, .int (Int32.ofNat o), .int (Int32.ofNat len), .null] ∧ Blank "java/lang/String" a D s ∧ Found "java/lang/String" "value" "[B" fV s ∧ Found "java/lang/String" "coder" "B" fC s ∧ Ch b A s ∧ StaticIs s "java/lang/String" "COMPACT_STRINGS" "Z" (.int z) ∧ ¬ z = 0 ∧ 0 < len ∧ o + len ≤ A.slots.size ∧ len ≤ 536870912 ∧ ∀ i, i < len → ¬ 255 < cv A (o + i)
def E (a : Addr) (D : Cell) (fV fC : Field) (A : Cell) (o len : Nat) (r : Option Value) (s u : State) : Prop := Got a D fV fC A o len r s u
/-- len > 0, no char of the range above 255: a Latin-1 String of their low bytes -/
theorem law (l : Launch) (a : Addr) (D : Cell) (fV fC : Field) (b : Addr) (A : Cell) (z : Int32) (o len : Nat) : Law l yN 5 4 2 35 yB 6 none site (P a D fV fC b A z o len) (E a D fV fC A o len) [⟨a, fC.slot⟩, ⟨a, fV.slot⟩] 1 len := by
  refine Law.of_walk (plainFor_of_name (by decide +kernel)) (by decide +kernel) (by decide +kernel) (by decide) (fun _ _ h => by rw [h.1]; rfl) (fun _ U U' hal hh h => ⟨h.1, h.2.1.mv hal hh, h.2.2.1.al hal, h.2.2.2.1.al hal, h.2.2.2.2.1.mv hal hh, h.2.2.2.2.2.1.there hal hh, h.2.2.2.2.2.2⟩) (fun r U U' V V' h1 hal h2 h => Got.mv r U U' V V' h1 hal h2 h) ?_
  intro p e s m args below meth c s₁ X0 hexec hbytes hml hret hlk hnm hown hh0 W hP
  obtain ⟨rfl, hB, f1, f2, hA, s1, hz, l0, l1, l2, hp⟩ := hP
  have a31 := hA.1.2.2.2
  have c1 : Steps p.tables e below (s₁.setTop (entryFrame m #[.ref a, .ref b, .int (Int32.ofNat o), .int (Int32.ofNat len), .null] 6)) (s₁.setTop (mkF m 0 #[.val (.ref a), .val (.ref b), .val (.int (Int32.ofNat o)), .val (.int (Int32.ofNat len)), .val .null, .unset] [])) := entry rfl
  have c2 : Steps p.tables e below (s₁.setTop (entryFrame m #[.ref a, .ref b, .int (Int32.ofNat o), .int (Int32.ofNat len), .null] 6)) (s₁.setTop (mkF m 1 #[.val (.ref a), .val (.ref b), .val (.int (Int32.ofNat o)), .val (.int (Int32.ofNat len)), .val .null, .unset] [.ref a])) := c1.trans (by
    refine XS.aloadN X0.here hexec rfl (hb hbytes d0) rfl rfl ?_
    exact Steps.refl _)
  obtain ⟨T3, X3, q3, st3⟩ := X0.oinit hexec hown (wks W (objW "java/lang/String" 1)) (g := (mkF m 1 #[.val (.ref a), .val (.ref b), .val (.int (Int32.ofNat o)), .val (.int (Int32.ofNat len)), .val .null, .unset] [.ref a])) rfl (by rw [hml]; rfl) (rest := []) rfl (hb hbytes d1) (W := 0) (by show 2 * 0 + 0 ≤ _; decide) (Nat.le_of_ble_eq_true rfl) (Nat.le_of_ble_eq_true rfl)
  have hh3 := q3.trans hh0
  have c4 : Steps p.tables e below (s₁.setTop (entryFrame m #[.ref a, .ref b, .int (Int32.ofNat o), .int (Int32.ofNat len), .null] 6)) (T3.setTop (mkF m 27 #[.val (.ref a), .val (.ref b), .val (.int (Int32.ofNat o)), .val (.int (Int32.ofNat len)), .val .null, .unset] [])) := (c2.trans (st3 _ (Steps.refl _))).trans (by
    refine XS.iloadN X3.here hexec rfl (hb hbytes d4) rfl ?_
    refine XS.ifYes X3.here hexec rfl (pc0 := 5) rfl (hb hbytes d5) rfl (i0_ne_t (nz32 (by omega) l0)) (by decide) rfl ?_
    exact Steps.refl _)
  obtain ⟨T5, X5, q5, st5⟩ := X3.sget hexec hown (wk W (.fieldLink "java/lang/String" 38 "java/lang/String" "COMPACT_STRINGS" "Z")) s1 (fun _ _ h => by rw [hh3]; exact h) (g := (mkF m 27 #[.val (.ref a), .val (.ref b), .val (.int (Int32.ofNat o)), .val (.int (Int32.ofNat len)), .val .null, .unset] [])) rfl (hb hbytes d27)
  have hh5 := q5.trans hh3
  have c6 : Steps p.tables e below (s₁.setTop (entryFrame m #[.ref a, .ref b, .int (Int32.ofNat o), .int (Int32.ofNat len), .null] 6)) (T5.setTop (mkF m 30 #[.val (.ref a), .val (.ref b), .val (.int (Int32.ofNat o)), .val (.int (Int32.ofNat len)), .val .null, .unset] [.int z])) := c4.trans (st5 _ (Steps.refl _))
  have c7 : Steps p.tables e below (s₁.setTop (entryFrame m #[.ref a, .ref b, .int (Int32.ofNat o), .int (Int32.ofNat len), .null] 6)) (T5.setTop (mkF m 36 #[.val (.ref a), .val (.ref b), .val (.int (Int32.ofNat o)), .val (.int (Int32.ofNat len)), .val .null, .unset] [.int (Int32.ofNat len), .int (Int32.ofNat o), .ref b])) := c6.trans (by
    refine XS.ifNo X5.here hexec rfl (hb hbytes d30) rfl (i0_eq_f hz) ?_
    refine XS.aloadN X5.here hexec rfl (hb hbytes d33) rfl rfl ?_
    refine XS.iloadN X5.here hexec rfl (hb hbytes d34) rfl ?_
    refine XS.iloadN X5.here hexec rfl (hb hbytes d35) rfl ?_
    exact Steps.refl _)
  obtain ⟨v8, T8, X8, E8, g8⟩ := X5.callS hexec (Cmp3.law l b A o len) hown (wks W (staticW "java/lang/String" 177 Cmp3.yN)) (wk W Cmp3.tab) (W := 0) (Nat.le_of_ble_eq_true rfl) (Nat.le_of_ble_eq_true rfl) (Nat.le_refl _) (by show 0 + len ≤ len; omega) (g := (mkF m 36 #[.val (.ref a), .val (.ref b), .val (.int (Int32.ofNat o)), .val (.int (Int32.ofNat len)), .val .null, .unset] [.int (Int32.ofNat len), .int (Int32.ofNat o), .ref b])) rfl (by rw [hml]; rfl) c7 (argsL := [.ref b, .int (Int32.ofNat o), .int (Int32.ofNat len)]) (rest := []) rfl rfl (by show 2 * 0 + 0 ≤ _; decide) (hb hbytes d36) (⟨rfl, hA.mv X5.warmed.alike hh5, l1, l2, hp⟩)
  obtain ⟨e8, z8⟩ := E8
  obtain ⟨rfl, N, n1, n2, n3, n4, n5, n6⟩ := NewArr.mv _ T5 s _ _ hh5.symm (Vm.Alike.refl _) rfl e8
  rw [hh5] at z8
  have hB1 := hB.keep X8.warmed.alike (n6 _ _ hB.1)
  have hne : s.heap.size ≠ a := (Nat.ne_of_lt (Array.getElem?_eq_some_iff.mp hB.1).1).symm
  have c9 : Steps p.tables e below (s₁.setTop (entryFrame m #[.ref a, .ref b, .int (Int32.ofNat o), .int (Int32.ofNat len), .null] 6)) (T8.setTop (mkF m 39 #[.val (.ref a), .val (.ref b), .val (.int (Int32.ofNat o)), .val (.int (Int32.ofNat len)), .val .null, .unset] [.ref s.heap.size])) := g8
  have c10 : Steps p.tables e below (s₁.setTop (entryFrame m #[.ref a, .ref b, .int (Int32.ofNat o), .int (Int32.ofNat len), .null] 6)) (T8.setTop (mkF m 45 #[.val (.ref a), .val (.ref b), .val (.int (Int32.ofNat o)), .val (.int (Int32.ofNat len)), .val .null, .val (.ref s.heap.size)] [.int (Int32.ofNat N.slots.size), .ref s.heap.size, .ref a])) := by
    have hc : Steps p.tables e below (s₁.setTop (entryFrame m #[.ref a, .ref b, .int (Int32.ofNat o), .int (Int32.ofNat len), .null] 6)) (T8.setTop (mkF m 45 #[.val (.ref a), .val (.ref b), .val (.int (Int32.ofNat o)), .val (.int (Int32.ofNat len)), .val .null, .val (.ref s.heap.size)] [.int (Int32.ofNat len), .ref s.heap.size, .ref a])) := c9.trans (by
      refine XS.astore X8.here hexec rfl (hb hbytes d39) rfl rfl rfl ?_
      refine XS.aloadN X8.here hexec rfl (hb hbytes d41) rfl rfl ?_
      refine XS.aload X8.here hexec rfl (hb hbytes d42) rfl rfl ?_
      refine XS.iloadN X8.here hexec rfl (hb hbytes d44) rfl ?_
      exact Steps.refl _)
    rw [n4]; exact hc
  obtain ⟨v11, T11, X11, E11, g11⟩ := X8.callS hexec (CodL.law l s.heap.size N) hown (wks W (staticW "java/lang/String" 47 CodL.yN)) (wk W CodL.tab) (W := 1) (Nat.le_of_ble_eq_true rfl) (Nat.le_of_ble_eq_true rfl) (Nat.le_refl _) (by show 0 + len + 0 ≤ len; omega) (g := (mkF m 45 #[.val (.ref a), .val (.ref b), .val (.int (Int32.ofNat o)), .val (.int (Int32.ofNat len)), .val .null, .val (.ref s.heap.size)] [.int (Int32.ofNat N.slots.size), .ref s.heap.size, .ref a])) rfl (by rw [hml]; rfl) c10 (argsL := [.ref s.heap.size, .int (Int32.ofNat N.slots.size)]) (rest := [.ref a]) rfl rfl (by show 2 * 0 + (1 + 0) ≤ _; decide) (hb hbytes d45) (⟨rfl, n1⟩)
  obtain ⟨rfl, q11⟩ := E11
  have hB11 := hB1.mv (X8.warmed.alike.symm.trans X11.warmed.alike) q11
  have c12 : Steps p.tables e below (s₁.setTop (entryFrame m #[.ref a, .ref b, .int (Int32.ofNat o), .int (Int32.ofNat len), .null] 6)) (T11.setTop (mkF m 48 #[.val (.ref a), .val (.ref b), .val (.int (Int32.ofNat o)), .val (.int (Int32.ofNat len)), .val .null, .val (.ref s.heap.size)] [.int 0, .ref a])) := g11
  obtain ⟨T13, X13, p13, bl13, sl13, st13⟩ := X11.finit hexec hown (wk W (.fieldLink "java/lang/String" 15 "java/lang/String" "coder" "B")) (Or.inr ⟨_, (wk W (.laysFinal "java/lang/String" "java/lang/String" "coder" "B"))⟩) (Or.inl ⟨rfl, hnm⟩) f2 (Or.inl rfl) hB11 (t := .byte) (by decide +kernel) rfl (g := (mkF m 48 #[.val (.ref a), .val (.ref b), .val (.int (Int32.ofNat o)), .val (.int (Int32.ofNat len)), .val .null, .val (.ref s.heap.size)] [.int 0, .ref a])) rfl (rest := []) rfl (hb hbytes d48)
  have c14 : Steps p.tables e below (s₁.setTop (entryFrame m #[.ref a, .ref b, .int (Int32.ofNat o), .int (Int32.ofNat len), .null] 6)) (T13.setTop (mkF m 54 #[.val (.ref a), .val (.ref b), .val (.int (Int32.ofNat o)), .val (.int (Int32.ofNat len)), .val .null, .val (.ref s.heap.size)] [.ref s.heap.size, .ref a])) := (c12.trans (st13 _ (Steps.refl _))).trans (by
    refine XS.aloadN X13.here hexec rfl (hb hbytes d51) rfl rfl ?_
    refine XS.aload X13.here hexec rfl (hb hbytes d52) rfl rfl ?_
    exact Steps.refl _)
  obtain ⟨T15, X15, p15, bl15, sl15, st15⟩ := X13.finit hexec hown (wk W (.fieldLink "java/lang/String" 9 "java/lang/String" "value" "[B")) (Or.inr ⟨_, (wk W (.laysFinal "java/lang/String" "java/lang/String" "value" "[B"))⟩) (Or.inl ⟨rfl, hnm⟩) f1 (Or.inl rfl) bl13 (t := (.array .byte)) (by decide +kernel) rfl (g := (mkF m 54 #[.val (.ref a), .val (.ref b), .val (.int (Int32.ofNat o)), .val (.int (Int32.ofNat len)), .val .null, .val (.ref s.heap.size)] [.ref s.heap.size, .ref a])) rfl (rest := []) rfl (hb hbytes d54)
  have c16 : Steps p.tables e below (s₁.setTop (entryFrame m #[.ref a, .ref b, .int (Int32.ofNat o), .int (Int32.ofNat len), .null] 6)) (T15.setTop (mkF m 57 #[.val (.ref a), .val (.ref b), .val (.int (Int32.ofNat o)), .val (.int (Int32.ofNat len)), .val .null, .val (.ref s.heap.size)] [])) := c14.trans (st15 _ (Steps.refl _))
  have ap := apart (Or.inr ⟨_, (wk W (.laysFinal "java/lang/String" "java/lang/String" "value" "[B"))⟩) (Or.inr ⟨_, (wk W (.laysFinal "java/lang/String" "java/lang/String" "coder" "B"))⟩) f1 f2 (t₁ := .array .byte) (t₂ := .byte) (by decide +kernel) (by decide +kernel) (by decide)
  have al := X8.warmed.alike.symm.trans X15.warmed.alike
  have n7 : T11.heap[s.heap.size]? = some N := by rw [q11]; exact n1.1
  exact ⟨T15, none, _, _, _, X15, by simp, rfl, by omega, (fun _ => rfl), ⟨rfl, _, N, bl15, ((Same.refl D _).set _ (by simp)).set _ (by simp), sl15, (Cell.slots_setSlot_ne _ ap).trans sl13, n1.keep al (p15.other hne (p13.other hne n7)), n2, by rw [al.findClass]; exact n3, n4, n5, fun y c h1 h2 => p15.other h1 (p13.other h1 (by rw [q11]; exact n6 y c h2)), by rw [p15.2.2, p13.2.2, q11]; exact z8⟩, fun fs hl => c16.trans (X15.returnOut hexec hret (hb hbytes d57) hl)⟩
end New4
namespace New1
def yN : MethodName := ⟨"java/lang/String", "<init>", "([C)V"⟩
abbrev yB : ByteArray := jdk_42_method_3_code
theorem d0 : decode yB 0 = .ok (.aload_n 0, 1) := by decide +kernel
theorem d1 : decode yB 1 = .ok (.aload_n 1, 1) := by decide +kernel
theorem d2 : decode yB 2 = .ok (.iconst 0, 1) := by decide +kernel
theorem d3 : decode yB 3 = .ok (.aload_n 1, 1) := by decide +kernel
theorem d4 : decode yB 4 = .ok (.arraylength, 1) := by decide +kernel
theorem d5 : decode yB 5 = .ok (.aconst_null, 1) := by decide +kernel
theorem d6 : decode yB 6 = .ok (.invokespecial 27, 3) := by decide +kernel
theorem d9 : decode yB 9 = .ok (.return_, 1) := by decide +kernel
def site : List Cond := [New4.tab] ++ initW "java/lang/String" 27 New4.yN
def tab : Cond := tabOf yN yB 2 none site
def P (a : Addr) (D : Cell) (fV fC : Field) (b : Addr) (A : Cell) (z : Int32) (args : Array Value) (s : State) : Prop := args = #[.ref a, .ref b] ∧ Blank "java/lang/String" a D s ∧ Found "java/lang/String" "value" "[B" fV s ∧ Found "java/lang/String" "coder" "B" fC s ∧ Ch b A s ∧ StaticIs s "java/lang/String" "COMPACT_STRINGS" "Z" (.int z) ∧ ¬ z = 0 ∧ 0 < A.slots.size ∧ A.slots.size ≤ 536870912 ∧ ∀ i, i < A.slots.size → ¬ 255 < cv A i
def E (a : Addr) (D : Cell) (fV fC : Field) (A : Cell) (r : Option Value) (s u : State) : Prop := Got a D fV fC A 0 A.slots.size r s u
/-- new String(chars), not empty, no char above 255: a Latin-1 String of their low bytes -/
theorem law (l : Launch) (a : Addr) (D : Cell) (fV fC : Field) (b : Addr) (A : Cell) (z : Int32) : Law l yN 2 1 3 52 yB 2 none site (P a D fV fC b A z) (E a D fV fC A) [⟨a, fC.slot⟩, ⟨a, fV.slot⟩] 1 A.slots.size := by
  refine Law.of_walk (plainFor_of_name (by decide +kernel)) (by decide +kernel) (by decide +kernel) (by decide) (fun _ _ h => by rw [h.1]; rfl) (fun _ U U' hal hh h => ⟨h.1, h.2.1.mv hal hh, h.2.2.1.al hal, h.2.2.2.1.al hal, h.2.2.2.2.1.mv hal hh, h.2.2.2.2.2.1.there hal hh, h.2.2.2.2.2.2⟩) (fun r U U' V V' h1 hal h2 h => Got.mv r U U' V V' h1 hal h2 h) ?_
  intro p e s m args below meth c s₁ X0 hexec hbytes hml hret hlk hnm hown hh0 W hP
  obtain ⟨rfl, hB, f1, f2, hA, s1, hz, l0, l2, hp⟩ := hP
  have c1 : Steps p.tables e below (s₁.setTop (entryFrame m #[.ref a, .ref b] 2)) (s₁.setTop (mkF m 0 #[.val (.ref a), .val (.ref b)] [])) := entry rfl
  have c2 : Steps p.tables e below (s₁.setTop (entryFrame m #[.ref a, .ref b] 2)) (s₁.setTop (mkF m 6 #[.val (.ref a), .val (.ref b)] [.null, .int (Int32.ofNat A.slots.size), .int 0, .ref b, .ref a])) := c1.trans (by
    refine XS.aloadN X0.here hexec rfl (hb hbytes d0) rfl rfl ?_
    refine XS.aloadN X0.here hexec rfl (hb hbytes d1) rfl rfl ?_
    refine iconstV X0.here hexec rfl 0 (hb hbytes d2) (by decide) ?_
    refine XS.aloadN X0.here hexec rfl (hb hbytes d3) rfl rfl ?_
    refine X0.alen hexec (hA.1.mv X0.warmed.alike hh0) rfl rfl (hb hbytes d4) ?_
    refine XS.aconstNull X0.here hexec rfl (hb hbytes d5) ?_
    exact Steps.refl _)
  obtain ⟨v3, T3, X3, E3, g3⟩ := X0.callN hexec (New4.law l a D fV fC b A z 0 A.slots.size) rfl hown (wks W (initW "java/lang/String" 27 New4.yN)) (W New4.tab (by simp only [site, List.mem_cons, List.mem_append, true_or, or_true])) (W := 0) (Nat.le_of_ble_eq_true rfl) (Nat.le_of_ble_eq_true rfl) (Nat.le_refl _) (by show 0 + A.slots.size ≤ A.slots.size; omega) (g := (mkF m 6 #[.val (.ref a), .val (.ref b)] [.null, .int (Int32.ofNat A.slots.size), .int (Int32.ofNat 0), .ref b, .ref a])) rfl (by rw [hml]; rfl) c2 (argsL := [.ref b, .int (Int32.ofNat 0), .int (Int32.ofNat A.slots.size), .null]) (rest := []) rfl rfl (by show 2 * 0 + 0 ≤ _; decide) (hb hbytes d6) (⟨rfl, hB.mv X0.warmed.alike hh0, f1.al X0.warmed.alike, f2.al X0.warmed.alike, hA.mv X0.warmed.alike hh0, s1.there X0.warmed.alike hh0, hz, l0, by omega, l2, fun i hi => by rw [Nat.zero_add]; exact hp i hi⟩)
  have e0 := Got.mv _ s₁ s _ _ hh0.symm (Vm.Alike.refl _) rfl E3
  obtain rfl := e0.1
  have c4 : Steps p.tables e below (s₁.setTop (entryFrame m #[.ref a, .ref b] 2)) (T3.setTop (mkF m 9 #[.val (.ref a), .val (.ref b)] [])) := g3
  exact ⟨T3, none, _, _, _, X3, by simp, rfl, by omega, (fun _ => rfl), e0, fun fs hl => c4.trans (X3.returnOut hexec hret (hb hbytes d9) hl)⟩
theorem pays {l : Launch} {R : Room} {p : Program} {e : Env} {below : List Frame} {s : State} {sargs : Array Value} {len W : Nat} (a : Addr) (D : Cell) (fV fC : Field) (b : Addr) (A : Cell) (z : Int32) (htab : tab.before sargs s = true) (hfr : 4 ≤ R.frames) (hlo : W + 65 ≤ R.locals) :
    Back l R p e below s sargs yN len W (fun A₁ a₁ => A₁.cells + 1 ≤ R.cells ∧ A₁.slots + A.slots.size ≤ R.slots ∧ P a D fV fC b A z a₁ A₁.U) (fun A₁ _ v₁ B₁ => E a D fV fC A v₁ A₁.U B₁.U ∧ B₁.locs = A₁.locs ++ [⟨a, fC.slot⟩, ⟨a, fV.slot⟩] ∧ B₁.cells = A₁.cells + 1 ∧ B₁.slots = A₁.slots + A.slots.size) :=
  (law l a D fV fC b A z).pays htab hfr (by omega)
end New1
/-- the byte, read back as charAt reads it, is the char -/
theorem lo8_mask {x : Int32} (h0 : ¬ x < 0) (h1 : ¬ 255 < x) : lo8 x &&& 255 = x := by
  have t : ∀ k : Fin 256, lo8 (Int32.ofNat k.val) &&& 255 = Int32.ofNat k.val := by decide +kernel
  rw [Int32.lt_iff_toInt_lt] at h0 h1
  have e0 : (0 : Int32).toInt = 0 := rfl
  have e1 : (255 : Int32).toInt = 255 := rfl
  obtain ⟨k, hk⟩ : ∃ k : Nat, x.toInt = k := ⟨x.toInt.toNat, by omega⟩
  have hx : x = Int32.ofNat k := Int32.toInt_inj.mp (by rw [hk, Int32.toInt_ofNat_small (by omega)])
  rw [hx]
  exact t ⟨k, by omega⟩
end StrChars
namespace StrChars.Road
open Jvm Sem ClassFile Op Lib Jvm.Stand Jvm.Free Jvm.Free.XT
open Jvm.Lib.Cold (StaticIs)
abbrev ST : String := "java/lang/String"
/-- every table word that New1's law asks, flat -/
abbrev words : List Jvm.Cond := [.code New1.yN New1.yB 2 none, .initialized ST, .methodLink ST 27 New4.yN, .instanceMethod New4.yN,
  .code New4.yN New4.yB 6 none, .fieldLink ST 38 ST "COMPACT_STRINGS" "Z", .laysFinal ST ST "value" "[B", .fieldLink ST 9 ST "value" "[B", .laysFinal ST ST "coder" "B", .fieldLink ST 15 ST "coder" "B",
  .methodLink ST 1 Lib.objectInit, .instanceMethod Lib.objectInit, .code Lib.objectInit ⟨#[0xb1]⟩ 1 none, .methodLink ST 177 Cmp3.yN, .static Cmp3.yN, .methodLink ST 47 CodL.yN, .static CodL.yN,
  .code Cmp3.yN Cmp3.yB 6 (some (.array .byte)), .initialized U16, .arrayClass .byte, .methodLink U16 115 Cmp5.yN, .static Cmp5.yN, .code Cmp5.yN Cmp5.yB 7 (some .int), .code CodL.yN CodL.yB 2 (some .byte)]
theorem tab_of {a : Array Value} {s : State} (h : ∀ w ∈ words, w.before a s = true) : New1.tab.before a s = true := by
  have h5 : Cmp5.tab.before a s = true := unparts (wk h (.code Cmp5.yN Cmp5.yB 7 (some .int))) (wks h (.initialized Cmp5.yN.cls :: Cmp5.site))
  have hc : CodL.tab.before a s = true := unparts (wk h (.code CodL.yN CodL.yB 2 (some .byte))) (wks h (.initialized CodL.yN.cls :: CodL.site))
  have q5 : ∀ w ∈ Cmp5.tab :: words, w.before a s = true := fun w hw => (List.mem_cons.mp hw).elim (fun e => e ▸ h5) (h w)
  have h3 : Cmp3.tab.before a s = true := unparts (wk q5 (.code Cmp3.yN Cmp3.yB 6 (some (.array .byte)))) (wks q5 (.initialized Cmp3.yN.cls :: Cmp3.site))
  have q3 : ∀ w ∈ Cmp3.tab :: CodL.tab :: words, w.before a s = true := fun w hw => (List.mem_cons.mp hw).elim (fun e => e ▸ h3) fun hw => (List.mem_cons.mp hw).elim (fun e => e ▸ hc) (h w)
  have h4 : New4.tab.before a s = true := unparts (wk q3 (.code New4.yN New4.yB 6 none)) (wks q3 (.initialized New4.yN.cls :: New4.site))
  have q4 : ∀ w ∈ New4.tab :: words, w.before a s = true := fun w hw => (List.mem_cons.mp hw).elim (fun e => e ▸ h4) (h w)
  exact unparts (wk q4 (.code New1.yN New1.yB 2 none)) (wks q4 (.initialized New1.yN.cls :: New1.site))
/-- the words ride from the start Z to the walk's own state -/
theorem moved {Z s : State} {a0 args : Array Value} (hZ : Z.Warmed39 s.vm) (hw : ∀ d ∈ words, d.before a0 Z = true) : ∀ d ∈ words, d.before args s = true := fun d hd => by
  have q := hw d hd
  have t : ∀ d ∈ words, d = .arrayClass .byte ∨ (d.onTables && d.keepsFace) = true := by decide +kernel
  rcases t d hd with rfl | t
  · exact RoadKit.mvA hZ q
  · exact RoadKit.mv hZ q t
/-- WHAT COMES BACK, over the tables of the start Z: h the heap at the call, h' behind it -/
def Q (Z : State) (x : Addr) (A : Cell) (h : Heap) (v : Option Value) (h' : Heap) (L : List Loc) : Prop := v = none ∧ (∀ y ∈ L, y.base = x) ∧ RoadKit.Keep h h' [x] ∧ h'.size = h.size + 1 ∧ RoadKit.Exa Z h' x ST ∧ RoadKit.Fld Z h' x ST "value" "[B" (.ref h.size) ∧ RoadKit.Fld Z h' x ST "coder" "B" (.int 0) ∧
  (∃ V : Cell, RoadKit.Arr Z h' h.size V .byte ∧ V.vm = .none ∧ Z.vm.findClass "[B" = some V.cls ∧ V.slots.size = A.slots.size ∧ ∀ j, j < A.slots.size → V.slots[j]? = some (.int (lo8 (cv A j)))) ∧
  ∀ (O n d : String) (w : Value), RoadKit.Fld Z h x O n d w → RoadKit.slotOf Z O n d ≠ RoadKit.slotOf Z ST "value" "[B" → RoadKit.slotOf Z O n d ≠ RoadKit.slotOf Z ST "coder" "B" → RoadKit.Fld Z h' x O n d w
/-- **new String(chars) AT A CALL, IN THE ROAD'S FORM**: for specialBack behind newO: x the fresh String, b the char[] with the cell A -/
theorem back {p : Program} {l : Launch} {e : Env} {R : Room} {s : State} {args : Array Value} {below : List Frame} {len W : Nat} {Z : State} {a0 : Array Value} {h : Heap} (hZ : Z.Warmed39 s.vm) (hw : ∀ d ∈ words, d.before a0 Z = true) {kI : Nat} (wi : (Jvm.Cond.instantiable ST kI).before a0 Z = true)
    {x b : Addr} {A : Cell} {z : Int32} {v0 c0 : Value} (E : RoadKit.Exa Z h x ST) (V : RoadKit.Fld Z h x ST "value" "[B" v0) (C : RoadKit.Fld Z h x ST "coder" "B" c0) (K : RoadKit.Arr Z h b A .char) (hty : Typed .char A) (S : RoadKit.Sta Z h ST "COMPACT_STRINGS" "Z" (.int z)) (hz : ¬ z = 0)
    (l0 : 0 < A.slots.size) (l2 : A.slots.size ≤ 536870912) (hp : ∀ i, i < A.slots.size → ¬ 255 < cv A i) (hfr : 4 ≤ R.frames) (hlo : W + 65 ≤ R.locals) :
    Back l R p e below s args New1.yN len W (fun P a => a = #[.ref x, .ref b] ∧ P.U.heap = h ∧ P.cells + 1 ≤ R.cells ∧ P.slots + A.slots.size ≤ R.slots)
      (fun P _ v B => ∃ L, Q Z x A h v B.U.heap L ∧ B.locs = P.locs ++ L ∧ B.cells = P.cells + 1 ∧ B.slots = P.slots + A.slots.size) := by
  intro m meth c P g ig mk a X hg hsize hdg hW hn hp'
  obtain ⟨rfl, rfl, r1, r2⟩ := hp'
  have al : Z.vm.Alike P.U.vm := hZ.alike.trans X.warmed.alike
  obtain ⟨D, cfV, kV, iV, fV, hD, gV, stV, knV, obV, asV, slV⟩ := id V
  obtain ⟨D', cfC, kC, iC, fC, hD', gC, stC, -, -, asC, slC⟩ := id C
  cases hD.symm.trans hD'
  obtain ⟨D2, kD, e1, e2, e3, e4, e5⟩ := id E
  cases hD.symm.trans e1
  obtain ⟨c2, k2, i1, i2, i3, -⟩ := Cond.instantiable_spec wi
  cases e2.symm.trans i1
  cases e3.symm.trans i2
  obtain ⟨kU, u1, u2⟩ := al.2.2 _ _ e3
  have hB : Blank ST x D P.U := ⟨hD, ⟨knV, fun q hq => by rw [hq] at obV; cases obV⟩, by rw [al.findClass]; exact e2, kU, u1, by rw [u2]; exact i3, by rw [u2]; exact e5 i3⟩
  have F1 : Found ST "value" "[B" fV P.U := ⟨SBG.found_only al ⟨cfV, kV, iV, gV⟩, stV⟩
  have F2 : Found ST "coder" "B" fC P.U := ⟨SBG.found_only al ⟨cfC, kC, iC, gC⟩, stC⟩
  have hA : Ch b A P.U := ⟨⟨K.1, State.isArrayOf_alike al K.2.1, K.2.2, by omega⟩, hty⟩
  have hS : StaticIs P.U ST "COMPACT_STRINGS" "Z" (.int z) := by
    obtain ⟨cfS, iS, kS, fS, st, cS, t1, t2, t3, t4, t5, t6, t7⟩ := S
    exact StaticIs.there (s := { Z with heap := P.U.heap }) ⟨cfS, iS, kS, fS, st, cS, t1, t2, t3, t4, t5, (fun q => by rw [q] at t6; cases t6), t7⟩ al rfl
  obtain ⟨v, B, X', ⟨⟨hv, E', V', q1, q2, q3, q4, q5, q6, q7, q8, q9, q10, q11⟩, hl, hc, hs⟩, st⟩ := New1.pays x D fV fC b A z (tab_of (moved hZ hw)) hfr hlo m meth c P g ig mk _ X hg hsize hdg hW hn ⟨r1, r2, rfl, hB, F1, F2, hA, hS, hz, l0, l2, hp⟩
  have al' : Z.vm.Alike B.U.vm := hZ.alike.trans X'.warmed.alike
  have hsz : E'.slots.size = D.slots.size := by
    obtain ⟨-, -, -, kB, w1, w2, w3⟩ := q1
    obtain ⟨kB', y1, y2⟩ := al'.2.2 _ _ e3
    rw [q2.2.1] at w1
    cases w1.symm.trans y1
    rw [w3, e5 i3, y2]
  refine ⟨v, B, X', ⟨_, ⟨hv, ?_, ⟨by omega, fun y cy hy hn' => q10 y cy (by simpa using hn') hy, fun y cy hy => ?_⟩, q11, ⟨E', _, q1.1, by rw [q2.2.1]; exact e2, by rw [q2.2.1]; exact e3, by rw [q2.1]; exact obV, fun _ => by rw [hsz]; exact e5 i3⟩,
    ⟨E', cfV, kV, iV, fV, q1.1, gV, stV, by rw [q2.1]; exact knV, by rw [q2.1]; exact obV, by rw [q2.2.1]; exact asV, q3⟩, ⟨E', cfC, kC, iC, fC, q1.1, gC, stC, by rw [q2.1]; exact knV, by rw [q2.1]; exact obV, by rw [q2.2.1]; exact asC, q4⟩,
    ⟨V', ⟨q5.1, State.isArrayOf_alike al'.symm q5.2.1, q5.2.2.1⟩, q6, by rw [← al'.findClass]; exact q7, q8, fun j hj => by have := q9 j hj; rwa [Nat.zero_add] at this⟩, fun O n d w F n1 n2 => ?_⟩, hl, hc, hs⟩, st⟩
  · intro y hy
    simp only [List.mem_cons, List.not_mem_nil, or_false] at hy
    rcases hy with rfl | rfl <;> rfl
  · by_cases q : y = x
    · subst q
      cases hD.symm.trans hy
      exact ⟨E', q1.1, q2.2.1, q2.1, hsz⟩
    · exact ⟨cy, q10 y cy q hy, rfl, rfl, rfl⟩
  · obtain ⟨D3, cf, k, i, f, g1, g2, g3, g4, g5, g6, g7⟩ := F
    cases hD.symm.trans g1
    simp only [RoadKit.slotOf, g2, gV, gC, Option.map_some, Option.getD_some] at n1 n2
    exact ⟨E', cf, k, i, f, q1.1, g2, g3, by rw [q2.1]; exact g4, by rw [q2.1]; exact g5, by rw [q2.2.1]; exact g6, by rw [q2.2.2 f.slot (by simp [n1, n2])]; exact g7⟩
end StrChars.Road
namespace StrChars.Road
open Jvm Sem ClassFile Op Lib Jvm.Stand Jvm.Free Jvm.Free.XT
/-- WHAT COMES BACK, the byte[] as a list of values -/
def QA (Z : State) (x : Addr) (zn : Int32) (cs : List Int32) (h : Heap) (v : Option Value) (h' : Heap) (L : List Loc) : Prop := v = none ∧ (∀ y ∈ L, y.base = x) ∧ RoadKit.Keep h h' [x] ∧ h'.size = h.size + 1 ∧ RoadKit.Exa Z h' x ST ∧ RoadKit.Fld Z h' x ST "value" "[B" (.ref h.size) ∧ RoadKit.Fld Z h' x ST "coder" "B" (.int 0) ∧
  (∃ kb, Z.vm.findClass "[B" = some kb ∧ RoadKit.Arv Z h' h.size kb .byte zn (cs.map fun c => .int (lo8 c)) (.int 0)) ∧
  ∀ (O n d : String) (w : Value), RoadKit.Fld Z h x O n d w → RoadKit.slotOf Z O n d ≠ RoadKit.slotOf Z ST "value" "[B" → RoadKit.slotOf Z O n d ≠ RoadKit.slotOf Z ST "coder" "B" → RoadKit.Fld Z h' x O n d w
/-- **new String(chars) AT A CALL, THE ARRAYS AS LISTS**: the char[] at b holds cs, not empty, no char above 255 -/
theorem backArv {p : Program} {l : Launch} {e : Env} {R : Room} {s : State} {args : Array Value} {below : List Frame} {len W : Nat} {Z : State} {a0 : Array Value} {h : Heap} (hZ : Z.Warmed39 s.vm) (hw : ∀ d ∈ words, d.before a0 Z = true) {kI : Nat} (wi : (Jvm.Cond.instantiable ST kI).before a0 Z = true)
    {x b : Addr} {k : ClassId} {zn z : Int32} {cs : List Int32} {dv v0 c0 : Value} (E : RoadKit.Exa Z h x ST) (V : RoadKit.Fld Z h x ST "value" "[B" v0) (C : RoadKit.Fld Z h x ST "coder" "B" c0) (K : RoadKit.Arv Z h b k .char zn (cs.map Value.int) dv) (S : RoadKit.Sta Z h ST "COMPACT_STRINGS" "Z" (.int z)) (hz : ¬ z = 0)
    (hlen : zn.toNatClampNeg = cs.length) (h0 : 0 < cs.length) (hbig : cs.length ≤ 536870912) (hall : ∀ c ∈ cs, ¬ 255 < c) (hfr : 4 ≤ R.frames) (hlo : W + 65 ≤ R.locals) :
    Back l R p e below s args New1.yN len W (fun P a => a = #[.ref x, .ref b] ∧ P.U.heap = h ∧ P.cells + 1 ≤ R.cells ∧ P.slots + cs.length ≤ R.slots)
      (fun P _ v B => ∃ L, QA Z x zn cs h v B.U.heap L ∧ B.locs = P.locs ++ L ∧ B.cells = P.cells + 1 ∧ B.slots = P.slots + cs.length) := by
  obtain ⟨A, K1, K2, K3, K4, K5, K6⟩ := K
  have e : A.slots.size = cs.length := K3.trans hlen
  have hat : ∀ (i : Nat) (hi : i < cs.length), A.slots[i]? = some (.int cs[i]) := fun i hi => by rw [K5 i (by omega)]; simp [List.getD_eq_getElem?_getD, hi]
  have hcv : ∀ (i : Nat) (hi : i < cs.length), cv A i = cs[i] := fun i hi => by unfold cv; rw [hat i hi]
  have hty : Typed .char A := fun i v hv => by
    have hi : i < A.slots.size := (Array.getElem?_eq_some_iff.mp hv).1
    have q := K5 i hi
    rw [hv] at q
    rw [Option.some.inj q]
    exact K6 i hi
  refine Back.mono (back hZ hw wi E V C K1 hty S hz (by omega) (by omega) (fun i hi => by rw [hcv i (by omega)]; exact hall _ (List.getElem_mem _)) hfr hlo) (fun P a hp => ⟨hp.1, hp.2.1, hp.2.2.1, by rw [e]; exact hp.2.2.2⟩) (fun P a v B hp hq => ?_)
  obtain ⟨L, ⟨q1, q2, q3, q4, q5, q6, q7, ⟨V', v1, v2, v3, v4, v5⟩, q9⟩, hl, hc, hs⟩ := hq
  refine ⟨L, ⟨q1, q2, q3, q4, q5, q6, q7, ⟨V'.cls, v3, V', v1, rfl, by rw [v4, e, hlen], K4, fun i hi => ?_, fun i hi => ?_⟩, q9⟩, hl, hc, by rw [hs, e]⟩
  · have hi' : i < cs.length := by omega
    rw [v5 i (by omega), hcv i hi']; simp [List.getD_eq_getElem?_getD, hi']
  · have hi' : i < cs.length := by omega
    simp only [List.getD_eq_getElem?_getD, List.getElem?_map, List.getElem?_eq_getElem hi', Option.map_some, Option.getD_some]
    exact fits_lo8 _
end StrChars.Road
namespace StrChars.Road
open Jvm Sem ClassFile Op Lib Jvm.Stand Jvm.Free Jvm.Free.XT
/-- WHAT COMES BACK, in the writer's own shape -/
def QV (Z : State) (x : Addr) (N : Int32) (bs : List Int32) (h : Heap) (n0 : Nat) (v : Option Value) (h' : Heap) (L : List Loc) : Prop := v = none ∧ RoadKit.Fr n0 L ∧ RoadKit.Keep h h' [x] ∧ RoadKit.Exa Z h' x ST ∧ RoadKit.Fld Z h' x ST "coder" "B" (.int 0) ∧
  ∃ (t : Addr) (kb : ClassId), n0 ≤ t ∧ h.size ≤ t ∧ ¬ t = x ∧ RoadKit.Fld Z h' x ST "value" "[B" (.ref t) ∧ RoadKit.Arv Z h' t kb .byte N (bs.map Value.int) (.int 0)
/-- **new String(chars) AT A CALL, FOR THE WRITER**: a char[] of n known ints, each 0 to 255 -/
theorem backV {p : Program} {l : Launch} {e : Env} {R : Room} {s : State} {args : Array Value} {below : List Frame} {len W : Nat} {Z : State} {a0 : Array Value} {h : Heap} (hZ : Z.Warmed39 s.vm) (hw : ∀ d ∈ words, d.before a0 Z = true) {kI : Nat} (wi : (Jvm.Cond.instantiable ST kI).before a0 Z = true)
    {x b : Addr} {kC : ClassId} {cs bs : List Int32} {d v0 c0 : Value} {z N : Int32} {n n0 : Nat} (hx0 : n0 ≤ x) (hh0 : n0 ≤ h.size) (E : RoadKit.Exa Z h x ST) (V : RoadKit.Fld Z h x ST "value" "[B" v0) (C : RoadKit.Fld Z h x ST "coder" "B" c0) (K : RoadKit.Arv Z h b kC .char N (cs.map Value.int) d) (S : RoadKit.Sta Z h ST "COMPACT_STRINGS" "Z" (.int z)) (hz : ¬ z = 0)
    (hn : cs.length = n) (hN : N = Int32.ofNat n) (l0 : 0 < n) (l2 : n ≤ 4000) (hp : ∀ c ∈ cs, ¬ c < 0 ∧ ¬ (255 : Int32) < c) (hb : bs = cs.map (fun c => c.toInt8.toInt32)) (hfr : 4 ≤ R.frames) (hlo : W + 65 ≤ R.locals) :
    Back l R p e below s args (⟨"java/lang/String", "<init>", "([C)V"⟩ : MethodName) len W (fun P a => a = #[.ref x, .ref b] ∧ P.U.heap = h ∧ P.cells + 1 ≤ R.cells ∧ P.slots + n ≤ R.slots)
      (fun P _ v B => ∃ L, QV Z x N bs h n0 v B.U.heap L ∧ B.locs = P.locs ++ L ∧ B.cells = P.cells + 1 ∧ B.slots = P.slots + n) := by
  subst hn hN hb
  refine Back.mono (backArv hZ hw wi E V C K S hz (n32 (by omega)) l0 (by omega) (fun c hc => (hp c hc).2) hfr hlo) (fun P a hp => hp) (fun P a v B hp hq => ?_)
  obtain ⟨L, ⟨q1, q2, q3, q4, q5, q6, q7, ⟨kb, v1, v2⟩, q9⟩, hl, hc, hs⟩ := hq
  exact ⟨L, ⟨q1, fun y hy => by rw [q2 y hy]; exact hx0, q3, q5, q7, h.size, kb, hh0, Nat.le_refl _, Nat.ne_of_gt E.lt, q6, by rw [List.map_map]; exact v2⟩, hl, hc, hs⟩
end StrChars.Road
namespace StrChars
open Jvm Sem ClassFile Op Lib Jvm.Stand Jvm.Free.XT Jvm.Free.ALB Jvm.Free.JM Jvm.Free
open Jvm.Lib.Cold (StaticIs)
def hi8 (x : Int32) : Int32 := lo8 (x >>> ((8 : Int32) &&& 31))
/-- what StringUTF16.getChar makes of two bytes -/
def pairCh (u v : Int32) : Int32 := (((u &&& 255) <<< ((0 : Int32) &&& 31)) ||| ((v &&& 255) <<< ((8 : Int32) &&& 31))).toUInt32.toUInt16.toUInt32.toInt32
theorem lo8_and (x : Int32) : (lo8 x &&& 255).toBitVec.toNat = x.toBitVec.toNat % 256 := by
  have h : (lo8 x).toBitVec = (x.toBitVec.signExtend 8).signExtend 32 := by rw [lo8, Int8.toBitVec_toInt32, Int32.toBitVec_toInt8]
  rw [Int32.toBitVec_and, BitVec.toNat_and, h]
  have e : ((x.toBitVec.signExtend 8).signExtend 32).toNat % 256 = x.toBitVec.toNat % 256 := by
    rw [BitVec.toNat_signExtend]
    have hlt := x.toBitVec.isLt
    simp only [BitVec.toNat_setWidth, BitVec.toNat_signExtend]
    split <;> split <;> omega
  rw [← e]
  exact Nat.and_two_pow_sub_one_eq_mod _ 8
theorem pair_says {c : Int32} (h0 : ¬ c < 0) (h1 : ¬ 65535 < c) : pairCh (lo8 c) (hi8 c) = c := by
  rw [Int32.lt_iff_toInt_lt] at h0 h1
  have e0 : (0 : Int32).toInt = 0 := rfl
  have e1 : (65535 : Int32).toInt = 65535 := rfl
  have hc : c.toInt = c.toBitVec.toNat := by
    have := c.toBitVec.isLt
    have e : c.toInt = c.toBitVec.toInt := rfl
    rw [e] at h0 h1
    rw [e]
    rw [BitVec.toInt_eq_toNat_cond] at h0 h1 ⊢
    split at h0 <;> split <;> omega
  have hn : c.toBitVec.toNat < 65536 := by omega
  have a1 := lo8_and c
  have a2 : (hi8 c &&& 255).toBitVec.toNat = c.toBitVec.toNat / 256 := by
    rw [hi8, lo8_and]
    have e : ((8 : Int32) &&& 31) = 8 := by decide
    rw [e, Int32.toBitVec_shiftRight]
    have e2 : ((8 : Int32).toBitVec.smod 32) = 8#32 := by decide
    rw [e2, BitVec.sshiftRight_eq', BitVec.toNat_sshiftRight_of_msb_false (by rw [BitVec.msb_eq_false_iff_two_mul_lt]; omega)]
    show c.toBitVec.toNat >>> 8 % 256 = _
    rw [Nat.shiftRight_eq_div_pow]
    omega
  unfold pairCh
  apply Int32.toBitVec_inj.mp
  apply BitVec.eq_of_toNat_eq
  have f0 : ((0 : Int32) &&& 31) = 0 := by decide
  have f8 : ((8 : Int32) &&& 31) = 8 := by decide
  rw [f0, f8]
  have g : (((lo8 c &&& 255) <<< (0 : Int32)) ||| ((hi8 c &&& 255) <<< (8 : Int32))).toBitVec.toNat = c.toBitVec.toNat := by
    rw [Int32.toBitVec_or, Int32.toBitVec_shiftLeft, Int32.toBitVec_shiftLeft]
    have s0 : ((0 : Int32).toBitVec.smod 32) = 0#32 := by decide
    have s8 : ((8 : Int32).toBitVec.smod 32) = 8#32 := by decide
    rw [s0, s8, BitVec.toNat_or]
    simp only [BitVec.shiftLeft_eq', BitVec.toNat_shiftLeft, a1, a2]
    show (c.toBitVec.toNat % 256) <<< 0 % 2 ^ 32 ||| (c.toBitVec.toNat / 256) <<< 8 % 2 ^ 32 = _
    rw [Nat.shiftLeft_zero, Nat.mod_eq_of_lt (show c.toBitVec.toNat % 256 < 2 ^ 32 by omega), Nat.mod_eq_of_lt (show (c.toBitVec.toNat / 256) <<< 8 < 2 ^ 32 by rw [Nat.shiftLeft_eq]; omega), Nat.or_comm, ← Nat.shiftLeft_add_eq_or_of_lt (by omega), Nat.shiftLeft_eq]
    omega
  show BitVec.toNat (((((lo8 c &&& 255) <<< (0 : Int32)) ||| ((hi8 c &&& 255) <<< (8 : Int32))).toBitVec.setWidth 16).setWidth 32) = _
  rw [BitVec.toNat_setWidth, BitVec.toNat_setWidth, g]
  omega
end StrChars
namespace StrChars
open Jvm Sem ClassFile Op Lib Jvm.Stand Jvm.Free.XT Jvm.Free.ALB Jvm.Free.JM Jvm.Free
open Jvm.Lib.Cold (StaticIs)
/-- the array's cell V codes the n chars f 0 .. f (n - 1) by the coder cd, as the JDK does: coder 1 just where some char is above 255 -/
def Cod (cd : Int32) (n : Nat) (f : Nat → Int32) (V : Cell) : Prop := (cd = 0 ∧ V.slots.size = n ∧ ∀ j, j < n → V.slots[j]? = some (.int (lo8 (f j))) ∧ ¬ 255 < f j) ∨ (cd = 1 ∧ V.slots.size = 2 * n ∧ (∀ j, j < n → V.slots[2 * j]? = some (.int (lo8 (f j))) ∧ V.slots[2 * j + 1]? = some (.int (hi8 (f j)))) ∧ ∃ j, j < n ∧ 255 < f j)
/-- **x is a String of the n chars f 0 .. f (n - 1)**, Latin-1 or UTF-16; its array at t has the cell V -/
def Txt (x t : Addr) (V : Cell) (cd : Int32) (n : Nat) (f : Nat → Int32) (U : State) : Prop := Exact "java/lang/String" x U ∧ Has x "java/lang/String" "value" "[B" (.ref t) U ∧ Has x "java/lang/String" "coder" "B" (.int cd) U ∧ XT.Arr .byte t V U ∧ Cod cd n f V ∧ ∀ j, j < n → ¬ f j < 0 ∧ ¬ 65535 < f j
theorem Txt.mv {x t : Addr} {V : Cell} {cd : Int32} {n : Nat} {f : Nat → Int32} {U U' : State} (h : Txt x t V cd n f U) (hal : U.vm.Alike U'.vm) (hh : U'.heap = U.heap) : Txt x t V cd n f U' := ⟨h.1.mv hal hh, h.2.1.mv hal hh, h.2.2.1.mv hal hh, h.2.2.2.1.mv hal hh, h.2.2.2.2⟩
end StrChars
namespace StrChars.Road
open Jvm Sem ClassFile Op Lib Jvm.Stand Jvm.Free Jvm.Free.XT
open Jvm.Lib.Cold (StaticIs)
theorem consq {a : Array Value} {s : State} {c : Jvm.Cond} {L : List Jvm.Cond} (h0 : c.before a s = true) (h : ∀ w ∈ L, w.before a s = true) : ∀ w ∈ c :: L, w.before a s = true := fun w hw => (List.mem_cons.mp hw).elim (fun e => e ▸ h0) (h w)
/-- the bytes of the chars cs, low before high -/
def wideBytes : List Int32 → List Value
  | [] => []
  | c :: cs => .int (lo8 c) :: .int (hi8 c) :: wideBytes cs
theorem wide_lo (d : Value) : ∀ (cs : List Int32) (j : Nat), j < cs.length → (wideBytes cs).getD (2 * j) d = .int (lo8 (cs.getD j 0))
  | [], j, h => absurd h (Nat.not_lt_zero j)
  | c :: cs, 0, _ => rfl
  | c :: cs, j + 1, h => by
    have q := wide_lo d cs j (by simpa using h)
    rw [show 2 * (j + 1) = 2 * j + 1 + 1 from by omega]
    simpa [wideBytes] using q
theorem wide_hi (d : Value) : ∀ (cs : List Int32) (j : Nat), j < cs.length → (wideBytes cs).getD (2 * j + 1) d = .int (hi8 (cs.getD j 0))
  | [], j, h => absurd h (Nat.not_lt_zero j)
  | c :: cs, 0, _ => rfl
  | c :: cs, j + 1, h => by
    have q := wide_hi d cs j (by simpa using h)
    rw [show 2 * (j + 1) + 1 = 2 * j + 1 + 1 + 1 from by omega]
    simpa [wideBytes] using q
theorem low_at (d : Value) (cs : List Int32) (j : Nat) (h : j < cs.length) : (cs.map fun c => Value.int (lo8 c)).getD j d = .int (lo8 (cs.getD j 0)) := by
  simp [List.getD_eq_getElem?_getD, h]
/-- an array of N2 bytes vs codes the chars cs by the coder cd -/
def CodA (cs : List Int32) (cd N2 : Int32) (vs : List Value) : Prop := (cd = 0 ∧ N2 = Int32.ofNat cs.length ∧ vs = (cs.map fun c => Value.int (lo8 c)) ∧ ∀ c ∈ cs, ¬ 255 < c) ∨ (cd = 1 ∧ N2 = Int32.ofNat (2 * cs.length) ∧ vs = wideBytes cs ∧ ∃ c ∈ cs, 255 < c)
theorem CodA.cod {cs : List Int32} {cd N2 : Int32} {vs : List Value} {V : Cell} (h : CodA cs cd N2 vs) (hn : 2 * cs.length < 2 ^ 31) (hs : V.slots.size = N2.toNatClampNeg) (hv : RoadKit.Has V vs (.int 0)) : Cod cd cs.length (fun j => cs.getD j 0) V := by
  rcases h with ⟨rfl, rfl, rfl, h⟩ | ⟨rfl, rfl, rfl, c, hc, hw⟩
  · rw [n32 (by omega)] at hs
    exact Or.inl ⟨rfl, hs, fun j hj => ⟨by rw [hv j (by omega), low_at _ _ _ hj], by
      have e : cs.getD j 0 = cs[j] := by simp [List.getD_eq_getElem?_getD, hj]
      show ¬ 255 < cs.getD j 0
      rw [e]; exact h _ (List.getElem_mem _)⟩⟩
  · rw [n32 (by omega)] at hs
    obtain ⟨j, hj, rfl⟩ := List.getElem_of_mem hc
    exact Or.inr ⟨rfl, hs, fun j hj => ⟨by rw [hv _ (by omega), wide_lo _ _ _ hj], by rw [hv _ (by omega), wide_hi _ _ _ hj]⟩, j, hj, by
      have e : cs.getD j 0 = cs[j] := by simp [List.getD_eq_getElem?_getD, hj]
      show 255 < cs.getD j 0
      rw [e]; exact hw⟩
/-- an object of exactly java/lang/String, its two fields found: as the laws ask it -/
theorem strObj {Z U : State} {a0 : Array Value} {kI : Nat} (wi : (Jvm.Cond.instantiable ST kI).before a0 Z = true) (al : Z.vm.Alike U.vm) {x : Addr} {v0 c0 : Value} (E : RoadKit.Exa Z U.heap x ST) (V : RoadKit.Fld Z U.heap x ST "value" "[B" v0) (C : RoadKit.Fld Z U.heap x ST "coder" "B" c0) :
    ∃ (D : Cell) (fV fC : Field), Blank ST x D U ∧ Found ST "value" "[B" fV U ∧ Found ST "coder" "B" fC U ∧ D.slots[fV.slot]? = some v0 ∧ D.slots[fC.slot]? = some c0 ∧ RoadKit.slotOf Z ST "value" "[B" = fV.slot ∧ RoadKit.slotOf Z ST "coder" "B" = fC.slot := by
  obtain ⟨D, cfV, kV, iV, fV, hD, gV, stV, knV, obV, asV, slV⟩ := V
  obtain ⟨D', cfC, kC, iC, fC, hD', gC, stC, -, -, asC, slC⟩ := C
  cases hD.symm.trans hD'
  obtain ⟨D2, kD, e1, e2, e3, e4, e5⟩ := E
  cases hD.symm.trans e1
  obtain ⟨c2, k2, i1, i2, i3, -⟩ := Cond.instantiable_spec wi
  cases e2.symm.trans i1
  cases e3.symm.trans i2
  obtain ⟨kU, u1, u2⟩ := al.2.2 _ _ e3
  exact ⟨D, fV, fC, ⟨hD, ⟨knV, fun q hq => by rw [hq] at obV; cases obV⟩, by rw [al.findClass]; exact e2, kU, u1, by rw [u2]; exact i3, by rw [u2]; exact e5 i3⟩, ⟨SBG.found_only al ⟨cfV, kV, iV, gV⟩, stV⟩, ⟨SBG.found_only al ⟨cfC, kC, iC, gC⟩, stC⟩, slV, slC, by simp [RoadKit.slotOf, gV], by simp [RoadKit.slotOf, gC]⟩
theorem sta_is {Z U : State} (al : Z.vm.Alike U.vm) {C n d : String} {v : Value} (S : RoadKit.Sta Z U.heap C n d v) : StaticIs U C n d v := by
  obtain ⟨cfS, iS, kS, fS, st, cS, t1, t2, t3, t4, t5, t6, t7⟩ := S
  exact StaticIs.there (s := { Z with heap := U.heap }) ⟨cfS, iS, kS, fS, st, cS, t1, t2, t3, t4, t5, (fun q => by rw [q] at t6; cases t6), t7⟩ al rfl
end StrChars.Road
namespace StrChars
open Jvm Sem ClassFile Op Lib Jvm.Stand Jvm.Free.XT Jvm.Free.ALB Jvm.Free.JM Jvm.Free
open Jvm.Lib.Cold (StaticIs)
/-- what place i of a byte[]'s cell holds -/
def yv (A : Cell) (i : Nat) : Int32 := match A.slots[i]? with | some (.int x) => x | _ => 0
theorem yv_get {a : Addr} {A : Cell} {U : State} (h : XT.Arr .byte a A U) (ht : Typed .byte A) {i : Nat} (hi : i < A.slots.size) : A.slots[i]? = some (.int (yv A i)) := by
  have e := Array.getElem?_eq_getElem hi
  have f := ht i _ e
  unfold yv; rw [e]
  generalize A.slots[i] = v at f
  cases v <;> simp [fits] at f ⊢
/-- the two arrays are equal, place for place -/
def EqC (A B : Cell) : Prop := A.slots.size = B.slots.size ∧ ∀ i, i < A.slots.size → yv A i = yv B i
/-- a boolean that says whether p -/
def Says01 (q : Prop) (r : Option Value) (s u : State) : Prop := ∃ v : Int32, r = some (.int v) ∧ u.heap = s.heap ∧ ((v = 1 ∧ q) ∨ (v = 0 ∧ ¬ q))
theorem Says01.mv {q : Prop} : ∀ r (U U' V V' : State), U'.heap = U.heap → V.vm.Alike V'.vm → V'.heap = V.heap → Says01 q r U V → Says01 q r U' V' :=
  fun r U U' V V' h1 _ h2 ⟨v, a, b, c⟩ => ⟨v, a, by rw [h1, h2]; exact b, c⟩
namespace LEq
def yN : MethodName := ⟨"java/lang/StringLatin1", "equals", "([B[B)Z"⟩
abbrev yB : ByteArray := jdk_43_method_13_code
theorem d0 : decode yB 0 = .ok (.aload_n 0, 1) := by decide +kernel
theorem d1 : decode yB 1 = .ok (.arraylength, 1) := by decide +kernel
theorem d2 : decode yB 2 = .ok (.aload_n 1, 1) := by decide +kernel
theorem d3 : decode yB 3 = .ok (.arraylength, 1) := by decide +kernel
theorem d4 : decode yB 4 = .ok (.if_icmp (.ne) 30, 3) := by decide +kernel
theorem d7 : decode yB 7 = .ok (.iconst 0, 1) := by decide +kernel
theorem d8 : decode yB 8 = .ok (.istore_n 2, 1) := by decide +kernel
theorem d9 : decode yB 9 = .ok (.iload_n 2, 1) := by decide +kernel
theorem d10 : decode yB 10 = .ok (.aload_n 0, 1) := by decide +kernel
theorem d11 : decode yB 11 = .ok (.arraylength, 1) := by decide +kernel
theorem d12 : decode yB 12 = .ok (.if_icmp (.ge) 20, 3) := by decide +kernel
theorem d15 : decode yB 15 = .ok (.aload_n 0, 1) := by decide +kernel
theorem d16 : decode yB 16 = .ok (.iload_n 2, 1) := by decide +kernel
theorem d17 : decode yB 17 = .ok (.baload, 1) := by decide +kernel
theorem d18 : decode yB 18 = .ok (.aload_n 1, 1) := by decide +kernel
theorem d19 : decode yB 19 = .ok (.iload_n 2, 1) := by decide +kernel
theorem d20 : decode yB 20 = .ok (.baload, 1) := by decide +kernel
theorem d21 : decode yB 21 = .ok (.if_icmp (.eq) 5, 3) := by decide +kernel
theorem d24 : decode yB 24 = .ok (.iconst 0, 1) := by decide +kernel
theorem d25 : decode yB 25 = .ok (.ireturn, 1) := by decide +kernel
theorem d26 : decode yB 26 = .ok (.iinc 2 1, 3) := by decide +kernel
theorem d29 : decode yB 29 = .ok (.goto (-20), 3) := by decide +kernel
theorem d32 : decode yB 32 = .ok (.iconst 1, 1) := by decide +kernel
theorem d33 : decode yB 33 = .ok (.ireturn, 1) := by decide +kernel
theorem d34 : decode yB 34 = .ok (.iconst 0, 1) := by decide +kernel
theorem d35 : decode yB 35 = .ok (.ireturn, 1) := by decide +kernel
def site : List Cond := []
def tab : Cond := tabOf yN yB 3 (some .boolean) site
def P (a : Addr) (A : Cell) (b : Addr) (B : Cell) (args : Array Value) (s : State) : Prop := args = #[.ref a, .ref b] ∧ XT.Arr .byte a A s ∧ Typed .byte A ∧ XT.Arr .byte b B s ∧ Typed .byte B
/-- whether two byte[] are equal, place for place -/
theorem law (l : Launch) (a : Addr) (A : Cell) (b : Addr) (B : Cell) : Law l yN 2 2 0 0 yB 3 (some .boolean) site (P a A b B) (Says01 (EqC A B)) [] 0 0 := by
  refine Law.of_walk (plainFor_of_name (by decide +kernel)) (by decide +kernel) (by decide +kernel) (by decide) (fun _ _ h => by rw [h.1]; rfl) (fun _ U U' hal hh h => ⟨h.1, h.2.1.mv hal hh, h.2.2.1, h.2.2.2.1.mv hal hh, h.2.2.2.2⟩) (fun r U U' V V' h1 hal h2 h => Says01.mv r U U' V V' h1 hal h2 h) ?_
  intro p e s m args below meth c s₁ X0 hexec hbytes hml hret hlk hnm hown hh0 W hP
  obtain ⟨rfl, hA, tA, hB, tB⟩ := hP
  have a31 := hA.2.2.2
  have b31 := hB.2.2.2
  have hA0 := hA.mv X0.warmed.alike hh0
  have hB0 := hB.mv X0.warmed.alike hh0
  have c1 : Steps p.tables e below (s₁.setTop (entryFrame m #[.ref a, .ref b] 3)) (s₁.setTop (mkF m 0 #[.val (.ref a), .val (.ref b), .unset] [])) := entry rfl
  have c2 : Steps p.tables e below (s₁.setTop (entryFrame m #[.ref a, .ref b] 3)) (s₁.setTop (mkF m 4 #[.val (.ref a), .val (.ref b), .unset] [.int (Int32.ofNat B.slots.size), .int (Int32.ofNat A.slots.size)])) := c1.trans (by
    refine XS.aloadN X0.here hexec rfl (hb hbytes d0) rfl rfl ?_
    refine X0.alen hexec hA0 rfl rfl (hb hbytes d1) ?_
    refine XS.aloadN X0.here hexec rfl (hb hbytes d2) rfl rfl ?_
    refine X0.alen hexec hB0 rfl rfl (hb hbytes d3) ?_
    exact Steps.refl _)
  by_cases hs : A.slots.size = B.slots.size
  · have c3 : Steps p.tables e below (s₁.setTop (entryFrame m #[.ref a, .ref b] 3)) (s₁.setTop (mkF m 9 #[.val (.ref a), .val (.ref b), .val (.int 0)] [])) := c2.trans (by
      refine XS.icmpNo X0.here hexec rfl (hb hbytes d4) rfl (ii_ne_f (by rw [hs])) ?_
      refine iconstV X0.here hexec rfl 0 (hb hbytes d7) (by decide) ?_
      refine XS.istoreN X0.here hexec rfl (hb hbytes d8) rfl rfl ?_
      exact Steps.refl _)
    have loop : ∀ (r i : Nat), i + r = A.slots.size → (∀ j, j < i → yv A j = yv B j) → Steps p.tables e below (s₁.setTop (entryFrame m #[.ref a, .ref b] 3)) (s₁.setTop (mkF m 9 #[.val (.ref a), .val (.ref b), .val (.int (Int32.ofNat i))] [])) → ∃ (pc : Nat) (Ls : Array Slot) (v : Int32), (pc = 25 ∨ pc = 33) ∧ ((v = 1 ∧ EqC A B) ∨ (v = 0 ∧ ¬ EqC A B)) ∧ Steps p.tables e below (s₁.setTop (entryFrame m #[.ref a, .ref b] 3)) (s₁.setTop (mkF m pc Ls [.int v])) := by
      intro r
      induction r with
      | zero =>
        intro i hi he cl
        exact ⟨33, _, 1, Or.inr rfl, Or.inl ⟨rfl, hs, fun j hj => he j (by omega)⟩, cl.trans (by
          refine XS.iloadN X0.here hexec rfl (hb hbytes d9) rfl ?_
          refine XS.aloadN X0.here hexec rfl (hb hbytes d10) rfl rfl ?_
          refine X0.alen hexec hA0 rfl rfl (hb hbytes d11) ?_
          refine XS.icmpYes X0.here hexec rfl (pc0 := 12) rfl (hb hbytes d12) rfl (ii_ge_t (nlt32 (by omega) (by omega))) (by decide) rfl ?_
          refine iconstV X0.here hexec rfl 1 (hb hbytes d32) (by decide) ?_
          exact Steps.refl _)⟩
      | succ r ih =>
        intro i hi he cl
        have c4 : Steps p.tables e below (s₁.setTop (entryFrame m #[.ref a, .ref b] 3)) (s₁.setTop (mkF m 21 #[.val (.ref a), .val (.ref b), .val (.int (Int32.ofNat i))] [.int (yv B i), .int (yv A i)])) := cl.trans (by
          refine XS.iloadN X0.here hexec rfl (hb hbytes d9) rfl ?_
          refine XS.aloadN X0.here hexec rfl (hb hbytes d10) rfl rfl ?_
          refine X0.alen hexec hA0 rfl rfl (hb hbytes d11) ?_
          refine XS.icmpNo X0.here hexec rfl (hb hbytes d12) rfl (ii_ge_f (lt32 (by omega) (by omega))) ?_
          refine XS.aloadN X0.here hexec rfl (hb hbytes d15) rfl rfl ?_
          refine XS.iloadN X0.here hexec rfl (hb hbytes d16) rfl ?_
          refine X0.aget hexec hA0 rfl (yv_get hA tA (i := i) (by omega)) rfl rfl (hb hbytes d17) ?_
          refine XS.aloadN X0.here hexec rfl (hb hbytes d18) rfl rfl ?_
          refine XS.iloadN X0.here hexec rfl (hb hbytes d19) rfl ?_
          refine X0.aget hexec hB0 rfl (yv_get hB tB (i := i) (by omega)) rfl rfl (hb hbytes d20) ?_
          exact Steps.refl _)
        by_cases hv : yv A i = yv B i
        · have c5 : Steps p.tables e below (s₁.setTop (entryFrame m #[.ref a, .ref b] 3)) (s₁.setTop (mkF m 9 #[.val (.ref a), .val (.ref b), .val (.int (Int32.ofNat i + 1))] [])) := c4.trans (by
            refine XS.icmpYes X0.here hexec rfl (pc0 := 21) rfl (hb hbytes d21) rfl (ii_eq_t hv) (by decide) rfl ?_
            refine iincV X0.here hexec rfl 1 (hb hbytes d26) (by decide) rfl rfl ?_
            refine XS.goto X0.here hexec rfl (pc0 := 29) rfl (hb hbytes d29) (by decide) rfl ?_
            exact Steps.refl _)
          rw [succ32] at c5
          exact ih (i + 1) (by omega) (fun j hj => by
            by_cases e : j = i
            · rw [e]; exact hv
            · exact he j (by omega)) c5
        · exact ⟨25, _, 0, Or.inl rfl, Or.inr ⟨rfl, fun q => hv (q.2 i (by omega))⟩, c4.trans (by
            refine XS.icmpNo X0.here hexec rfl (hb hbytes d21) rfl (ii_eq_f hv) ?_
            refine iconstV X0.here hexec rfl 0 (hb hbytes d24) (by decide) ?_
            exact Steps.refl _)⟩
    obtain ⟨pc, Ls, v, hpc, hv, cz⟩ := loop A.slots.size 0 (by omega) (fun j hj => absurd hj (Nat.not_lt_zero j)) c3
    have nv : narrow .boolean (.int v) = .int v := by rcases hv with ⟨rfl, -⟩ | ⟨rfl, -⟩ <;> rfl
    rcases hpc with rfl | rfl
    · exact ⟨s₁, some (.int v), _, _, _, X0, rfl, rfl, rfl, (fun h => by cases h), ⟨v, rfl, hh0, hv⟩, fun fs hl => cz.trans (X0.ireturnOut hexec hret nv (Or.inr (Or.inl rfl)) (hb hbytes d25) hl)⟩
    · exact ⟨s₁, some (.int v), _, _, _, X0, rfl, rfl, rfl, (fun h => by cases h), ⟨v, rfl, hh0, hv⟩, fun fs hl => cz.trans (X0.ireturnOut hexec hret nv (Or.inr (Or.inl rfl)) (hb hbytes d33) hl)⟩
  · have c3 : Steps p.tables e below (s₁.setTop (entryFrame m #[.ref a, .ref b] 3)) (s₁.setTop (mkF m 35 #[.val (.ref a), .val (.ref b), .unset] [.int 0])) := c2.trans (by
      refine XS.icmpYes X0.here hexec rfl (pc0 := 4) rfl (hb hbytes d4) rfl (ii_ne_t (ne32 a31 b31 hs)) (by decide) rfl ?_
      refine iconstV X0.here hexec rfl 0 (hb hbytes d34) (by decide) ?_
      exact Steps.refl _)
    exact ⟨s₁, some (.int 0), _, _, _, X0, rfl, rfl, rfl, (fun h => by cases h), ⟨0, rfl, hh0, Or.inr ⟨rfl, fun q => hs q.1⟩⟩, fun fs hl => c3.trans (X0.ireturnOut hexec hret rfl (Or.inr (Or.inl rfl)) (hb hbytes d35) hl)⟩
end LEq
theorem Cod.ty {cd : Int32} {n : Nat} {f : Nat → Int32} {V : Cell} (h : Cod cd n f V) : Typed .byte V := fun i v hv => by
  have hi : i < V.slots.size := (Array.getElem?_eq_some_iff.mp hv).1
  rcases h with ⟨-, k1, k2⟩ | ⟨-, k1, k2, -⟩
  · rw [(k2 i (by omega)).1] at hv; cases hv; exact fits_lo8 _
  · rcases Nat.mod_two_eq_zero_or_one i with e | e
    · obtain ⟨j, rfl⟩ : ∃ j, i = 2 * j := ⟨i / 2, by omega⟩
      rw [(k2 j (by omega)).1] at hv; cases hv; exact fits_lo8 _
    · obtain ⟨j, rfl⟩ : ∃ j, i = 2 * j + 1 := ⟨i / 2, by omega⟩
      rw [(k2 j (by omega)).2] at hv; cases hv; exact fits_lo8 _
/-- the same text -/
def SameT (n : Nat) (f : Nat → Int32) (k : Nat) (g : Nat → Int32) : Prop := n = k ∧ ∀ j, j < n → f j = g j
theorem lo8_inj {x y : Int32} (h0 : ¬ x < 0) (h1 : ¬ 255 < x) (k0 : ¬ y < 0) (k1 : ¬ 255 < y) (h : lo8 x = lo8 y) : x = y := by
  rw [← lo8_mask h0 h1, ← lo8_mask k0 k1, h]
/-- arrays coded by one coder are equal just where the texts are -/
theorem Cod.eqv {cd : Int32} {n k : Nat} {f g : Nat → Int32} {V V' : Cell} (h : Cod cd n f V) (h' : Cod cd k g V') (hf : ∀ j, j < n → ¬ f j < 0 ∧ ¬ 65535 < f j) (hg : ∀ j, j < k → ¬ g j < 0 ∧ ¬ 65535 < g j) : EqC V V' ↔ SameT n f k g := by
  have yvv : ∀ {W : Cell} {i : Nat} {x : Int32}, W.slots[i]? = some (.int x) → yv W i = x := fun q => by unfold yv; rw [q]
  rcases h with ⟨rfl, k1, k2⟩ | ⟨rfl, k1, k2, -⟩
  · rcases h' with ⟨-, m1, m2⟩ | ⟨e, -⟩
    · constructor
      · rintro ⟨e1, e2⟩
        refine ⟨by omega, fun j hj => ?_⟩
        have q := e2 j (by omega)
        rw [yvv (k2 j hj).1, yvv (m2 j (by omega)).1] at q
        exact lo8_inj (hf j hj).1 (k2 j hj).2 (hg j (by omega)).1 (m2 j (by omega)).2 q
      · rintro ⟨rfl, e2⟩
        refine ⟨by omega, fun j hj => ?_⟩
        rw [yvv (k2 j (by omega)).1, yvv (m2 j (by omega)).1, e2 j (by omega)]
    · exact absurd e (by decide)
  · rcases h' with ⟨e, -⟩ | ⟨-, m1, m2, -⟩
    · exact absurd e (by decide)
    · constructor
      · rintro ⟨e1, e2⟩
        refine ⟨by omega, fun j hj => ?_⟩
        have q1 := e2 (2 * j) (by omega)
        have q2 := e2 (2 * j + 1) (by omega)
        rw [yvv (k2 j hj).1, yvv (m2 j (by omega)).1] at q1
        rw [yvv (k2 j hj).2, yvv (m2 j (by omega)).2] at q2
        rw [← pair_says (hf j hj).1 (hf j hj).2, ← pair_says (hg j (by omega)).1 (hg j (by omega)).2, q1, q2]
      · rintro ⟨rfl, e2⟩
        refine ⟨by omega, fun i hi => ?_⟩
        rcases Nat.mod_two_eq_zero_or_one i with e | e
        · obtain ⟨j, rfl⟩ : ∃ j, i = 2 * j := ⟨i / 2, by omega⟩
          rw [yvv (k2 j (by omega)).1, yvv (m2 j (by omega)).1, e2 j (by omega)]
        · obtain ⟨j, rfl⟩ : ∃ j, i = 2 * j + 1 := ⟨i / 2, by omega⟩
          rw [yvv (k2 j (by omega)).2, yvv (m2 j (by omega)).2, e2 j (by omega)]
/-- two codings differ: so do the texts -/
theorem Cod.dif {cd cd' : Int32} {n k : Nat} {f g : Nat → Int32} {V V' : Cell} (h : Cod cd n f V) (h' : Cod cd' k g V') (hne : ¬ cd = cd') : ¬ SameT n f k g := by
  rintro ⟨rfl, e⟩
  rcases h with ⟨rfl, -, k2⟩ | ⟨rfl, -, -, j, hj, hw⟩
  · rcases h' with ⟨rfl, -⟩ | ⟨-, -, -, j, hj, hw⟩
    · exact hne rfl
    · exact (k2 j hj).2 (by rw [e j hj]; exact hw)
  · rcases h' with ⟨-, -, m2⟩ | ⟨rfl, -⟩
    · exact (m2 j hj).2 (by rw [← e j hj]; exact hw)
    · exact hne rfl
/-- an object of exactly C is an instance of C -/
theorem cinst {p : Program} {l : Launch} {e : Env} {R : Room} {s : State} {m : MethodId} {args : Array Value} {below : List Frame} {meth : Method} {c : Code} {T : State} {locs : List Loc} {cells slots : Nat} (X : Stand p l e R s m args below meth c T locs cells slots) (hexec : p.tables.exec = Jvm.exec) {own C : String} {index : Nat} (hown : s.vm.findClass own = some m.cls) (hlink : (Cond.classLink own index C).before args s = true) {a : Addr} (hE : Exact C a T)
    {g : JFrame} (hg : g.method = m) {rest : List Value} (hstack : g.stack = .ref a :: rest) (hdg : decode c.code g.pc = .ok (.instanceof index, 3)) :
    ∃ T', Stand p l e R s m args below meth c T' locs cells slots ∧ T'.heap = T.heap ∧ ∀ target, Steps p.tables e below (T'.setTop { g with pc := g.pc + 3, stack := .int 1 :: rest }) target → Steps p.tables e below (T.setTop g) target := by
  obtain ⟨cB, h1, D, h2, h3, h4⟩ := hE
  have h1' : s.vm.findClass C = some cB := by rw [← X.warmed.alike.findClass]; exact h1
  obtain ⟨vm', X', st⟩ := X.instanceofYes hexec hown hlink h2 h4 h1' (by rw [h3]; exact Jvm.Free.SB.assignable_self _ _) hg hstack hdg
  exact ⟨_, X', rfl, st⟩
theorem cself {p : Program} {l : Launch} {e : Env} {R : Room} {s : State} {m : MethodId} {args : Array Value} {below : List Frame} {meth : Method} {c : Code} {T : State} {locs : List Loc} {cells slots : Nat} (X : Stand p l e R s m args below meth c T locs cells slots) (hexec : p.tables.exec = Jvm.exec) {own C : String} {index : Nat} (hown : s.vm.findClass own = some m.cls) (hlink : (Cond.classLink own index C).before args s = true) {a : Addr} (hE : Exact C a T)
    {g : JFrame} (hg : g.method = m) {rest : List Value} (hstack : g.stack = .ref a :: rest) (hdg : decode c.code g.pc = .ok (.checkcast index, 3)) :
    ∃ T', Stand p l e R s m args below meth c T' locs cells slots ∧ T'.heap = T.heap ∧ ∀ target, Steps p.tables e below (T'.setTop { g with pc := g.pc + 3, stack := .ref a :: rest }) target → Steps p.tables e below (T.setTop g) target := by
  obtain ⟨cB, h1, D, h2, h3, h4⟩ := hE
  have h1' : s.vm.findClass C = some cB := by rw [← X.warmed.alike.findClass]; exact h1
  obtain ⟨vm', X', st⟩ := X.checkcastYes hexec hown hlink h2 h4 h1' (by rw [h3]; exact Jvm.Free.SB.assignable_self _ _) hg hstack hdg
  exact ⟨_, X', rfl, fun t h => st t (by rw [← hstack] at h; exact h)⟩
namespace SEq
def yN : MethodName := ⟨"java/lang/String", "equals", "(Ljava/lang/Object;)Z"⟩
abbrev yB : ByteArray := jdk_42_method_66_code
theorem d0 : decode yB 0 = .ok (.aload_n 0, 1) := by decide +kernel
theorem d1 : decode yB 1 = .ok (.aload_n 1, 1) := by decide +kernel
theorem d2 : decode yB 2 = .ok (.if_acmp (.ne) 5, 3) := by decide +kernel
theorem d5 : decode yB 5 = .ok (.iconst 1, 1) := by decide +kernel
theorem d6 : decode yB 6 = .ok (.ireturn, 1) := by decide +kernel
theorem d7 : decode yB 7 = .ok (.aload_n 1, 1) := by decide +kernel
theorem d8 : decode yB 8 = .ok (.instanceof 10, 3) := by decide +kernel
theorem d11 : decode yB 11 = .ok (.ifCond (.eq) 43, 3) := by decide +kernel
theorem d14 : decode yB 14 = .ok (.aload_n 1, 1) := by decide +kernel
theorem d15 : decode yB 15 = .ok (.checkcast 10, 3) := by decide +kernel
theorem d18 : decode yB 18 = .ok (.astore_n 2, 1) := by decide +kernel
theorem d19 : decode yB 19 = .ok (.getstatic 38, 3) := by decide +kernel
theorem d22 : decode yB 22 = .ok (.ifCond (.eq) 14, 3) := by decide +kernel
theorem d25 : decode yB 25 = .ok (.aload_n 0, 1) := by decide +kernel
theorem d26 : decode yB 26 = .ok (.getfield 15, 3) := by decide +kernel
theorem d29 : decode yB 29 = .ok (.aload_n 2, 1) := by decide +kernel
theorem d30 : decode yB 30 = .ok (.getfield 15, 3) := by decide +kernel
theorem d33 : decode yB 33 = .ok (.if_icmp (.ne) 21, 3) := by decide +kernel
theorem d36 : decode yB 36 = .ok (.aload_n 0, 1) := by decide +kernel
theorem d37 : decode yB 37 = .ok (.getfield 9, 3) := by decide +kernel
theorem d40 : decode yB 40 = .ok (.aload_n 2, 1) := by decide +kernel
theorem d41 : decode yB 41 = .ok (.getfield 9, 3) := by decide +kernel
theorem d44 : decode yB 44 = .ok (.invokestatic 541, 3) := by decide +kernel
theorem d47 : decode yB 47 = .ok (.ifCond (.eq) 7, 3) := by decide +kernel
theorem d50 : decode yB 50 = .ok (.iconst 1, 1) := by decide +kernel
theorem d51 : decode yB 51 = .ok (.goto 4, 3) := by decide +kernel
theorem d54 : decode yB 54 = .ok (.iconst 0, 1) := by decide +kernel
theorem d55 : decode yB 55 = .ok (.ireturn, 1) := by decide +kernel
def site : List Cond := [.classLink "java/lang/String" 10 "java/lang/String", .fieldLink "java/lang/String" 38 "java/lang/String" "COMPACT_STRINGS" "Z", .fieldLink "java/lang/String" 15 "java/lang/String" "coder" "B", .fieldLink "java/lang/String" 9 "java/lang/String" "value" "[B", LEq.tab] ++ staticW "java/lang/String" 541 LEq.yN
def tab : Cond := tabOf yN yB 3 (some .boolean) site
def P (x t : Addr) (V : Cell) (cd : Int32) (n : Nat) (f : Nat → Int32) (y t' : Addr) (V' : Cell) (cd' : Int32) (k : Nat) (g : Nat → Int32) (z : Int32) (args : Array Value) (s : State) : Prop := args = #[.ref x, .ref y] ∧ Txt x t V cd n f s ∧ Txt y t' V' cd' k g s ∧ StaticIs s "java/lang/String" "COMPACT_STRINGS" "Z" (.int z) ∧ ¬ z = 0
/-- equals(Object) of two Strings: whether the texts are the same -/
theorem law (l : Launch) (x t : Addr) (V : Cell) (cd : Int32) (n : Nat) (f : Nat → Int32) (y t' : Addr) (V' : Cell) (cd' : Int32) (k : Nat) (g : Nat → Int32) (z : Int32) : Law l yN 2 1 1 14 yB 3 (some .boolean) site (P x t V cd n f y t' V' cd' k g z) (Says01 (SameT n f k g)) [] 0 0 := by
  refine Law.of_walk (plainFor_of_name (by decide +kernel)) (by decide +kernel) (by decide +kernel) (by decide) (fun _ _ h => by rw [h.1]; rfl) (fun _ U U' hal hh h => ⟨h.1, h.2.1.mv hal hh, h.2.2.1.mv hal hh, h.2.2.2.1.there hal hh, h.2.2.2.2⟩) (fun r U U' V V' h1 hal h2 h => Says01.mv r U U' V V' h1 hal h2 h) ?_
  intro p e s m args below meth c s₁ X0 hexec hbytes hml hret hlk hnm hown hh0 W hP
  obtain ⟨rfl, hx, hy, s1, hz⟩ := hP
  have c1 : Steps p.tables e below (s₁.setTop (entryFrame m #[.ref x, .ref y] 3)) (s₁.setTop (mkF m 2 #[.val (.ref x), .val (.ref y), .unset] [.ref y, .ref x])) := Steps.trans (entry rfl) (by
    show Steps p.tables e below (s₁.setTop (mkF m 0 #[.val (.ref x), .val (.ref y), .unset] [])) _
    refine XS.aloadN X0.here hexec rfl (hb hbytes d0) rfl rfl ?_
    refine XS.aloadN X0.here hexec rfl (hb hbytes d1) rfl rfl ?_
    exact Steps.refl _)
  by_cases hxy : x = y
  · have c2 : Steps p.tables e below (s₁.setTop (entryFrame m #[.ref x, .ref y] 3)) (s₁.setTop (mkF m 6 #[.val (.ref x), .val (.ref y), .unset] [.int 1])) := c1.trans (by
      refine acmpNo X0.here hexec rfl (hb hbytes d2) rfl rfl rfl (by simp [acmp, hxy]) ?_
      refine iconstV X0.here hexec rfl 1 (hb hbytes d5) (by decide) ?_
      exact Steps.refl _)
    subst hxy
    have ec : cd = cd' := by
      obtain ⟨D, fd, a1, a2, a3⟩ := hx.2.2.1
      obtain ⟨D', fd', b1, b2, b3⟩ := hy.2.2.1
      cases a1.symm.trans b1
      obtain ⟨q1, q2, q3, q4⟩ := a2.1
      obtain ⟨r1, r2, r3, r4⟩ := b2.1
      cases q4.symm.trans r4
      cases a3.symm.trans b3; rfl
    have et : t = t' := by
      obtain ⟨D, fd, a1, a2, a3⟩ := hx.2.1
      obtain ⟨D', fd', b1, b2, b3⟩ := hy.2.1
      cases a1.symm.trans b1
      obtain ⟨q1, q2, q3, q4⟩ := a2.1
      obtain ⟨r1, r2, r3, r4⟩ := b2.1
      cases q4.symm.trans r4
      cases a3.symm.trans b3; rfl
    subst ec et
    have ev : V = V' := by cases hx.2.2.2.1.1.symm.trans hy.2.2.2.1.1; rfl
    subst ev
    have hs : SameT n f k g := (Cod.eqv hx.2.2.2.2.1 hy.2.2.2.2.1 hx.2.2.2.2.2 hy.2.2.2.2.2).mp ⟨rfl, fun _ _ => rfl⟩
    exact ⟨s₁, some (.int 1), _, _, _, X0, rfl, rfl, rfl, (fun h => by cases h), ⟨1, rfl, hh0, Or.inl ⟨rfl, hs⟩⟩, fun fs hl => c2.trans (X0.ireturnOut hexec hret rfl (Or.inr (Or.inl rfl)) (hb hbytes d6) hl)⟩
  · have c2 : Steps p.tables e below (s₁.setTop (entryFrame m #[.ref x, .ref y] 3)) (s₁.setTop (mkF m 8 #[.val (.ref x), .val (.ref y), .unset] [.ref y])) := c1.trans (by
      refine acmpYes X0.here hexec rfl (pc0 := 2) rfl (hb hbytes d2) rfl rfl rfl (by simp [acmp, hxy]) (by decide) rfl ?_
      refine XS.aloadN X0.here hexec rfl (hb hbytes d7) rfl rfl ?_
      exact Steps.refl _)
    obtain ⟨T3, X3, q3, st3⟩ := cinst X0 hexec hown (wk W (.classLink "java/lang/String" 10 "java/lang/String")) (hy.mv X0.warmed.alike hh0).1 (g := (mkF m 8 #[.val (.ref x), .val (.ref y), .unset] [.ref y])) rfl (rest := []) rfl (hb hbytes d8)
    have hh3 := q3.trans hh0
    have c4 : Steps p.tables e below (s₁.setTop (entryFrame m #[.ref x, .ref y] 3)) (T3.setTop (mkF m 15 #[.val (.ref x), .val (.ref y), .unset] [.ref y])) := (c2.trans (st3 _ (Steps.refl _))).trans (by
      refine XS.ifNo X3.here hexec rfl (hb hbytes d11) rfl (i0_eq_f (by decide)) ?_
      refine XS.aloadN X3.here hexec rfl (hb hbytes d14) rfl rfl ?_
      exact Steps.refl _)
    obtain ⟨T5, X5, q5, st5⟩ := cself X3 hexec hown (wk W (.classLink "java/lang/String" 10 "java/lang/String")) (hy.mv X3.warmed.alike hh3).1 (g := (mkF m 15 #[.val (.ref x), .val (.ref y), .unset] [.ref y])) rfl (rest := []) rfl (hb hbytes d15)
    have hh5 := q5.trans hh3
    have c6 : Steps p.tables e below (s₁.setTop (entryFrame m #[.ref x, .ref y] 3)) (T5.setTop (mkF m 19 #[.val (.ref x), .val (.ref y), .val (.ref y)] [])) := (c4.trans (st5 _ (Steps.refl _))).trans (by
      refine XS.astoreN X5.here hexec rfl (hb hbytes d18) rfl rfl rfl ?_
      exact Steps.refl _)
    obtain ⟨T7, X7, q7, st7⟩ := X5.sget hexec hown (wk W (.fieldLink "java/lang/String" 38 "java/lang/String" "COMPACT_STRINGS" "Z")) s1 (fun _ _ h => by rw [hh5]; exact h) (g := (mkF m 19 #[.val (.ref x), .val (.ref y), .val (.ref y)] [])) rfl (hb hbytes d19)
    have hh7 := q7.trans hh5
    have c8 : Steps p.tables e below (s₁.setTop (entryFrame m #[.ref x, .ref y] 3)) (T7.setTop (mkF m 26 #[.val (.ref x), .val (.ref y), .val (.ref y)] [.ref x])) := (c6.trans (st7 _ (Steps.refl _))).trans (by
      refine XS.ifNo X7.here hexec rfl (hb hbytes d22) rfl (i0_eq_f hz) ?_
      refine XS.aloadN X7.here hexec rfl (hb hbytes d25) rfl rfl ?_
      exact Steps.refl _)
    obtain ⟨T9, X9, q9, st9⟩ := X7.hget hexec hown (wk W (.fieldLink "java/lang/String" 15 "java/lang/String" "coder" "B")) (hx.mv X7.warmed.alike hh7).2.2.1 (g := (mkF m 26 #[.val (.ref x), .val (.ref y), .val (.ref y)] [.ref x])) rfl (rest := []) rfl (hb hbytes d26)
    have hh9 := q9.trans hh7
    have c10 : Steps p.tables e below (s₁.setTop (entryFrame m #[.ref x, .ref y] 3)) (T9.setTop (mkF m 30 #[.val (.ref x), .val (.ref y), .val (.ref y)] [.ref y, .int cd])) := (c8.trans (st9 _ (Steps.refl _))).trans (by
      refine XS.aloadN X9.here hexec rfl (hb hbytes d29) rfl rfl ?_
      exact Steps.refl _)
    obtain ⟨T11, X11, q11, st11⟩ := X9.hget hexec hown (wk W (.fieldLink "java/lang/String" 15 "java/lang/String" "coder" "B")) (hy.mv X9.warmed.alike hh9).2.2.1 (g := (mkF m 30 #[.val (.ref x), .val (.ref y), .val (.ref y)] [.ref y, .int cd])) rfl (rest := [.int cd]) rfl (hb hbytes d30)
    have hh11 := q11.trans hh9
    have c12 : Steps p.tables e below (s₁.setTop (entryFrame m #[.ref x, .ref y] 3)) (T11.setTop (mkF m 33 #[.val (.ref x), .val (.ref y), .val (.ref y)] [.int cd', .int cd])) := c10.trans (st11 _ (Steps.refl _))
    by_cases hcd : cd = cd'
    · subst hcd
      have c13 : Steps p.tables e below (s₁.setTop (entryFrame m #[.ref x, .ref y] 3)) (T11.setTop (mkF m 37 #[.val (.ref x), .val (.ref y), .val (.ref y)] [.ref x])) := c12.trans (by
        refine XS.icmpNo X11.here hexec rfl (hb hbytes d33) rfl (ii_ne_f rfl) ?_
        refine XS.aloadN X11.here hexec rfl (hb hbytes d36) rfl rfl ?_
        exact Steps.refl _)
      obtain ⟨T14, X14, q14, st14⟩ := X11.hget hexec hown (wk W (.fieldLink "java/lang/String" 9 "java/lang/String" "value" "[B")) (hx.mv X11.warmed.alike hh11).2.1 (g := (mkF m 37 #[.val (.ref x), .val (.ref y), .val (.ref y)] [.ref x])) rfl (rest := []) rfl (hb hbytes d37)
      have hh14 := q14.trans hh11
      have c15 : Steps p.tables e below (s₁.setTop (entryFrame m #[.ref x, .ref y] 3)) (T14.setTop (mkF m 41 #[.val (.ref x), .val (.ref y), .val (.ref y)] [.ref y, .ref t])) := (c13.trans (st14 _ (Steps.refl _))).trans (by
        refine XS.aloadN X14.here hexec rfl (hb hbytes d40) rfl rfl ?_
        exact Steps.refl _)
      obtain ⟨T16, X16, q16, st16⟩ := X14.hget hexec hown (wk W (.fieldLink "java/lang/String" 9 "java/lang/String" "value" "[B")) (hy.mv X14.warmed.alike hh14).2.1 (g := (mkF m 41 #[.val (.ref x), .val (.ref y), .val (.ref y)] [.ref y, .ref t])) rfl (rest := [.ref t]) rfl (hb hbytes d41)
      have hh16 := q16.trans hh14
      have c17 : Steps p.tables e below (s₁.setTop (entryFrame m #[.ref x, .ref y] 3)) (T16.setTop (mkF m 44 #[.val (.ref x), .val (.ref y), .val (.ref y)] [.ref t', .ref t])) := c15.trans (st16 _ (Steps.refl _))
      obtain ⟨v18, T18, X18, E18, g18⟩ := X16.callS hexec (LEq.law l t V t' V') hown (wks W (staticW "java/lang/String" 541 LEq.yN)) (wk W LEq.tab) (W := 0) (Nat.le_of_ble_eq_true rfl) (Nat.le_of_ble_eq_true rfl) (Nat.le_refl _) (Nat.le_refl _) (g := (mkF m 44 #[.val (.ref x), .val (.ref y), .val (.ref y)] [.ref t', .ref t])) rfl (by rw [hml]; rfl) c17 (argsL := [.ref t, .ref t']) (rest := []) rfl rfl (by show 2 * 0 + 0 ≤ _; decide) (hb hbytes d44) (⟨rfl, hx.2.2.2.1.mv X16.warmed.alike hh16, hx.2.2.2.2.1.ty, hy.2.2.2.1.mv X16.warmed.alike hh16, hy.2.2.2.2.1.ty⟩)
      obtain ⟨v, rfl, q18, hv⟩ := E18
      have iff := Cod.eqv hx.2.2.2.2.1 hy.2.2.2.2.1 hx.2.2.2.2.2 hy.2.2.2.2.2
      rcases hv with ⟨rfl, he⟩ | ⟨rfl, he⟩
      · have c19 : Steps p.tables e below (s₁.setTop (entryFrame m #[.ref x, .ref y] 3)) (T18.setTop (mkF m 55 #[.val (.ref x), .val (.ref y), .val (.ref y)] [.int 1])) := Steps.trans g18 (by
          refine XS.ifNo X18.here hexec rfl (hb hbytes d47) rfl (i0_eq_f (by decide)) ?_
          refine iconstV X18.here hexec rfl 1 (hb hbytes d50) (by decide) ?_
          refine XS.goto X18.here hexec rfl (pc0 := 51) rfl (hb hbytes d51) (by decide) rfl ?_
          exact Steps.refl _)
        exact ⟨T18, some (.int 1), _, _, _, X18, rfl, rfl, rfl, (fun h => by cases h), ⟨1, rfl, q18.trans hh16, Or.inl ⟨rfl, iff.mp he⟩⟩, fun fs hl => c19.trans (X18.ireturnOut hexec hret rfl (Or.inr (Or.inl rfl)) (hb hbytes d55) hl)⟩
      · have c19 : Steps p.tables e below (s₁.setTop (entryFrame m #[.ref x, .ref y] 3)) (T18.setTop (mkF m 55 #[.val (.ref x), .val (.ref y), .val (.ref y)] [.int 0])) := Steps.trans g18 (by
          refine XS.ifYes X18.here hexec rfl (pc0 := 47) rfl (hb hbytes d47) rfl (i0_eq_t rfl) (by decide) rfl ?_
          refine iconstV X18.here hexec rfl 0 (hb hbytes d54) (by decide) ?_
          exact Steps.refl _)
        exact ⟨T18, some (.int 0), _, _, _, X18, rfl, rfl, rfl, (fun h => by cases h), ⟨0, rfl, q18.trans hh16, Or.inr ⟨rfl, fun q => he (iff.mpr q)⟩⟩, fun fs hl => c19.trans (X18.ireturnOut hexec hret rfl (Or.inr (Or.inl rfl)) (hb hbytes d55) hl)⟩
    · have c13 : Steps p.tables e below (s₁.setTop (entryFrame m #[.ref x, .ref y] 3)) (T11.setTop (mkF m 55 #[.val (.ref x), .val (.ref y), .val (.ref y)] [.int 0])) := c12.trans (by
        refine XS.icmpYes X11.here hexec rfl (pc0 := 33) rfl (hb hbytes d33) rfl (ii_ne_t hcd) (by decide) rfl ?_
        refine iconstV X11.here hexec rfl 0 (hb hbytes d54) (by decide) ?_
        exact Steps.refl _)
      exact ⟨T11, some (.int 0), _, _, _, X11, rfl, rfl, rfl, (fun h => by cases h), ⟨0, rfl, hh11, Or.inr ⟨rfl, Cod.dif hx.2.2.2.2.1 hy.2.2.2.2.1 hcd⟩⟩, fun fs hl => c13.trans (X11.ireturnOut hexec hret rfl (Or.inr (Or.inl rfl)) (hb hbytes d55) hl)⟩
theorem pays {l : Launch} {R : Room} {p : Program} {e : Env} {below : List Frame} {s : State} {sargs : Array Value} {len W : Nat} (x t : Addr) (V : Cell) (cd : Int32) (n : Nat) (f : Nat → Int32) (y t' : Addr) (V' : Cell) (cd' : Int32) (k : Nat) (g : Nat → Int32) (z : Int32) (htab : tab.before sargs s = true) (hfr : 2 ≤ R.frames) (hlo : W + 28 ≤ R.locals) :
    Back l R p e below s sargs yN len W (fun A₁ a₁ => A₁.cells + 0 ≤ R.cells ∧ A₁.slots + 0 ≤ R.slots ∧ P x t V cd n f y t' V' cd' k g z a₁ A₁.U) (fun A₁ _ v₁ B₁ => Says01 (SameT n f k g) v₁ A₁.U B₁.U ∧ B₁.locs = A₁.locs ++ [] ∧ B₁.cells = A₁.cells + 0 ∧ B₁.slots = A₁.slots + 0) :=
  (law l x t V cd n f y t' V' cd' k g z).pays htab hfr (by omega)
end SEq
end StrChars
namespace StrChars.Road
open Jvm Sem ClassFile Op Lib Jvm.Stand Jvm.Free Jvm.Free.XT
open Jvm.Lib.Cold (StaticIs)
/-- the words of String.equals(Object) -/
abbrev wordsEq : List Jvm.Cond := [.code SEq.yN SEq.yB 3 (some .boolean), .initialized ST, .classLink ST 10 ST, .fieldLink ST 38 ST "COMPACT_STRINGS" "Z", .fieldLink ST 15 ST "coder" "B", .fieldLink ST 9 ST "value" "[B", .methodLink ST 541 LEq.yN, .static LEq.yN, .code LEq.yN LEq.yB 3 (some .boolean), .initialized "java/lang/StringLatin1"]
theorem tabEq_of {a : Array Value} {s : State} (h : ∀ w ∈ wordsEq, w.before a s = true) : SEq.tab.before a s = true := by
  have hl : LEq.tab.before a s = true := unparts (wk h (.code LEq.yN LEq.yB 3 (some .boolean))) (wks h (.initialized LEq.yN.cls :: LEq.site))
  have q := consq hl h
  exact unparts (wk q (.code SEq.yN SEq.yB 3 (some .boolean))) (wks q (.initialized SEq.yN.cls :: SEq.site))
theorem movedEq {Z s : State} {a0 args : Array Value} (hZ : Z.Warmed39 s.vm) (hw : ∀ d ∈ wordsEq, d.before a0 Z = true) : ∀ d ∈ wordsEq, d.before args s = true := fun d hd => by
  have t : ∀ d ∈ wordsEq, (d.onTables && d.keepsFace) = true := by decide +kernel
  exact RoadKit.mv hZ (hw d hd) (t d hd)
/-- the road's facts of a String, as the laws ask it -/
theorem txt_of {Z U : State} {a0 : Array Value} {kI : Nat} (wi : (Jvm.Cond.instantiable ST kI).before a0 Z = true) (al : Z.vm.Alike U.vm) {x t : Addr} {kb : ClassId} {cs : List Int32} {cd N2 : Int32} {vs : List Value} (E : RoadKit.Exa Z U.heap x ST) (V : RoadKit.Fld Z U.heap x ST "value" "[B" (.ref t)) (C : RoadKit.Fld Z U.heap x ST "coder" "B" (.int cd)) (K : RoadKit.Arv Z U.heap t kb .byte N2 vs (.int 0)) (hc : CodA cs cd N2 vs) (hb : ∀ c ∈ cs, ¬ c < 0 ∧ ¬ (65535 : Int32) < c) (l2 : cs.length ≤ 4000) :
    ∃ A, Txt x t A cd cs.length (fun j => cs.getD j 0) U := by
  obtain ⟨A, K1, K2, K3, K4, K5, K6⟩ := K
  have hcod := hc.cod (by omega) K3 K5
  obtain ⟨D, fV, fC, hB, F1, F2, g1, g2, -, -⟩ := strObj wi al E V C
  exact ⟨A, ⟨_, hB.2.2.1, D, hB.1, rfl, by cases q : D.vm <;> first | rfl | exact absurd q (hB.2.1.2 _)⟩, Has.of hB F1 g1, Has.of hB F2 g2, ⟨K1.1, State.isArrayOf_alike al K1.2.1, K1.2.2, by rcases hcod with ⟨-, q, -⟩ | ⟨-, q, -⟩ <;> omega⟩, hcod, fun j hj => by
    have e : cs.getD j 0 = cs[j] := by simp [List.getD_eq_getElem?_getD, hj]
    show ¬ cs.getD j 0 < 0 ∧ ¬ 65535 < cs.getD j 0
    rw [e]; exact hb _ (List.getElem_mem _)⟩
theorem same_list (cs ds : List Int32) : SameT cs.length (fun j => cs.getD j 0) ds.length (fun j => ds.getD j 0) ↔ cs = ds := by
  constructor
  · rintro ⟨e, q⟩
    refine List.ext_getElem e fun j h1 h2 => ?_
    have := q j h1
    simpa [List.getD_eq_getElem?_getD, h1, h2] using this
  · rintro rfl
    exact ⟨rfl, fun _ _ => rfl⟩
/-- **equals(Object) OF TWO SUCH STRINGS**: 1 just where the chars are the same -/
theorem eqW {p : Program} {l : Launch} {e : Env} {R : Room} {s : State} {args : Array Value} {below : List Frame} {len W : Nat} {Z : State} {a0 : Array Value} {h : Heap} (hZ : Z.Warmed39 s.vm) (hw : ∀ d ∈ wordsEq, d.before a0 Z = true) {kI : Nat} (wi : (Jvm.Cond.instantiable ST kI).before a0 Z = true)
    {x t : Addr} {kb : ClassId} {cs : List Int32} {cd N2 : Int32} {vs : List Value} (E : RoadKit.Exa Z h x ST) (V : RoadKit.Fld Z h x ST "value" "[B" (.ref t)) (C : RoadKit.Fld Z h x ST "coder" "B" (.int cd)) (K : RoadKit.Arv Z h t kb .byte N2 vs (.int 0)) (hc : CodA cs cd N2 vs) (hb : ∀ c ∈ cs, ¬ c < 0 ∧ ¬ (65535 : Int32) < c) (l2 : cs.length ≤ 4000)
    {y t' : Addr} {kb' : ClassId} {ds : List Int32} {cd' N2' : Int32} {vs' : List Value} (E' : RoadKit.Exa Z h y ST) (V' : RoadKit.Fld Z h y ST "value" "[B" (.ref t')) (C' : RoadKit.Fld Z h y ST "coder" "B" (.int cd')) (K' : RoadKit.Arv Z h t' kb' .byte N2' vs' (.int 0)) (hc' : CodA ds cd' N2' vs') (hb' : ∀ c ∈ ds, ¬ c < 0 ∧ ¬ (65535 : Int32) < c) (l2' : ds.length ≤ 4000)
    {z : Int32} (S : RoadKit.Sta Z h ST "COMPACT_STRINGS" "Z" (.int z)) (hz : ¬ z = 0) (hfr : 2 ≤ R.frames) (hlo : W + 28 ≤ R.locals) :
    Back l R p e below s args (⟨"java/lang/String", "equals", "(Ljava/lang/Object;)Z"⟩ : MethodName) len W (fun P a => a = #[.ref x, .ref y] ∧ P.U.heap = h ∧ P.cells + 0 ≤ R.cells ∧ P.slots + 0 ≤ R.slots)
      (fun P _ v B => ∃ L, (((v = some (.int 1) ∧ cs = ds) ∨ (v = some (.int 0) ∧ ¬ cs = ds)) ∧ L = [] ∧ B.U.heap = h) ∧ B.locs = P.locs ++ L ∧ B.cells = P.cells + 0 ∧ B.slots = P.slots + 0) := by
  intro m meth c P g ig mk a X hg hsize hdg hW hn hp'
  obtain ⟨rfl, rfl, r1, r2⟩ := hp'
  have al : Z.vm.Alike P.U.vm := hZ.alike.trans X.warmed.alike
  obtain ⟨A, hx⟩ := txt_of wi al E V C K hc hb l2
  obtain ⟨A', hy⟩ := txt_of wi al E' V' C' K' hc' hb' l2'
  obtain ⟨v, B, X', ⟨⟨w, hv, hh, hq⟩, hl, hk, hs⟩, st⟩ := SEq.pays x t A cd cs.length (fun j => cs.getD j 0) y t' A' cd' ds.length (fun j => ds.getD j 0) z (tabEq_of (movedEq hZ hw)) hfr hlo m meth c P g ig mk _ X hg hsize hdg hW hn ⟨r1, r2, rfl, hx, hy, sta_is al S, hz⟩
  refine ⟨v, B, X', ⟨[], ⟨?_, rfl, hh⟩, hl, hk, hs⟩, st⟩
  rcases hq with ⟨rfl, q⟩ | ⟨rfl, q⟩
  · exact Or.inl ⟨hv, (same_list cs ds).mp q⟩
  · exact Or.inr ⟨hv, fun e => q ((same_list cs ds).mpr e)⟩
end StrChars.Road
namespace StrChars.Road
open Jvm Sem ClassFile Op Lib Jvm.Stand Jvm.Free Jvm.Free.XT
open Jvm.Lib.Cold (StaticIs)
/-- what backV says of its String, as the contracts of this text ask it: cs's low bytes, coder 0 -/
theorem codOf {cs : List Int32} {n : Nat} (hn : cs.length = n) (hb : ∀ c ∈ cs, ¬ 255 < c) : CodA cs 0 (Int32.ofNat n) ((cs.map lo8).map Value.int) := Or.inl ⟨rfl, by rw [hn], by simp [List.map_map, Function.comp_def], hb⟩
end StrChars.Road
end Jvm.Pilot.@@N@@
namespace Jvm.Pilot.@@N@@
open Jvm Jvm.ClassFile Sem Op Lib Jvm.Free Jvm.Stand Jvm.LawKit Jvm.RoadKit Bundle Jvm.Pilot.@@N@@.Jvm.D
theorem own_sz {Z : State} {n0 : Nat} {h : Heap} (O : Old Z n0 h) : n0 ≤ h.size := O.1 ▸ O.2.1
theorem own_sta {args : Array Value} {s : State} {C n d K : String} (h : (Jvm.Cond.exactly (.static C n d) K).value args s none s [] = some true) (hi : (Jvm.Cond.initialized C).before args s = true) (hl : (Jvm.Cond.laysStatic C n d).before args s = true) :
    ∃ a, Sta s s.heap C n d (.ref a) ∧ Exa s s.heap a K ∧ (Term.static C n d).eval args s none [] s = some (.ref a) := by
  obtain ⟨a, ev⟩ := exa_v h
  exact ⟨a, Sta.start ev (Or.inr ⟨hi, hl⟩), Exa.start ev h, ev⟩
theorem own_fint {args : Array Value} {s : State} {t : Term} {a : Addr} {C n d : String} {k : Int32} (ev : t.eval args s none [] s = some (.ref a)) (h : (Jvm.Cond.eq (.field t C n d) (.int k)).value args s none s [] = some true) : Fld s s.heap a C n d (.int k) := by
  obtain ⟨x, y, h1, h2, -, -⟩ := cmp_v (Or.inl h)
  cases h2.symm.trans (Term.int_eval k)
  have h3 := h1
  rw [fld_at ev] at h3
  have : x = .int k := by
    cases x <;> simp_all [Cond.value, Term.eval]
  subst this
  exact Fld.start h3
theorem own_fnull {args : Array Value} {s : State} {t : Term} {a : Addr} {C n d : String} (ev : t.eval args s none [] s = some (.ref a)) (h : (Jvm.Cond.eq (.field t C n d) .null).value args s none s [] = some true) : Fld s s.heap a C n d .null := by
  have h1 := null_v h
  rw [fld_at ev] at h1
  exact Fld.start h1
theorem own_fexa {args : Array Value} {s : State} {t : Term} {a : Addr} {C n d K : String} (ev : t.eval args s none [] s = some (.ref a)) (h : (Jvm.Cond.exactly (.field t C n d) K).value args s none s [] = some true) :
    ∃ b, Fld s s.heap a C n d (.ref b) ∧ Exa s s.heap b K ∧ (Term.field t C n d).eval args s none [] s = some (.ref b) := by
  obtain ⟨b, e2⟩ := exa_v h
  have h1 := e2
  rw [fld_at ev] at h1
  exact ⟨b, Fld.start h1, Exa.start e2 h, e2⟩
theorem own_freq {args : Array Value} {s : State} {t u : Term} {a b : Addr} {C n d : String} (ev : t.eval args s none [] s = some (.ref a)) (eu : u.eval args s none [] s = some (.ref b)) (h : (Jvm.Cond.eq (.field t C n d) u).value args s none s [] = some true) : Fld s s.heap a C n d (.ref b) := by
  obtain ⟨x, y, h1, h2, -, -⟩ := cmp_v (Or.inl h)
  cases h2.symm.trans eu
  have h3 := h1
  rw [fld_at ev] at h3
  have : x = .ref b := by
    cases x <;> simp_all [Cond.value]
  subst this
  exact Fld.start h3
theorem own_nn {v : Value} {a : Addr} (h : v = .ref a) : ¬ v = Value.null := by rw [h]; exact nofun
theorem own_nref {n : String} {v : Value} (h : v.isRef = true) : narrow (.object n) v = v := by rcases ref_cases h with rfl | ⟨_, rfl⟩ <;> rfl
theorem own_fref {n : String} {v : Value} (h : v.isRef = true) : fits (.object n) v = true := by rcases ref_cases h with rfl | ⟨_, rfl⟩ <;> rfl
theorem own_nb {z : Int32} (h : z = 0 ∨ z = 1) : narrow .boolean (.int z) = .int z := by rcases h with rfl | rfl <;> rfl
theorem ow0 {a0 : Array Value} {Z : State} (hw : ∀ d ∈ tables_1, d.before a0 Z = true) : (Jvm.Cond.methodLink "com/example/verdictd/verdictd/RolePairEqualsPinLaw" (7 : Nat) ({ cls := "com/example/verdictd/verdictd/RolePairEqualsPinLaw", name := "mk", desc := "(II)Ljava/lang/String;" } : Jvm.MethodName)).before a0 Z = true := hw _ (List.mem_of_getElem? (i := 0) rfl)
theorem ow1 {a0 : Array Value} {Z : State} (hw : ∀ d ∈ tables_1, d.before a0 Z = true) : (Jvm.Cond.static ({ cls := "com/example/verdictd/verdictd/RolePairEqualsPinLaw", name := "mk", desc := "(II)Ljava/lang/String;" } : Jvm.MethodName)).before a0 Z = true := hw _ (List.mem_of_getElem? (i := 1) rfl)
theorem ow2 {a0 : Array Value} {Z : State} (hw : ∀ d ∈ tables_1, d.before a0 Z = true) : (Jvm.Cond.initialized "com/example/verdictd/verdictd/RolePairEqualsPinLaw").before a0 Z = true := hw _ (List.mem_of_getElem? (i := 2) rfl)
theorem ow3 {a0 : Array Value} {Z : State} (hw : ∀ d ∈ tables_1, d.before a0 Z = true) : (Jvm.Cond.code ({ cls := "com/example/verdictd/verdictd/RolePairEqualsPinLaw", name := "mk", desc := "(II)Ljava/lang/String;" } : Jvm.MethodName) method_3_code (4 : Nat) (Option.some (Jvm.ClassFile.FieldType.object "java/lang/String"))).before a0 Z = true := hw _ (List.mem_of_getElem? (i := 3) rfl)
theorem ow4 {a0 : Array Value} {Z : State} (hw : ∀ d ∈ tables_1, d.before a0 Z = true) : (Jvm.Cond.classLink "com/example/verdictd/verdictd/RolePairEqualsPinLaw" (26 : Nat) "java/lang/String").before a0 Z = true := hw _ (List.mem_of_getElem? (i := 4) rfl)
theorem ow5 {a0 : Array Value} {Z : State} (hw : ∀ d ∈ tables_1, d.before a0 Z = true) : (Jvm.Cond.instantiable "java/lang/String" (4 : Nat)).before a0 Z = true := hw _ (List.mem_of_getElem? (i := 5) rfl)
theorem ow6 {a0 : Array Value} {Z : State} (hw : ∀ d ∈ tables_1, d.before a0 Z = true) : (Jvm.Cond.initialized "java/lang/String").before a0 Z = true := hw _ (List.mem_of_getElem? (i := 6) rfl)
theorem ow7 {a0 : Array Value} {Z : State} (hw : ∀ d ∈ tables_1, d.before a0 Z = true) : (Jvm.Cond.arrayClass Jvm.ClassFile.FieldType.char).before a0 Z = true := hw _ (List.mem_of_getElem? (i := 7) rfl)
theorem ow8 {a0 : Array Value} {Z : State} (hw : ∀ d ∈ tables_1, d.before a0 Z = true) : (Jvm.Cond.methodLink "com/example/verdictd/verdictd/RolePairEqualsPinLaw" (28 : Nat) ({ cls := "java/lang/String", name := "<init>", desc := "([C)V" } : Jvm.MethodName)).before a0 Z = true := hw _ (List.mem_of_getElem? (i := 8) rfl)
theorem ow9 {a0 : Array Value} {Z : State} (hw : ∀ d ∈ tables_1, d.before a0 Z = true) : (Jvm.Cond.instanceMethod ({ cls := "java/lang/String", name := "<init>", desc := "([C)V" } : Jvm.MethodName)).before a0 Z = true := hw _ (List.mem_of_getElem? (i := 9) rfl)
theorem ow10 {a0 : Array Value} {Z : State} (hw : ∀ d ∈ tables_1, d.before a0 Z = true) : (Jvm.Cond.code ({ cls := "java/lang/String", name := "<init>", desc := "([C)V" } : Jvm.MethodName) jdk_42_method_3_code (2 : Nat) (Option.none : Option Jvm.ClassFile.FieldType)).before a0 Z = true := hw _ (List.mem_of_getElem? (i := 10) rfl)
theorem ow11 {a0 : Array Value} {Z : State} (hw : ∀ d ∈ tables_1, d.before a0 Z = true) : (Jvm.Cond.methodLink "java/lang/String" (27 : Nat) ({ cls := "java/lang/String", name := "<init>", desc := "([CIILjava/lang/Void;)V" } : Jvm.MethodName)).before a0 Z = true := hw _ (List.mem_of_getElem? (i := 11) rfl)
theorem ow12 {a0 : Array Value} {Z : State} (hw : ∀ d ∈ tables_1, d.before a0 Z = true) : (Jvm.Cond.instanceMethod ({ cls := "java/lang/String", name := "<init>", desc := "([CIILjava/lang/Void;)V" } : Jvm.MethodName)).before a0 Z = true := hw _ (List.mem_of_getElem? (i := 12) rfl)
theorem ow14 {a0 : Array Value} {Z : State} (hw : ∀ d ∈ tables_1, d.before a0 Z = true) : (Jvm.Cond.code ({ cls := "java/lang/String", name := "<init>", desc := "([CIILjava/lang/Void;)V" } : Jvm.MethodName) jdk_42_method_149_code (6 : Nat) (Option.none : Option Jvm.ClassFile.FieldType)).before a0 Z = true := hw _ (List.mem_of_getElem? (i := 14) rfl)
theorem ow15 {a0 : Array Value} {Z : State} (hw : ∀ d ∈ tables_1, d.before a0 Z = true) : (Jvm.Cond.methodLink "java/lang/String" (1 : Nat) ({ cls := "java/lang/Object", name := "<init>", desc := "()V" } : Jvm.MethodName)).before a0 Z = true := hw _ (List.mem_of_getElem? (i := 15) rfl)
theorem ow16 {a0 : Array Value} {Z : State} (hw : ∀ d ∈ tables_1, d.before a0 Z = true) : (Jvm.Cond.instanceMethod ({ cls := "java/lang/Object", name := "<init>", desc := "()V" } : Jvm.MethodName)).before a0 Z = true := hw _ (List.mem_of_getElem? (i := 16) rfl)
theorem ow17 {a0 : Array Value} {Z : State} (hw : ∀ d ∈ tables_1, d.before a0 Z = true) : (Jvm.Cond.code ({ cls := "java/lang/Object", name := "<init>", desc := "()V" } : Jvm.MethodName) object_method_1_code (1 : Nat) (Option.none : Option Jvm.ClassFile.FieldType)).before a0 Z = true := hw _ (List.mem_of_getElem? (i := 17) rfl)
theorem ow18 {a0 : Array Value} {Z : State} (hw : ∀ d ∈ tables_1, d.before a0 Z = true) : (Jvm.Cond.stringLink "java/lang/String" (7 : Nat) "").before a0 Z = true := hw _ (List.mem_of_getElem? (i := 18) rfl)
theorem ow19 {a0 : Array Value} {Z : State} (hw : ∀ d ∈ tables_1, d.before a0 Z = true) : (Jvm.Cond.arrayClass Jvm.ClassFile.FieldType.byte).before a0 Z = true := hw _ (List.mem_of_getElem? (i := 19) rfl)
theorem ow20 {a0 : Array Value} {Z : State} (hw : ∀ d ∈ tables_1, d.before a0 Z = true) : (Jvm.Cond.laysFinal "java/lang/String" "java/lang/String" "value" "[B").before a0 Z = true := hw _ (List.mem_of_getElem? (i := 20) rfl)
theorem ow21 {a0 : Array Value} {Z : State} (hw : ∀ d ∈ tables_1, d.before a0 Z = true) : (Jvm.Cond.laysFinal "java/lang/String" "java/lang/String" "coder" "B").before a0 Z = true := hw _ (List.mem_of_getElem? (i := 21) rfl)
theorem ow24 {a0 : Array Value} {Z : State} (hw : ∀ d ∈ tables_1, d.before a0 Z = true) : (Jvm.Cond.fieldLink "java/lang/String" (9 : Nat) "java/lang/String" "value" "[B").before a0 Z = true := hw _ (List.mem_of_getElem? (i := 24) rfl)
theorem ow25 {a0 : Array Value} {Z : State} (hw : ∀ d ∈ tables_1, d.before a0 Z = true) : (Jvm.Cond.fieldLink "java/lang/String" (15 : Nat) "java/lang/String" "coder" "B").before a0 Z = true := hw _ (List.mem_of_getElem? (i := 25) rfl)
theorem ow26 {a0 : Array Value} {Z : State} (hw : ∀ d ∈ tables_1, d.before a0 Z = true) : (Jvm.Cond.classLink "com/example/verdictd/verdictd/RolePairEqualsPinLaw" (13 : Nat) "com/example/verdictd/verdictd/RolePair").before a0 Z = true := hw _ (List.mem_of_getElem? (i := 26) rfl)
theorem ow27 {a0 : Array Value} {Z : State} (hw : ∀ d ∈ tables_1, d.before a0 Z = true) : (Jvm.Cond.instantiable "com/example/verdictd/verdictd/RolePair" (2 : Nat)).before a0 Z = true := hw _ (List.mem_of_getElem? (i := 27) rfl)
theorem ow28 {a0 : Array Value} {Z : State} (hw : ∀ d ∈ tables_1, d.before a0 Z = true) : (Jvm.Cond.initialized "com/example/verdictd/verdictd/RolePair").before a0 Z = true := hw _ (List.mem_of_getElem? (i := 28) rfl)
theorem ow29 {a0 : Array Value} {Z : State} (hw : ∀ d ∈ tables_1, d.before a0 Z = true) : (Jvm.Cond.methodLink "com/example/verdictd/verdictd/RolePairEqualsPinLaw" (15 : Nat) ({ cls := "com/example/verdictd/verdictd/RolePair", name := "<init>", desc := "(Ljava/lang/String;Ljava/lang/String;)V" } : Jvm.MethodName)).before a0 Z = true := hw _ (List.mem_of_getElem? (i := 29) rfl)
theorem ow30 {a0 : Array Value} {Z : State} (hw : ∀ d ∈ tables_1, d.before a0 Z = true) : (Jvm.Cond.instanceMethod ({ cls := "com/example/verdictd/verdictd/RolePair", name := "<init>", desc := "(Ljava/lang/String;Ljava/lang/String;)V" } : Jvm.MethodName)).before a0 Z = true := hw _ (List.mem_of_getElem? (i := 30) rfl)
theorem ow31 {a0 : Array Value} {Z : State} (hw : ∀ d ∈ tables_1, d.before a0 Z = true) : (Jvm.Cond.code ({ cls := "com/example/verdictd/verdictd/RolePair", name := "<init>", desc := "(Ljava/lang/String;Ljava/lang/String;)V" } : Jvm.MethodName) prog_28_method_1_code (3 : Nat) (Option.none : Option Jvm.ClassFile.FieldType)).before a0 Z = true := hw _ (List.mem_of_getElem? (i := 31) rfl)
theorem ow32 {a0 : Array Value} {Z : State} (hw : ∀ d ∈ tables_1, d.before a0 Z = true) : (Jvm.Cond.methodLink "com/example/verdictd/verdictd/RolePair" (1 : Nat) ({ cls := "java/lang/Object", name := "<init>", desc := "()V" } : Jvm.MethodName)).before a0 Z = true := hw _ (List.mem_of_getElem? (i := 32) rfl)
theorem ow33 {a0 : Array Value} {Z : State} (hw : ∀ d ∈ tables_1, d.before a0 Z = true) : (Jvm.Cond.fieldLink "com/example/verdictd/verdictd/RolePair" (7 : Nat) "com/example/verdictd/verdictd/RolePair" "from" "Ljava/lang/String;").before a0 Z = true := hw _ (List.mem_of_getElem? (i := 33) rfl)
theorem ow34 {a0 : Array Value} {Z : State} (hw : ∀ d ∈ tables_1, d.before a0 Z = true) : (Jvm.Cond.laysFinal "com/example/verdictd/verdictd/RolePair" "com/example/verdictd/verdictd/RolePair" "from" "Ljava/lang/String;").before a0 Z = true := hw _ (List.mem_of_getElem? (i := 34) rfl)
theorem ow35 {a0 : Array Value} {Z : State} (hw : ∀ d ∈ tables_1, d.before a0 Z = true) : (Jvm.Cond.fieldLink "com/example/verdictd/verdictd/RolePair" (13 : Nat) "com/example/verdictd/verdictd/RolePair" "to" "Ljava/lang/String;").before a0 Z = true := hw _ (List.mem_of_getElem? (i := 35) rfl)
theorem ow36 {a0 : Array Value} {Z : State} (hw : ∀ d ∈ tables_1, d.before a0 Z = true) : (Jvm.Cond.laysFinal "com/example/verdictd/verdictd/RolePair" "com/example/verdictd/verdictd/RolePair" "to" "Ljava/lang/String;").before a0 Z = true := hw _ (List.mem_of_getElem? (i := 36) rfl)
theorem ow37 {a0 : Array Value} {Z : State} (hw : ∀ d ∈ tables_1, d.before a0 Z = true) : (Jvm.Cond.methodLink "com/example/verdictd/verdictd/RolePairEqualsPinLaw" (22 : Nat) ({ cls := "com/example/verdictd/verdictd/RolePairEqualsPinLaw", name := "same", desc := "(IIII)Z" } : Jvm.MethodName)).before a0 Z = true := hw _ (List.mem_of_getElem? (i := 37) rfl)
theorem ow38 {a0 : Array Value} {Z : State} (hw : ∀ d ∈ tables_1, d.before a0 Z = true) : (Jvm.Cond.static ({ cls := "com/example/verdictd/verdictd/RolePairEqualsPinLaw", name := "same", desc := "(IIII)Z" } : Jvm.MethodName)).before a0 Z = true := hw _ (List.mem_of_getElem? (i := 38) rfl)
theorem ow39 {a0 : Array Value} {Z : State} (hw : ∀ d ∈ tables_1, d.before a0 Z = true) : (Jvm.Cond.code ({ cls := "com/example/verdictd/verdictd/RolePairEqualsPinLaw", name := "same", desc := "(IIII)Z" } : Jvm.MethodName) method_4_code (4 : Nat) (Option.some Jvm.ClassFile.FieldType.boolean)).before a0 Z = true := hw _ (List.mem_of_getElem? (i := 39) rfl)
theorem ow40 {a0 : Array Value} {Z : State} (hw : ∀ d ∈ tables_1, d.before a0 Z = true) : (Jvm.Cond.methodLink "com/example/verdictd/verdictd/RolePairEqualsPinLaw" (18 : Nat) ({ cls := "com/example/verdictd/verdictd/RolePair", name := "equals", desc := "(Ljava/lang/Object;)Z" } : Jvm.MethodName)).before a0 Z = true := hw _ (List.mem_of_getElem? (i := 40) rfl)
theorem ow41 {a0 : Array Value} {Z : State} (hw : ∀ d ∈ tables_1, d.before a0 Z = true) : (Jvm.Cond.declares ({ cls := "com/example/verdictd/verdictd/RolePair", name := "equals", desc := "(Ljava/lang/Object;)Z" } : Jvm.MethodName)).before a0 Z = true := hw _ (List.mem_of_getElem? (i := 41) rfl)
theorem ow42 {a0 : Array Value} {Z : State} (hw : ∀ d ∈ tables_1, d.before a0 Z = true) : (Jvm.Cond.instanceMethod ({ cls := "com/example/verdictd/verdictd/RolePair", name := "equals", desc := "(Ljava/lang/Object;)Z" } : Jvm.MethodName)).before a0 Z = true := hw _ (List.mem_of_getElem? (i := 42) rfl)
theorem ow43 {a0 : Array Value} {Z : State} (hw : ∀ d ∈ tables_1, d.before a0 Z = true) : (Jvm.Cond.selects "com/example/verdictd/verdictd/RolePair" ({ cls := "com/example/verdictd/verdictd/RolePair", name := "equals", desc := "(Ljava/lang/Object;)Z" } : Jvm.MethodName) ({ cls := "com/example/verdictd/verdictd/RolePair", name := "equals", desc := "(Ljava/lang/Object;)Z" } : Jvm.MethodName)).before a0 Z = true := hw _ (List.mem_of_getElem? (i := 43) rfl)
theorem ow44 {a0 : Array Value} {Z : State} (hw : ∀ d ∈ tables_1, d.before a0 Z = true) : (Jvm.Cond.code ({ cls := "com/example/verdictd/verdictd/RolePair", name := "equals", desc := "(Ljava/lang/Object;)Z" } : Jvm.MethodName) prog_28_method_4_code (3 : Nat) (Option.some Jvm.ClassFile.FieldType.boolean)).before a0 Z = true := hw _ (List.mem_of_getElem? (i := 44) rfl)
theorem ow45 {a0 : Array Value} {Z : State} (hw : ∀ d ∈ tables_1, d.before a0 Z = true) : (Jvm.Cond.classLink "com/example/verdictd/verdictd/RolePair" (8 : Nat) "com/example/verdictd/verdictd/RolePair").before a0 Z = true := hw _ (List.mem_of_getElem? (i := 45) rfl)
theorem ow47 {a0 : Array Value} {Z : State} (hw : ∀ d ∈ tables_1, d.before a0 Z = true) : (Jvm.Cond.methodLink "com/example/verdictd/verdictd/RolePair" (16 : Nat) ({ cls := "java/lang/String", name := "equals", desc := "(Ljava/lang/Object;)Z" } : Jvm.MethodName)).before a0 Z = true := hw _ (List.mem_of_getElem? (i := 47) rfl)
theorem ow48 {a0 : Array Value} {Z : State} (hw : ∀ d ∈ tables_1, d.before a0 Z = true) : (Jvm.Cond.declares ({ cls := "java/lang/String", name := "equals", desc := "(Ljava/lang/Object;)Z" } : Jvm.MethodName)).before a0 Z = true := hw _ (List.mem_of_getElem? (i := 48) rfl)
theorem ow49 {a0 : Array Value} {Z : State} (hw : ∀ d ∈ tables_1, d.before a0 Z = true) : (Jvm.Cond.instanceMethod ({ cls := "java/lang/String", name := "equals", desc := "(Ljava/lang/Object;)Z" } : Jvm.MethodName)).before a0 Z = true := hw _ (List.mem_of_getElem? (i := 49) rfl)
theorem ow50 {a0 : Array Value} {Z : State} (hw : ∀ d ∈ tables_1, d.before a0 Z = true) : (Jvm.Cond.selects "java/lang/String" ({ cls := "java/lang/String", name := "equals", desc := "(Ljava/lang/Object;)Z" } : Jvm.MethodName) ({ cls := "java/lang/String", name := "equals", desc := "(Ljava/lang/Object;)Z" } : Jvm.MethodName)).before a0 Z = true := hw _ (List.mem_of_getElem? (i := 50) rfl)
theorem ow51 {a0 : Array Value} {Z : State} (hw : ∀ d ∈ tables_1, d.before a0 Z = true) : (Jvm.Cond.code ({ cls := "java/lang/String", name := "equals", desc := "(Ljava/lang/Object;)Z" } : Jvm.MethodName) jdk_42_method_66_code (3 : Nat) (Option.some Jvm.ClassFile.FieldType.boolean)).before a0 Z = true := hw _ (List.mem_of_getElem? (i := 51) rfl)
theorem ow68 {a0 : Array Value} {Z : State} (hw : ∀ d ∈ tables_1, d.before a0 Z = true) : (Jvm.Cond.superclass "java/lang/String" "java/lang/Object").before a0 Z = true := hw _ (List.mem_of_getElem? (i := 68) rfl)
theorem ow69 {a0 : Array Value} {Z : State} (hw : ∀ d ∈ tables_1, d.before a0 Z = true) : (Jvm.Cond.noSuperclass "java/lang/Object").before a0 Z = true := hw _ (List.mem_of_getElem? (i := 69) rfl)
theorem pd0 : parseMethodDescriptor "([CIILjava/lang/Void;)V" = some ⟨[(.array .char), .int, .int, (.object "java/lang/Void")], none⟩ := by decide +kernel
theorem pd1 : parseMethodDescriptor "([C)V" = some ⟨[(.array .char)], none⟩ := by decide +kernel
theorem pd2 : parseMethodDescriptor "(Ljava/lang/Object;)Z" = some ⟨[(.object "java/lang/Object")], some .boolean⟩ := by decide +kernel
theorem pd3 : parseMethodDescriptor "(II)Ljava/lang/String;" = some ⟨[.int, .int], some (.object "java/lang/String")⟩ := by decide +kernel
theorem pd4 : parseMethodDescriptor "(Ljava/lang/String;Ljava/lang/String;)V" = some ⟨[(.object "java/lang/String"), (.object "java/lang/String")], none⟩ := by decide +kernel
theorem pd5 : parseMethodDescriptor "(IIII)Z" = some ⟨[.int, .int, .int, .int], some .boolean⟩ := by decide +kernel
theorem pn0 : plainName "java/lang/String" = true := by first | (simp [plainName, overriddenIn]; done) | decide +kernel
theorem pn1 : plainName "com/example/verdictd/verdictd/RolePairEqualsPinLaw" = true := by first | (simp [plainName, overriddenIn]; done) | decide +kernel
theorem pn2 : plainName "com/example/verdictd/verdictd/RolePair" = true := by first | (simp [plainName, overriddenIn]; done) | decide +kernel
def EL0 : List (String × Nat) := [("java/lang/String", 7)]
theorem own_EW {a0 : Array Value} {Z : State} (hw : ∀ d ∈ tables_1, d.before a0 Z = true) : EW Z a0 EL0 := (EW.cons (ow18 hw) (by decide) EW.nil)
theorem own_wS {a0 : Array Value} {Z : State} (hw : ∀ d ∈ tables_1, d.before a0 Z = true) : ∀ a ∈ Bundle.stringAtoms, a.before a0 Z = true := fun d hd => hw d ((by decide +kernel : ∀ d ∈ Bundle.stringAtoms, d ∈ tables_1) d hd)
theorem and255_chars (x : Int32) : ¬ nar .char ((x &&& (255 : Int32)).toUInt32.toUInt16.toUInt32.toInt32) < 0 ∧ ¬ (255 : Int32) < nar .char ((x &&& (255 : Int32)).toUInt32.toUInt16.toUInt32.toInt32) := by
  have t : ∀ k : Fin 256, ¬ nar .char ((Int32.ofNat k.val).toUInt32.toUInt16.toUInt32.toInt32) < 0 ∧ ¬ (255 : Int32) < nar .char ((Int32.ofNat k.val).toUInt32.toUInt16.toUInt32.toInt32) := by decide +kernel
  have h : (x &&& 255).toBitVec.toNat < 256 := by
    simp only [Int32.toBitVec_and, BitVec.toNat_and]
    exact Nat.lt_succ_of_le Nat.and_le_right
  have e : (x &&& 255) = Int32.ofNat (x &&& 255).toBitVec.toNat := by
    apply Int32.toBitVec_inj.mp
    show _ = BitVec.ofNat 32 _
    rw [BitVec.ofNat_toNat]; simp
  rw [e]
  exact t ⟨_, h⟩
theorem own_c255 (x : Int32) : nar .char ((x &&& (255 : Int32)).toUInt32.toUInt16.toUInt32.toInt32) = x &&& (255 : Int32) := by
  have t : ∀ k : Fin 256, nar .char ((Int32.ofNat k.val).toUInt32.toUInt16.toUInt32.toInt32) = Int32.ofNat k.val := by decide +kernel
  have h : (x &&& 255).toBitVec.toNat < 256 := by
    simp only [Int32.toBitVec_and, BitVec.toNat_and]
    exact Nat.lt_succ_of_le Nat.and_le_right
  have e : (x &&& 255) = Int32.ofNat (x &&& 255).toBitVec.toNat := by
    apply Int32.toBitVec_inj.mp
    show _ = BitVec.ofNat 32 _
    rw [BitVec.ofNat_toNat]; simp
  rw [e]
  exact t ⟨_, h⟩
theorem own_up (cs : List Int32) (h : ∀ c ∈ cs, ¬ c < 0 ∧ ¬ (255 : Int32) < c) : ∀ c ∈ cs, ¬ c < 0 ∧ ¬ (65535 : Int32) < c := fun c hc => ⟨(h c hc).1, fun q => (h c hc).2 (by rw [Int32.lt_iff_toInt_lt] at q ⊢; have e1 : (65535 : Int32).toInt = 65535 := rfl; have e2 : (255 : Int32).toInt = 255 := rfl; omega)⟩
/-- the String at b spells the chars cs (each 0 to 255) -/
def StrP (Z : State) (h : Heap) (b : Addr) (cs : List Int32) : Prop := Exa Z h b "java/lang/String" ∧ Fld Z h b "java/lang/String" "coder" "B" (.int 0) ∧ (∀ c ∈ cs, ¬ c < 0 ∧ ¬ (255 : Int32) < c) ∧ cs.length ≤ 4000 ∧ ∃ (t : Addr) (kb : ClassId), Fld Z h b "java/lang/String" "value" "[B" (.ref t) ∧ Arv Z h t kb .byte (Int32.ofNat cs.length) ((cs.map fun c => c.toInt8.toInt32).map Value.int) (.int 0)
theorem StrP.lt {Z : State} {h : Heap} {b : Addr} {cs : List Int32} (F : StrP Z h b cs) : b < h.size := F.1.lt
theorem StrP.ext {Z : State} {h h' : Heap} {b : Addr} {cs : List Int32} (F : StrP Z h b cs) (E : Ext h h') : StrP Z h' b cs := by
  obtain ⟨f1, f2, f3, f4, t, kb, f5, f6⟩ := F
  exact ⟨f1.ext E, f2.ext E, f3, f4, t, kb, f5.ext E, f6.ext E⟩
theorem StrP.exk {Z : State} {h h' : Heap} {b : Addr} {cs : List Int32} (F : StrP Z h b cs) (K : Keep h h' []) : StrP Z h' b cs := by
  obtain ⟨f1, f2, f3, f4, t, kb, f5, f6⟩ := F
  exact ⟨f1.keep K, f2.keep K nin0, f3, f4, t, kb, f5.keep K nin0, f6.keep K nin0⟩
theorem Ext.of_keep {h h' : Heap} (K : Keep h h' []) : Ext h h' := ⟨K.1, fun a c q => K.2.1 a c q nin0⟩
theorem own_safe_null {Z : State} {EL : List (String × Nat)} {vm : Vm} {h : Heap} {a : Addr} (hal : Z.vm.Alike vm) (E : Exa Z h a "java/lang/String") (F : Fld Z h a "java/lang/String" "value" "[B" .null) : Safe Z EL vm h a := fun B => by
  obtain ⟨p, -, u, b, -, q, -, G, hy⟩ := B
  obtain ⟨cS, ⟨⟨s1, s2, s3, ⟨cv, kv, iv, s4, s4'⟩, ⟨cc, kc, ic, s5, s5'⟩, s6, s7, s8, s9, s10, s11, s12, s13, s14, s15, s16⟩, hfS, hcS⟩, ⟨kS, k1, k2, k3⟩, hB, hbyt⟩ := G
  rcases hy with rfl | rfl
  · obtain ⟨cell, cf, k, i, f, h1, h2, h3, h4, h5, h6, h7⟩ := F
    cases h1.symm.trans s1
    obtain ⟨k', e1, -⟩ := State.fieldFound?_setVm (s := Z) hal h2
    have e2 := (show (Wst Z vm h).fieldFound? _ _ _ = _ from e1).symm.trans s4
    simp only [Option.some.injEq, Prod.mk.injEq] at e2
    rw [e2.2.2.2] at h7
    rw [h7] at s8
    cases s8
  · obtain ⟨cell, k, h1, h2, h3, -, -⟩ := E
    cases h1.symm.trans s10
    have e1 : vm.findClass "java/lang/String" = some q.SA.cls := by rw [hal.findClass]; exact h2
    have e2 : vm.findClass "[B" = some q.SA.cls := hB
    obtain ⟨ka, a1, a2⟩ := Vm.findClass_spec e1
    obtain ⟨kb, b1, b2⟩ := Vm.findClass_spec e2
    cases a1.symm.trans b1
    rw [a2] at b2
    exact absurd b2 (by decide)
theorem own_frn {L : List Loc} (h : L = []) (k : Nat) : Fr k L := by rw [h]; exact Fr.nil k
theorem own_eqv {v : Option Value} {p : Prop} [Decidable p] (h : (v = some (.int 1) ∧ p) ∨ (v = some (.int 0) ∧ ¬ p)) : v = some (.int (if p then (1 : Int32) else (0 : Int32))) := by
  rcases h with ⟨rfl, q⟩ | ⟨rfl, q⟩
  · rw [if_pos q]
  · rw [if_neg q]
theorem own_nsr {Z : State} {a0 : Array Value} {O K : String} {n : Nat} (w : (Jvm.Cond.noSuperclass O).before a0 Z = true) (wk : (Jvm.Cond.instantiable K n).before a0 Z = true) (hn : O ≠ K) : NS Z O K := by
  obtain ⟨c, k, h1, h2, h3, -, -⟩ := Cond.noSuperclass_spec w
  obtain ⟨t, kt, g1, -⟩ := Cond.instantiable_spec wk
  have ne := ids_ne h1 g1 hn
  refine ⟨c, t, h1, g1, fun fuel => ?_⟩
  cases fuel with
  | zero => rfl
  | succ f => simp [Vm.isSubclassAux, ne, h2, h3]
theorem own_nsno {Z : State} {a0 : Array Value} {C S K : String} {n : Nat} (w : (Jvm.Cond.superclass C S).before a0 Z = true) (wk : (Jvm.Cond.instantiable K n).before a0 Z = true) (m : NS Z C K) (hn : C ≠ K) : ∃ c t, Z.vm.findClass C = some c ∧ Z.vm.findClass K = some t ∧ Z.vm.assignable c t = false := by
  obtain ⟨c, t, h0, g0, n3⟩ := m
  obtain ⟨p, k, kp, h1, h2, h3, h4, h5, -, h7⟩ := Cond.superclass_spec h0 w
  obtain ⟨t', kt, g1, g2, g3, g4, -⟩ := Cond.instantiable_spec wk
  cases g0.symm.trans g1
  have ne := ids_ne h0 g0 hn
  have gi : kt.isInterface = false := (Bool.or_eq_false_iff.mp g4).1
  refine ⟨c, t, h0, g0, ?_⟩
  show Z.vm.assignableAux (255 + 1) c t = false
  simp [Vm.assignableAux, ne, h2, g2, h5, g3, gi, Vm.isSubclass, n3]
theorem own_cw {args : Array Value} {s : State} (hsets : ∀ w ∈ jdkStatics_1, w.before args s = true) : Jvm.Lit.compactW.before args s = true := hsets _ (List.mem_of_getElem? (i := 2) rfl)
theorem own_ws {a0 : Array Value} {Z : State} (hw : ∀ d ∈ tables_1, d.before a0 Z = true) : ∀ d ∈ StrChars.Road.words, d.before a0 Z = true := fun d hd => hw d ((by decide +kernel : ∀ d ∈ StrChars.Road.words, d ∈ tables_1) d hd)
theorem own_weq {a0 : Array Value} {Z : State} (hw : ∀ d ∈ tables_1, d.before a0 Z = true) : ∀ d ∈ StrChars.Road.wordsEq, d.before a0 Z = true := fun d hd => hw d ((by decide +kernel : ∀ d ∈ StrChars.Road.wordsEq, d ∈ tables_1) d hd)
theorem d_jdk_42_method_149_code_0 : decode jdk_42_method_149_code 0 = .ok (.aload_n 0, 1) := by decide +kernel
theorem d_jdk_42_method_149_code_1 : decode jdk_42_method_149_code 1 = .ok (.invokespecial 1, 3) := by decide +kernel
theorem d_jdk_42_method_149_code_4 : decode jdk_42_method_149_code 4 = .ok (.iload_n 3, 1) := by decide +kernel
theorem d_jdk_42_method_149_code_5 : decode jdk_42_method_149_code 5 = .ok (.ifCond .ne 22, 3) := by decide +kernel
theorem d_jdk_42_method_149_code_8 : decode jdk_42_method_149_code 8 = .ok (.aload_n 0, 1) := by decide +kernel
theorem d_jdk_42_method_149_code_9 : decode jdk_42_method_149_code 9 = .ok (.ldc 7, 2) := by decide +kernel
theorem d_jdk_42_method_149_code_11 : decode jdk_42_method_149_code 11 = .ok (.getfield 9, 3) := by decide +kernel
theorem d_jdk_42_method_149_code_14 : decode jdk_42_method_149_code 14 = .ok (.putfield 9, 3) := by decide +kernel
theorem d_jdk_42_method_149_code_17 : decode jdk_42_method_149_code 17 = .ok (.aload_n 0, 1) := by decide +kernel
theorem d_jdk_42_method_149_code_18 : decode jdk_42_method_149_code 18 = .ok (.ldc 7, 2) := by decide +kernel
theorem d_jdk_42_method_149_code_20 : decode jdk_42_method_149_code 20 = .ok (.getfield 15, 3) := by decide +kernel
theorem d_jdk_42_method_149_code_23 : decode jdk_42_method_149_code 23 = .ok (.putfield 15, 3) := by decide +kernel
theorem d_jdk_42_method_149_code_26 : decode jdk_42_method_149_code 26 = .ok (.return_, 1) := by decide +kernel
def Q_rme4 (Z : State) (a : Addr) (b : Addr) (h0 : Heap) (n0 : Nat) (v : Option Value) (h : Heap) (L : List Loc) : Prop := v = none ∧ Fr n0 L ∧ Keep h0 h [a] ∧ StrP Z h a []
theorem ef_rme4 (m : MethodId) (a : Addr) (b : Addr) : entryFrame m #[(.ref a), (.ref b), (.int (0 : Int32)), (.int (0 : Int32)), .null] 6 = mkF m 0 #[.val (.ref a), .val (.ref b), .val (.int (0 : Int32)), .val (.int (0 : Int32)), .val .null, .unset] [] := by first | (simp [entryFrame, mkF, argsToLocals, Value.category]; done) | rfl
set_option maxRecDepth 65536 in
set_option maxHeartbeats 40000000 in
theorem rme4 (l : Launch) (Z : State) (a0 : Array Value) (hw : ∀ d ∈ tables_1, d.before a0 Z = true) (ws : List Jvm.Cond) (a : Addr) (b : Addr) (h0 : Heap) (n0 : Nat) (O0 : Old Z n0 h0) (Ea : Exa Z h0 a "java/lang/String") (Fv : Fld Z h0 a "java/lang/String" "value" "[B" .null) (Fc : Fld Z h0 a "java/lang/String" "coder" "B" (.int (0 : Int32))) (ga : n0 ≤ a) :
    MetFree l (⟨"java/lang/String", "<init>", "([CIILjava/lang/Void;)V"⟩ : MethodName) (head1 (Jvm.Cond.code (⟨"java/lang/String", "<init>", "([CIILjava/lang/Void;)V"⟩ : MethodName) jdk_42_method_149_code 6 none :: ws) ({ frames := 1, cells := 4, slots := 8, locals := 12 } : Room)) (fun aa U => aa = #[(.ref a), (.ref b), (.int (0 : Int32)), (.int (0 : Int32)), .null] ∧ Z.Warmed39 U.vm ∧ U.heap = h0 ∧ CHv Z EL0 U.vm h0) (fun _ _ _ _ _ => True) (fun _ U o U' => ∃ v L, o = .returned v ∧ Q_rme4 Z a b h0 n0 v U'.heap L ∧ CHr Z EL0 U.vm U.heap U'.vm U'.heap ∧ ReturnedEndW U o U' L ({ frames := 1, cells := 4, slots := 8, locals := 12 } : Room).cells ({ frames := 1, cells := 4, slots := 8, locals := 12 } : Room).slots) := by
  refine MetFree.of_bodySF (plainFor_of_name pn0) hisR ?_
  intro p e s m args below meth c s₁ Bd hml0 hP hK
  obtain ⟨rfl, hZ, hh, hCH⟩ := hP
  have hx := Bd.exec
  have hby := Bd.bytes
  have hml : c.maxLocals = 6 := hml0
  have hown : s.vm.findClass "java/lang/String" = some m.cls := findClass_of_methodNamed Bd.named
  have hnm := (name_of_methodNamed Bd.named Bd.method).1
  have X0 : Stand p l e ({ frames := 1, cells := 4, slots := 8, locals := 12 } : Room) (s.setVm s.vm) m #[(.ref a), (.ref b), (.int (0 : Int32)), (.int (0 : Int32)), .null] below meth c s₁ [] 0 0 := Stand.of_body Bd
  have e0 : s₁.heap = h0 := by rw [← hh, Bd.state]; rfl
  have N0 := Fr.nil n0
  have K0 : Keep h0 h0 [a] := Keep.refl _ _
  have pre0 : ∀ tgt, Steps p.tables e below (s₁.setTop (mkF m 0 #[.val (.ref a), .val (.ref b), .val (.int (0 : Int32)), .val (.int (0 : Int32)), .val .null, .unset] [])) tgt → Steps p.tables e below (s₁.setTop (entryFrame m #[(.ref a), (.ref b), (.int (0 : Int32)), (.int (0 : Int32)), .null] 6)) tgt := fun tgt kgo => castTop (ef_rme4 m a b) kgo
  have hS0 : s.Since s.vm 0 := (State.WarmedH.refl s).since 0
  have hk0 : 0 ≤ h0.size := Nat.zero_le _
  have CH0 : CHr Z EL0 s.vm h0 s.vm h0 := CHr.refl hCH
  have Ya : Safe Z EL0 s.vm h0 a := own_safe_null hZ.alike Ea Fv
  obtain ⟨T1, X1, e1, st1⟩ := initO X0 hx hZ hown (ow15 hw) (ow16 hw) (ow17 hw) e0 (g := (mkF m 1 #[.val (.ref a), .val (.ref b), .val (.int (0 : Int32)), .val (.int (0 : Int32)), .val .null, .unset] [(.ref a)])) rfl (by rw [hml]; rfl) rfl (hb hby d_jdk_42_method_149_code_1) (by decide) (W := 0) (by show 2 * 0 + _ ≤ _; exact Nat.le_of_eq rfl) (by decide)
  obtain ⟨b2, T2, h2, kk2, d2, k2, X2, e2, E2, hS2, hk2, hZ2, hown2, Ex2, Fc2, Fv2, Av2, -, -, CR2, -, sn2, st2⟩ := ldcCH X1 hx hZ hown (ow18 hw) (own_wS hw) e1 hS0 hk0 (own_EW hw) (by decide) CH0.1 (vs := []) (z := (0 : Int32)) ⟨by decide, rfl⟩ (by decide) (by decide) (g := (mkF m 9 #[.val (.ref a), .val (.ref b), .val (.int (0 : Int32)), .val (.int (0 : Int32)), .val .null, .unset] [(.ref a)])) rfl (hb hby d_jdk_42_method_149_code_9) (n := 0) (by decide) (by decide) (by decide) (by decide)
  have O3 := O0.ext E2
  have K3 := K0.ext E2
  have CH3 := CH0.trans CR2
  have f4 := (CHr.safe CR2 Ea.lt Ya)
  have sq2_0 := sn2 a f4
  obtain ⟨T5, X5, e5, st5⟩ := getF X2 hx hZ2 hown2 (host := "") (Or.inl (ow24 hw)) Via.refl e2 Fv2 (g := (mkF m 11 #[.val (.ref a), .val (.ref b), .val (.int (0 : Int32)), .val (.int (0 : Int32)), .val .null, .unset] [(.ref b2), (.ref a)])) rfl rfl (hb hby d_jdk_42_method_149_code_11)
  have f6 := (Ea.ext E2)
  have f7 := (Fv.ext E2)
  obtain ⟨T8, h8, X8, e8, W8, st8⟩ := putF X5 hx hZ2 hown2 (host := "") (Or.inl (ow24 hw)) Via.refl e5 f7 f6 (Or.inr ⟨(ow20 hw), rfl, hnm⟩) (ow5 hw) (ty := (.array .byte)) (by decide) rfl rfl (g := (mkF m 14 #[.val (.ref a), .val (.ref b), .val (.int (0 : Int32)), .val (.int (0 : Int32)), .val .null, .unset] [(.ref d2), (.ref a)])) rfl rfl (hb hby d_jdk_42_method_149_code_14)
  have Fw8 := f7.same W8
  have CH9 := CH3.trans (CHr.wr W8 f4 CH3.1)
  have hk9 := Nat.le_trans hk2 (Keep.of_wr W8).1
  have N10 := Fr.snoc X8 N0 ga
  have O10 := O3.wr W8 ga
  have K10 := K3.wr W8 (Or.inl (List.mem_of_getElem? (i := 0) rfl))
  have f11 := (f6.wr W8)
  have f12 := (Ex2.wr W8)
  have f13 := (Av2.other W8 (Ne.symm sq2_0.2))
  obtain ⟨b14, T14, h14, kk14, d14, k14, X14, e14, E14, hS14, hk14, hZ14, hown14, Ex14, Fc14, Fv14, Av14, -, -, CR14, -, sn14, st14⟩ := ldcCH X8 hx hZ2 hown2 (ow18 hw) (own_wS hw) e8 hS2 hk9 (own_EW hw) (by decide) CH9.1 (vs := []) (z := (0 : Int32)) ⟨by decide, rfl⟩ (by decide) (by decide) (g := (mkF m 18 #[.val (.ref a), .val (.ref b), .val (.int (0 : Int32)), .val (.int (0 : Int32)), .val .null, .unset] [(.ref a)])) rfl (hb hby d_jdk_42_method_149_code_18) (n := 0) (by decide) (by decide) (by decide) (by decide)
  have O15 := O10.ext E14
  have K15 := K10.ext E14
  have CH15 := CH9.trans CR14
  have f16 := (CHr.safe CR14 f11.lt (Safe.wr W8 f4 CH3.1 f4))
  have sq14_0 := sn14 a f16
  obtain ⟨T17, X17, e17, st17⟩ := getF X14 hx hZ14 hown14 (host := "") (Or.inl (ow25 hw)) Via.refl e14 Fc14 (g := (mkF m 20 #[.val (.ref a), .val (.ref b), .val (.int (0 : Int32)), .val (.int (0 : Int32)), .val .null, .unset] [(.ref b14), (.ref a)])) rfl rfl (hb hby d_jdk_42_method_149_code_20)
  have f18 := (f11.ext E14)
  have f19 := (((Fc.ext E2).other W8 (Or.inr (slot_ne (Or.inr (ow21 hw)) (Or.inr (ow20 hw)) (by decide) (t := .byte) (t' := (.array .byte)) (by decide) (by decide)))).ext E14)
  obtain ⟨T20, h20, X20, e20, W20, st20⟩ := putFN X17 hx hZ14 hown14 (ow25 hw) Via.refl e17 f19 f18 (Or.inr ⟨(ow21 hw), rfl, hnm⟩) (ow5 hw) (ty := .byte) (v' := (.int (nar .byte 0))) (by decide) rfl (fits_nar_byte _) (g := (mkF m 23 #[.val (.ref a), .val (.ref b), .val (.int (0 : Int32)), .val (.int (0 : Int32)), .val .null, .unset] [(.int 0), (.ref a)])) rfl rfl (hb hby d_jdk_42_method_149_code_23)
  have Fw20 := f19.same W20
  have CH21 := CH15.trans (CHr.wr W20 f16 CH15.1)
  have hk21 := Nat.le_trans hk14 (Keep.of_wr W20).1
  have N22 := Fr.snoc X20 N10 ga
  have O22 := O15.wr W20 ga
  have K22 := K15.wr W20 (Or.inl (List.mem_of_getElem? (i := 0) rfl))
  have f23 := (f18.wr W20)
  have f24 := ((Fw8.ext E14).other W20 (Or.inr (slot_ne (Or.inr (ow20 hw)) (Or.inr (ow21 hw)) (by decide) (t := (.array .byte)) (t' := .byte) (by decide) (by decide))))
  have f25 := ((f13.ext E14).other W20 (Ne.symm sq2_0.2))
  obtain ⟨fs, hretL, hrun, hended, hEnd⟩ := Stand.leaveW X20 hS14 (by rw [e20]; exact hk21) (v := none) (fun _ => rfl)
  have hCf : CHr Z EL0 s.vm s.heap T20.vm T20.heap := by rw [hh, e20]; exact CH21.trans (CHv.at X20 hZ14 (own_EW hw) CH21.1)
  refine ⟨_, _, pre0 _ ?_, hrun, hended, _, _, rfl, ?_, hCf, hEnd.1, hEnd.2.1, hEnd.2.2.1, hEnd.2.2.2.mono (by decide) (by decide)⟩
  · refine XS.aloadN X0.here hx rfl (hb hby d_jdk_42_method_149_code_0) rfl rfl ?_
    show Steps p.tables e below (s₁.setTop (mkF m 1 #[.val (.ref a), .val (.ref b), .val (.int (0 : Int32)), .val (.int (0 : Int32)), .val .null, .unset] [(.ref a)])) _
    refine st1 _ ?_
    show Steps p.tables e below (T1.setTop (mkF m 4 #[.val (.ref a), .val (.ref b), .val (.int (0 : Int32)), .val (.int (0 : Int32)), .val .null, .unset] [])) _
    refine XS.iloadN X1.here hx rfl (hb hby d_jdk_42_method_149_code_4) rfl ?_
    show Steps p.tables e below (T1.setTop (mkF m 5 #[.val (.ref a), .val (.ref b), .val (.int (0 : Int32)), .val (.int (0 : Int32)), .val .null, .unset] [(.int (0 : Int32))])) _
    refine XS.ifNo X1.here hx rfl (hb hby d_jdk_42_method_149_code_5) rfl ((if0 _ _).trans (teq (by decide : (0 : Int32) = (0 : Int32))).2) ?_
    show Steps p.tables e below (T1.setTop (mkF m 8 #[.val (.ref a), .val (.ref b), .val (.int (0 : Int32)), .val (.int (0 : Int32)), .val .null, .unset] [])) _
    refine XS.aloadN X1.here hx rfl (hb hby d_jdk_42_method_149_code_8) rfl rfl ?_
    show Steps p.tables e below (T1.setTop (mkF m 9 #[.val (.ref a), .val (.ref b), .val (.int (0 : Int32)), .val (.int (0 : Int32)), .val .null, .unset] [(.ref a)])) _
    refine st2 _ ?_
    show Steps p.tables e below (T2.setTop (mkF m 11 #[.val (.ref a), .val (.ref b), .val (.int (0 : Int32)), .val (.int (0 : Int32)), .val .null, .unset] [(.ref b2), (.ref a)])) _
    refine st5 _ ?_
    show Steps p.tables e below (T5.setTop (mkF m 14 #[.val (.ref a), .val (.ref b), .val (.int (0 : Int32)), .val (.int (0 : Int32)), .val .null, .unset] [(.ref d2), (.ref a)])) _
    refine st8 _ ?_
    show Steps p.tables e below (T8.setTop (mkF m 17 #[.val (.ref a), .val (.ref b), .val (.int (0 : Int32)), .val (.int (0 : Int32)), .val .null, .unset] [])) _
    refine XS.aloadN X8.here hx rfl (hb hby d_jdk_42_method_149_code_17) rfl rfl ?_
    show Steps p.tables e below (T8.setTop (mkF m 18 #[.val (.ref a), .val (.ref b), .val (.int (0 : Int32)), .val (.int (0 : Int32)), .val .null, .unset] [(.ref a)])) _
    refine st14 _ ?_
    show Steps p.tables e below (T14.setTop (mkF m 20 #[.val (.ref a), .val (.ref b), .val (.int (0 : Int32)), .val (.int (0 : Int32)), .val .null, .unset] [(.ref b14), (.ref a)])) _
    refine st17 _ ?_
    show Steps p.tables e below (T17.setTop (mkF m 23 #[.val (.ref a), .val (.ref b), .val (.int (0 : Int32)), .val (.int (0 : Int32)), .val .null, .unset] [(.int 0), (.ref a)])) _
    refine st20 _ ?_
    show Steps p.tables e below (T20.setTop (mkF m 26 #[.val (.ref a), .val (.ref b), .val (.int (0 : Int32)), .val (.int (0 : Int32)), .val .null, .unset] [])) _
    exact X20.returnOut hx Bd.returns (hb hby d_jdk_42_method_149_code_26) hretL
  · show Q_rme4 Z a b h0 n0 _ T20.heap _
    rw [e20]
    exact ⟨rfl, N22, K22, f23, Fw20, (fun _ q => nomatch q), Nat.zero_le _, d2, k2, f24, f25⟩
theorem d_jdk_42_method_3_code_0 : decode jdk_42_method_3_code 0 = .ok (.aload_n 0, 1) := by decide +kernel
theorem d_jdk_42_method_3_code_1 : decode jdk_42_method_3_code 1 = .ok (.aload_n 1, 1) := by decide +kernel
theorem d_jdk_42_method_3_code_2 : decode jdk_42_method_3_code 2 = .ok (.iconst 0, 1) := by decide +kernel
theorem d_jdk_42_method_3_code_3 : decode jdk_42_method_3_code 3 = .ok (.aload_n 1, 1) := by decide +kernel
theorem d_jdk_42_method_3_code_4 : decode jdk_42_method_3_code 4 = .ok (.arraylength, 1) := by decide +kernel
theorem d_jdk_42_method_3_code_5 : decode jdk_42_method_3_code 5 = .ok (.aconst_null, 1) := by decide +kernel
theorem d_jdk_42_method_3_code_6 : decode jdk_42_method_3_code 6 = .ok (.invokespecial 27, 3) := by decide +kernel
theorem d_jdk_42_method_3_code_9 : decode jdk_42_method_3_code 9 = .ok (.return_, 1) := by decide +kernel
def Q_rme1 (Z : State) (a : Addr) (b : Addr) (kb : ClassId) (h0 : Heap) (n0 : Nat) (v : Option Value) (h : Heap) (L : List Loc) : Prop := v = none ∧ Fr n0 L ∧ Keep h0 h [a] ∧ StrP Z h a []
theorem ef_rme1 (m : MethodId) (a : Addr) (b : Addr) : entryFrame m #[(.ref a), (.ref b)] 2 = mkF m 0 #[.val (.ref a), .val (.ref b)] [] := by first | (simp [entryFrame, mkF, argsToLocals, Value.category]; done) | rfl
set_option maxRecDepth 65536 in
set_option maxHeartbeats 40000000 in
theorem rme1 (l : Launch) (Z : State) (a0 : Array Value) (hw : ∀ d ∈ tables_1, d.before a0 Z = true) (ws : List Jvm.Cond) (a : Addr) (b : Addr) (kb : ClassId) (h0 : Heap) (n0 : Nat) (O0 : Old Z n0 h0) (Ea : Exa Z h0 a "java/lang/String") (Fv : Fld Z h0 a "java/lang/String" "value" "[B" .null) (Fc : Fld Z h0 a "java/lang/String" "coder" "B" (.int (0 : Int32))) (ga : n0 ≤ a) (Ab : Arv Z h0 b kb .char (0 : Int32) [] (.int (0 : Int32))) :
    MetFree l (⟨"java/lang/String", "<init>", "([C)V"⟩ : MethodName) (head1 (Jvm.Cond.code (⟨"java/lang/String", "<init>", "([C)V"⟩ : MethodName) jdk_42_method_3_code 2 none :: ws) ({ frames := 2, cells := 4, slots := 8, locals := 29 } : Room)) (fun aa U => aa = #[(.ref a), (.ref b)] ∧ Z.Warmed39 U.vm ∧ U.heap = h0 ∧ CHv Z EL0 U.vm h0) (fun _ _ _ _ _ => True) (fun _ U o U' => ∃ v L, o = .returned v ∧ Q_rme1 Z a b kb h0 n0 v U'.heap L ∧ CHr Z EL0 U.vm U.heap U'.vm U'.heap ∧ ReturnedEndW U o U' L ({ frames := 2, cells := 4, slots := 8, locals := 29 } : Room).cells ({ frames := 2, cells := 4, slots := 8, locals := 29 } : Room).slots) := by
  refine MetFree.of_bodySF (plainFor_of_name pn0) hisR ?_
  intro p e s m args below meth c s₁ Bd hml0 hP hK
  obtain ⟨rfl, hZ, hh, hCH⟩ := hP
  have hx := Bd.exec
  have hby := Bd.bytes
  have hml : c.maxLocals = 2 := hml0
  have hown : s.vm.findClass "java/lang/String" = some m.cls := findClass_of_methodNamed Bd.named
  have hnm := (name_of_methodNamed Bd.named Bd.method).1
  have X0 : Stand p l e ({ frames := 2, cells := 4, slots := 8, locals := 29 } : Room) (s.setVm s.vm) m #[(.ref a), (.ref b)] below meth c s₁ [] 0 0 := Stand.of_body Bd
  have e0 : s₁.heap = h0 := by rw [← hh, Bd.state]; rfl
  have N0 := Fr.nil n0
  have K0 : Keep h0 h0 [a] := Keep.refl _ _
  have pre0 : ∀ tgt, Steps p.tables e below (s₁.setTop (mkF m 0 #[.val (.ref a), .val (.ref b)] [])) tgt → Steps p.tables e below (s₁.setTop (entryFrame m #[(.ref a), (.ref b)] 2)) tgt := fun tgt kgo => castTop (ef_rme1 m a b) kgo
  have hS0 : s.Since s.vm 0 := (State.WarmedH.refl s).since 0
  have hk0 : 0 ≤ h0.size := Nat.zero_le _
  have CH0 : CHr Z EL0 s.vm h0 s.vm h0 := CHr.refl hCH
  obtain ⟨cl1, Ar1, q1, S1, M1, H1, G1⟩ := id Ab
  obtain ⟨_, _, ⟨T2, L2, k2, n2⟩, -, Xr2, hSr2, hgr2, ⟨Lc2, hQ2, l2, y2, z2, CR2⟩, st2⟩ := X0.specialBackS hx (y := (⟨"java/lang/String", "<init>", "([CIILjava/lang/Void;)V"⟩ : MethodName)) rfl hown (mvT hZ (ow11 hw)) (mvT hZ (ow12 hw)) (mvT hZ (ow14 hw)) (by decide) (backOfSH (W := 0) (rme4 l Z a0 hw [] a b  h0 n0 O0 Ea Fv Fc ga) hZ (ow14 hw) (ow6 hw) (by decide) (by decide) (own_EW hw) CH0.1) (g := (mkF m 6 #[.val (.ref a), .val (.ref b)] [.null, (.int (0 : Int32)), (.int (0 : Int32)), (.ref b), (.ref a)])) rfl (by rw [hml]; rfl) (Steps.refl _) (a := a) (argsL := [(.ref b), (.int (0 : Int32)), (.int (0 : Int32)), .null]) (rest := []) (lenOf pd0 rfl) rfl (by show 2 * 0 + _ ≤ _; exact Nat.le_of_eq rfl) (hb hby d_jdk_42_method_3_code_6) (fun _ _ => ⟨rfl, e0, (by decide : 0 + 4 ≤ _), (by decide : 0 + 8 ≤ _)⟩)
  dsimp only [Pt.U, Pt.locs, Pt.cells, Pt.slots] at Xr2 hSr2 hgr2 l2 y2 z2 CR2 st2 hQ2
  subst l2 y2 z2
  obtain ⟨X2, hS2, hZ2, hown2⟩ := rebS hS0 (by rw [e0]; exact hk0) Xr2 hSr2 hgr2 hZ hown
  have hk2 : T2.heap.size ≤ T2.heap.size := Nat.le_refl _
  obtain ⟨rfl, Nq2, kp2, Sp2⟩ := hQ2
  have N3 := Fr.app N0 Nq2
  have CH4 := CH0.trans CR2
  have O5 := O0.keep kp2 (allS ga all0)
  have K5 := K0.trans kp2 (allS (Or.inl (List.mem_of_getElem? (i := 0) rfl)) all0)
  obtain ⟨fs, hretL, hrun, hended, hEnd⟩ := Stand.leaveW X2 hS2 hk2 (v := none) (fun _ => rfl)
  have hCf : CHr Z EL0 s.vm s.heap T2.vm T2.heap := by rw [hh]; exact CH4.trans (CHv.at X2 hZ2 (own_EW hw) CH4.1)
  refine ⟨_, _, pre0 _ ?_, hrun, hended, _, _, rfl, ?_, hCf, hEnd.1, hEnd.2.1, hEnd.2.2.1, hEnd.2.2.2.mono (by decide) (by decide)⟩
  · refine XS.aloadN X0.here hx rfl (hb hby d_jdk_42_method_3_code_0) rfl rfl ?_
    show Steps p.tables e below (s₁.setTop (mkF m 1 #[.val (.ref a), .val (.ref b)] [(.ref a)])) _
    refine XS.aloadN X0.here hx rfl (hb hby d_jdk_42_method_3_code_1) rfl rfl ?_
    show Steps p.tables e below (s₁.setTop (mkF m 2 #[.val (.ref a), .val (.ref b)] [(.ref b), (.ref a)])) _
    refine XS.iconst X0.here hx rfl (hb hby d_jdk_42_method_3_code_2) ?_
    show Steps p.tables e below (s₁.setTop (mkF m 3 #[.val (.ref a), .val (.ref b)] [(.int (0 : Int32)), (.ref b), (.ref a)])) _
    refine XS.aloadN X0.here hx rfl (hb hby d_jdk_42_method_3_code_3) rfl rfl ?_
    show Steps p.tables e below (s₁.setTop (mkF m 4 #[.val (.ref a), .val (.ref b)] [(.ref b), (.int (0 : Int32)), (.ref b), (.ref a)])) _
    refine X0.arraylength hx (by rw [e0]; exact Ar1.1) (State.isArrayOf_alike hZ.alike Ar1.2.1) (g := (mkF m 4 #[.val (.ref a), .val (.ref b)] [(.ref b), (.int (0 : Int32)), (.ref b), (.ref a)])) rfl rfl (hb hby d_jdk_42_method_3_code_4) _ ?_
    rw [len_of S1 M1]
    show Steps p.tables e below (s₁.setTop (mkF m 5 #[.val (.ref a), .val (.ref b)] [(.int (0 : Int32)), (.int (0 : Int32)), (.ref b), (.ref a)])) _
    refine XS.aconstNull X0.here hx rfl (hb hby d_jdk_42_method_3_code_5) ?_
    show Steps p.tables e below (s₁.setTop (mkF m 6 #[.val (.ref a), .val (.ref b)] [.null, (.int (0 : Int32)), (.int (0 : Int32)), (.ref b), (.ref a)])) _
    refine st2.trans ?_
    show Steps p.tables e below (T2.setTop (mkF m 9 #[.val (.ref a), .val (.ref b)] [])) _
    exact X2.returnOut hx Bd.returns (hb hby d_jdk_42_method_3_code_9) hretL
  · show Q_rme1 Z a b kb h0 n0 _ T2.heap _
    exact ⟨rfl, N3, K5, Sp2⟩
def chs (len bits : Int32) : List Int32 := if len = 0 then [] else if len = 1 then [(nar .char ((bits &&& (255 : Int32)).toUInt32.toUInt16.toUInt32.toInt32))] else [(nar .char ((bits &&& (255 : Int32)).toUInt32.toUInt16.toUInt32.toInt32)), (nar .char ((((bits.toUInt32 >>> ((8 : Int32) &&& 31).toUInt32).toInt32) &&& (255 : Int32)).toUInt32.toUInt16.toUInt32.toInt32))]
theorem own_hp1 (bits : Int32) : ∀ c ∈ ([(nar .char ((bits &&& (255 : Int32)).toUInt32.toUInt16.toUInt32.toInt32))] : List Int32), ¬ c < 0 ∧ ¬ (255 : Int32) < c := by
  intro c hc
  simp only [List.mem_cons, List.not_mem_nil, or_false] at hc
  subst hc
  exact and255_chars _
theorem own_hp2 (bits : Int32) : ∀ c ∈ ([(nar .char ((bits &&& (255 : Int32)).toUInt32.toUInt16.toUInt32.toInt32)), (nar .char ((((bits.toUInt32 >>> ((8 : Int32) &&& 31).toUInt32).toInt32) &&& (255 : Int32)).toUInt32.toUInt16.toUInt32.toInt32))] : List Int32), ¬ c < 0 ∧ ¬ (255 : Int32) < c := by
  intro c hc
  simp only [List.mem_cons, List.not_mem_nil, or_false] at hc
  rcases hc with rfl | rfl
  · exact and255_chars _
  · exact and255_chars _
theorem d_method_3_code_0 : decode method_3_code 0 = .ok (.iload_n 1, 1) := by decide +kernel
theorem d_method_3_code_1 : decode method_3_code 1 = .ok (.sipush 255, 3) := by decide +kernel
theorem d_method_3_code_4 : decode method_3_code 4 = .ok (.iand, 1) := by decide +kernel
theorem d_method_3_code_5 : decode method_3_code 5 = .ok (.i2c, 1) := by decide +kernel
theorem d_method_3_code_6 : decode method_3_code 6 = .ok (.istore_n 2, 1) := by decide +kernel
theorem d_method_3_code_7 : decode method_3_code 7 = .ok (.iload_n 1, 1) := by decide +kernel
theorem d_method_3_code_8 : decode method_3_code 8 = .ok (.bipush 8, 2) := by decide +kernel
theorem d_method_3_code_10 : decode method_3_code 10 = .ok (.iushr, 1) := by decide +kernel
theorem d_method_3_code_11 : decode method_3_code 11 = .ok (.sipush 255, 3) := by decide +kernel
theorem d_method_3_code_14 : decode method_3_code 14 = .ok (.iand, 1) := by decide +kernel
theorem d_method_3_code_15 : decode method_3_code 15 = .ok (.i2c, 1) := by decide +kernel
theorem d_method_3_code_16 : decode method_3_code 16 = .ok (.istore_n 3, 1) := by decide +kernel
theorem d_method_3_code_17 : decode method_3_code 17 = .ok (.iload_n 0, 1) := by decide +kernel
theorem d_method_3_code_18 : decode method_3_code 18 = .ok (.ifCond .ne 14, 3) := by decide +kernel
theorem d_method_3_code_21 : decode method_3_code 21 = .ok (.new 26, 3) := by decide +kernel
theorem d_method_3_code_24 : decode method_3_code 24 = .ok (.dup, 1) := by decide +kernel
theorem d_method_3_code_25 : decode method_3_code 25 = .ok (.iconst 0, 1) := by decide +kernel
theorem d_method_3_code_26 : decode method_3_code 26 = .ok (.newarray .char, 2) := by decide +kernel
theorem d_method_3_code_28 : decode method_3_code 28 = .ok (.invokespecial 28, 3) := by decide +kernel
theorem d_method_3_code_31 : decode method_3_code 31 = .ok (.areturn, 1) := by decide +kernel
theorem d_method_3_code_32 : decode method_3_code 32 = .ok (.iload_n 0, 1) := by decide +kernel
theorem d_method_3_code_33 : decode method_3_code 33 = .ok (.iconst 1, 1) := by decide +kernel
theorem d_method_3_code_34 : decode method_3_code 34 = .ok (.if_icmp .ne 18, 3) := by decide +kernel
theorem d_method_3_code_37 : decode method_3_code 37 = .ok (.new 26, 3) := by decide +kernel
theorem d_method_3_code_40 : decode method_3_code 40 = .ok (.dup, 1) := by decide +kernel
theorem d_method_3_code_41 : decode method_3_code 41 = .ok (.iconst 1, 1) := by decide +kernel
theorem d_method_3_code_42 : decode method_3_code 42 = .ok (.newarray .char, 2) := by decide +kernel
theorem d_method_3_code_44 : decode method_3_code 44 = .ok (.dup, 1) := by decide +kernel
theorem d_method_3_code_45 : decode method_3_code 45 = .ok (.iconst 0, 1) := by decide +kernel
theorem d_method_3_code_46 : decode method_3_code 46 = .ok (.iload_n 2, 1) := by decide +kernel
theorem d_method_3_code_47 : decode method_3_code 47 = .ok (.castore, 1) := by decide +kernel
theorem d_method_3_code_48 : decode method_3_code 48 = .ok (.invokespecial 28, 3) := by decide +kernel
theorem d_method_3_code_51 : decode method_3_code 51 = .ok (.areturn, 1) := by decide +kernel
theorem d_method_3_code_52 : decode method_3_code 52 = .ok (.new 26, 3) := by decide +kernel
theorem d_method_3_code_55 : decode method_3_code 55 = .ok (.dup, 1) := by decide +kernel
theorem d_method_3_code_56 : decode method_3_code 56 = .ok (.iconst 2, 1) := by decide +kernel
theorem d_method_3_code_57 : decode method_3_code 57 = .ok (.newarray .char, 2) := by decide +kernel
theorem d_method_3_code_59 : decode method_3_code 59 = .ok (.dup, 1) := by decide +kernel
theorem d_method_3_code_60 : decode method_3_code 60 = .ok (.iconst 0, 1) := by decide +kernel
theorem d_method_3_code_61 : decode method_3_code 61 = .ok (.iload_n 2, 1) := by decide +kernel
theorem d_method_3_code_62 : decode method_3_code 62 = .ok (.castore, 1) := by decide +kernel
theorem d_method_3_code_63 : decode method_3_code 63 = .ok (.dup, 1) := by decide +kernel
theorem d_method_3_code_64 : decode method_3_code 64 = .ok (.iconst 1, 1) := by decide +kernel
theorem d_method_3_code_65 : decode method_3_code 65 = .ok (.iload_n 3, 1) := by decide +kernel
theorem d_method_3_code_66 : decode method_3_code 66 = .ok (.castore, 1) := by decide +kernel
theorem d_method_3_code_67 : decode method_3_code 67 = .ok (.invokespecial 28, 3) := by decide +kernel
theorem d_method_3_code_70 : decode method_3_code 70 = .ok (.areturn, 1) := by decide +kernel
def Q_rmmk (Z : State) (len : Int32) (bits : Int32) (G1 : Int32) (h0 : Heap) (n0 : Nat) (v : Option Value) (h : Heap) (L : List Loc) : Prop := ∃ b : Addr, v = some (.ref b) ∧ Fr n0 L ∧ Keep h0 h [] ∧ n0 ≤ b ∧ StrP Z h b (chs len bits)
theorem ef_rmmk (m : MethodId) (len : Int32) (bits : Int32) : entryFrame m #[(.int len), (.int bits)] 4 = mkF m 0 #[.val (.int len), .val (.int bits), .unset, .unset] [] := by first | (simp [entryFrame, mkF, argsToLocals, Value.category]; done) | rfl
set_option maxRecDepth 65536 in
set_option maxHeartbeats 40000000 in
theorem rmmk (l : Launch) (Z : State) (a0 : Array Value) (hw : ∀ d ∈ tables_1, d.before a0 Z = true) (ws : List Jvm.Cond) (len : Int32) (bits : Int32) (G1 : Int32) (h0 : Heap) (n0 : Nat) (O0 : Old Z n0 h0) (O2 : Sta Z Z.heap "java/lang/String" "COMPACT_STRINGS" "Z" (.int G1)) (P5 : ¬ (G1 = (0 : Int32))) :
    MetFree l (⟨"com/example/verdictd/verdictd/RolePairEqualsPinLaw", "mk", "(II)Ljava/lang/String;"⟩ : MethodName) (head1 (Jvm.Cond.code (⟨"com/example/verdictd/verdictd/RolePairEqualsPinLaw", "mk", "(II)Ljava/lang/String;"⟩ : MethodName) method_3_code 4 (some (.object "java/lang/String")) :: ws) ({ frames := 4, cells := 6, slots := 12, locals := 66 } : Room)) (fun aa U => aa = #[(.int len), (.int bits)] ∧ Z.Warmed39 U.vm ∧ U.heap = h0 ∧ CHv Z EL0 U.vm h0) (fun _ _ _ _ _ => True) (fun _ U o U' => ∃ v L, o = .returned v ∧ Q_rmmk Z len bits G1 h0 n0 v U'.heap L ∧ CHr Z EL0 U.vm U.heap U'.vm U'.heap ∧ ReturnedEndW U o U' L ({ frames := 4, cells := 6, slots := 12, locals := 66 } : Room).cells ({ frames := 4, cells := 6, slots := 12, locals := 66 } : Room).slots) := by
  refine MetFree.of_bodySF (plainFor_of_name pn1) hisR ?_
  intro p e s m args below meth c s₁ Bd hml0 hP hK
  obtain ⟨rfl, hZ, hh, hCH⟩ := hP
  have hx := Bd.exec
  have hby := Bd.bytes
  have hml : c.maxLocals = 4 := hml0
  have hown : s.vm.findClass "com/example/verdictd/verdictd/RolePairEqualsPinLaw" = some m.cls := findClass_of_methodNamed Bd.named
  have hnm := (name_of_methodNamed Bd.named Bd.method).1
  have X0 : Stand p l e ({ frames := 4, cells := 6, slots := 12, locals := 66 } : Room) (s.setVm s.vm) m #[(.int len), (.int bits)] below meth c s₁ [] 0 0 := Stand.of_body Bd
  have e0 : s₁.heap = h0 := by rw [← hh, Bd.state]; rfl
  have N0 := Fr.nil n0
  have K0 : Keep h0 h0 [] := Keep.refl _ _
  have pre0 : ∀ tgt, Steps p.tables e below (s₁.setTop (mkF m 0 #[.val (.int len), .val (.int bits), .unset, .unset] [])) tgt → Steps p.tables e below (s₁.setTop (entryFrame m #[(.int len), (.int bits)] 4)) tgt := fun tgt kgo => castTop (ef_rmmk m len bits) kgo
  have hS0 : s.Since s.vm 0 := (State.WarmedH.refl s).since 0
  have hk0 : 0 ≤ h0.size := Nat.zero_le _
  have CH0 : CHr Z EL0 s.vm h0 s.vm h0 := CHr.refl hCH
  have pre1 : ∀ tgt, Steps p.tables e below (s₁.setTop (mkF m 18 #[.val (.int len), .val (.int bits), .val (.int (bits &&& (255 : Int32)).toUInt32.toUInt16.toUInt32.toInt32), .val (.int (((bits.toUInt32 >>> ((8 : Int32) &&& 31).toUInt32).toInt32) &&& (255 : Int32)).toUInt32.toUInt16.toUInt32.toInt32)] [(.int len)])) tgt → Steps p.tables e below (s₁.setTop (entryFrame m #[(.int len), (.int bits)] 4)) tgt := by
    intro tgt kgo
    refine pre0 _ ?_
    refine XS.iloadN X0.here hx rfl (hb hby d_method_3_code_0) rfl ?_
    show Steps p.tables e below (s₁.setTop (mkF m 1 #[.val (.int len), .val (.int bits), .unset, .unset] [(.int bits)])) _
    refine XS.sipush X0.here hx rfl (hb hby d_method_3_code_1) ?_
    show Steps p.tables e below (s₁.setTop (mkF m 4 #[.val (.int len), .val (.int bits), .unset, .unset] [(.int (255 : Int32)), (.int bits)])) _
    refine XS.iand X0.here hx rfl (hb hby d_method_3_code_4) rfl ?_
    show Steps p.tables e below (s₁.setTop (mkF m 5 #[.val (.int len), .val (.int bits), .unset, .unset] [(.int (bits &&& (255 : Int32)))])) _
    refine XS.i2c X0.here hx rfl (hb hby d_method_3_code_5) rfl ?_
    show Steps p.tables e below (s₁.setTop (mkF m 6 #[.val (.int len), .val (.int bits), .unset, .unset] [(.int (bits &&& (255 : Int32)).toUInt32.toUInt16.toUInt32.toInt32)])) _
    refine XS.istoreN X0.here hx rfl (hb hby d_method_3_code_6) rfl (l' := #[.val (.int len), .val (.int bits), .val (.int (bits &&& (255 : Int32)).toUInt32.toUInt16.toUInt32.toInt32), .unset]) rfl ?_
    show Steps p.tables e below (s₁.setTop (mkF m 7 #[.val (.int len), .val (.int bits), .val (.int (bits &&& (255 : Int32)).toUInt32.toUInt16.toUInt32.toInt32), .unset] [])) _
    refine XS.iloadN X0.here hx rfl (hb hby d_method_3_code_7) rfl ?_
    show Steps p.tables e below (s₁.setTop (mkF m 8 #[.val (.int len), .val (.int bits), .val (.int (bits &&& (255 : Int32)).toUInt32.toUInt16.toUInt32.toInt32), .unset] [(.int bits)])) _
    refine XS.bipush X0.here hx rfl (hb hby d_method_3_code_8) ?_
    show Steps p.tables e below (s₁.setTop (mkF m 10 #[.val (.int len), .val (.int bits), .val (.int (bits &&& (255 : Int32)).toUInt32.toUInt16.toUInt32.toInt32), .unset] [(.int (8 : Int32)), (.int bits)])) _
    refine XS.iushr X0.here hx rfl (hb hby d_method_3_code_10) rfl ?_
    show Steps p.tables e below (s₁.setTop (mkF m 11 #[.val (.int len), .val (.int bits), .val (.int (bits &&& (255 : Int32)).toUInt32.toUInt16.toUInt32.toInt32), .unset] [(.int ((bits.toUInt32 >>> ((8 : Int32) &&& 31).toUInt32).toInt32))])) _
    refine XS.sipush X0.here hx rfl (hb hby d_method_3_code_11) ?_
    show Steps p.tables e below (s₁.setTop (mkF m 14 #[.val (.int len), .val (.int bits), .val (.int (bits &&& (255 : Int32)).toUInt32.toUInt16.toUInt32.toInt32), .unset] [(.int (255 : Int32)), (.int ((bits.toUInt32 >>> ((8 : Int32) &&& 31).toUInt32).toInt32))])) _
    refine XS.iand X0.here hx rfl (hb hby d_method_3_code_14) rfl ?_
    show Steps p.tables e below (s₁.setTop (mkF m 15 #[.val (.int len), .val (.int bits), .val (.int (bits &&& (255 : Int32)).toUInt32.toUInt16.toUInt32.toInt32), .unset] [(.int (((bits.toUInt32 >>> ((8 : Int32) &&& 31).toUInt32).toInt32) &&& (255 : Int32)))])) _
    refine XS.i2c X0.here hx rfl (hb hby d_method_3_code_15) rfl ?_
    show Steps p.tables e below (s₁.setTop (mkF m 16 #[.val (.int len), .val (.int bits), .val (.int (bits &&& (255 : Int32)).toUInt32.toUInt16.toUInt32.toInt32), .unset] [(.int (((bits.toUInt32 >>> ((8 : Int32) &&& 31).toUInt32).toInt32) &&& (255 : Int32)).toUInt32.toUInt16.toUInt32.toInt32)])) _
    refine XS.istoreN X0.here hx rfl (hb hby d_method_3_code_16) rfl (l' := #[.val (.int len), .val (.int bits), .val (.int (bits &&& (255 : Int32)).toUInt32.toUInt16.toUInt32.toInt32), .val (.int (((bits.toUInt32 >>> ((8 : Int32) &&& 31).toUInt32).toInt32) &&& (255 : Int32)).toUInt32.toUInt16.toUInt32.toInt32)]) rfl ?_
    show Steps p.tables e below (s₁.setTop (mkF m 17 #[.val (.int len), .val (.int bits), .val (.int (bits &&& (255 : Int32)).toUInt32.toUInt16.toUInt32.toInt32), .val (.int (((bits.toUInt32 >>> ((8 : Int32) &&& 31).toUInt32).toInt32) &&& (255 : Int32)).toUInt32.toUInt16.toUInt32.toInt32)] [])) _
    refine XS.iloadN X0.here hx rfl (hb hby d_method_3_code_17) rfl ?_
    show Steps p.tables e below (s₁.setTop (mkF m 18 #[.val (.int len), .val (.int bits), .val (.int (bits &&& (255 : Int32)).toUInt32.toUInt16.toUInt32.toInt32), .val (.int (((bits.toUInt32 >>> ((8 : Int32) &&& 31).toUInt32).toInt32) &&& (255 : Int32)).toUInt32.toUInt16.toUInt32.toInt32)] [(.int len)])) _
    exact kgo
  by_cases hc18_2 : len = (0 : Int32)
  · obtain ⟨T3, h3, X3, e3, E3, A3, D3, U3, st3⟩ := newO X0 hx hZ hown (ow4 hw) (ow5 hw) (ow6 hw) e0 (g := (mkF m 21 #[.val (.int len), .val (.int bits), .val (.int (bits &&& (255 : Int32)).toUInt32.toUInt16.toUInt32.toInt32), .val (.int (((bits.toUInt32 >>> ((8 : Int32) &&& 31).toUInt32).toInt32) &&& (255 : Int32)).toUInt32.toUInt16.toUInt32.toInt32)] [])) rfl (hb hby d_method_3_code_21) (by decide) (by decide)
    obtain ⟨b3, g3⟩ : ∃ z, z = h0.size := ⟨_, rfl⟩
    rw [← g3] at A3 D3 U3 st3
    have gn3 : n0 ≤ b3 := Nat.le_trans (own_sz O0) (Nat.le_of_eq g3.symm)
    have sz3 : h0.size ≤ b3 := Nat.le_trans K0.1 (Nat.le_of_eq g3.symm)
    have Y3 := Safe.ext E3 CH0.1 (Safe.new (x := b3) (Nat.le_of_eq g3.symm))
    have CH4 := CH0.trans (CHr.ext E3 CH0.1)
    have hk4 := Nat.le_trans hk0 E3.1
    have O5 := O0.ext E3
    have K5 := K0.ext E3
    have Fvalue_3 : Fld Z h3 b3 "java/lang/String" "value" "[B" .null := D3 (Or.inr (ow20 hw)) (ty := (.array .byte)) (by decide)
    have Fcoder_3 : Fld Z h3 b3 "java/lang/String" "coder" "B" (.int (0 : Int32)) := D3 (Or.inr (ow21 hw)) (ty := .byte) (by decide)
    obtain ⟨T6, h6, k6, X6, e6, E6, A6, st6⟩ := newP (aty := .char) X3 hx hZ (ow7 hw) e3 (g := (mkF m 26 #[.val (.int len), .val (.int bits), .val (.int (bits &&& (255 : Int32)).toUInt32.toUInt16.toUInt32.toInt32), .val (.int (((bits.toUInt32 >>> ((8 : Int32) &&& 31).toUInt32).toInt32) &&& (255 : Int32)).toUInt32.toUInt16.toUInt32.toInt32)] [(.int (0 : Int32)), (.ref b3), (.ref b3)])) rfl (hb hby d_method_3_code_26) rfl (by decide) (cap := 0) (by decide) (by decide) (by decide) (by decide)
    obtain ⟨b6, g6⟩ : ∃ z, z = h3.size := ⟨_, rfl⟩
    rw [← g6] at A6 st6
    have V6 : Arv Z h6 b6 k6 .char (0 : Int32) [] (.int (0 : Int32)) := Arv.new A6 (by decide)
    have gn6 : n0 ≤ b6 := Nat.le_trans (own_sz O5) (Nat.le_of_eq g6.symm)
    have sz6 : h0.size ≤ b6 := Nat.le_trans K5.1 (Nat.le_of_eq g6.symm)
    have neb3_6 : b3 ≠ b6 := Nat.ne_of_lt (Nat.lt_of_lt_of_le A3.lt (Nat.le_of_eq g6.symm))
    have Y6 := Safe.ext E6 CH4.1 (Safe.new (x := b6) (Nat.le_of_eq g6.symm))
    have CH7 := CH4.trans (CHr.ext E6 CH4.1)
    have hk7 := Nat.le_trans hk4 E6.1
    have O8 := O5.ext E6
    have K8 := K5.ext E6
    have f9 := (A3.ext E6)
    have f10 := (Fvalue_3.ext E6)
    have f11 := (Fcoder_3.ext E6)
    obtain ⟨_, _, ⟨T12, L12, k12, n12⟩, -, Xr12, hSr12, hgr12, ⟨Lc12, hQ12, l12, y12, z12, CR12⟩, st12⟩ := X6.specialBackS hx (y := (⟨"java/lang/String", "<init>", "([C)V"⟩ : MethodName)) rfl hown (mvT hZ (ow8 hw)) (mvT hZ (ow9 hw)) (mvT hZ (ow10 hw)) (by decide) (backOfSH (W := 1) (rme1 l Z a0 hw [] b3 b6 k6  h6 n0 O8 f9 f10 f11 gn3 V6) hZ (ow10 hw) (ow6 hw) (by decide) (by decide) (own_EW hw) CH7.1) (g := (mkF m 28 #[.val (.int len), .val (.int bits), .val (.int (bits &&& (255 : Int32)).toUInt32.toUInt16.toUInt32.toInt32), .val (.int (((bits.toUInt32 >>> ((8 : Int32) &&& 31).toUInt32).toInt32) &&& (255 : Int32)).toUInt32.toUInt16.toUInt32.toInt32)] [(.ref b6), (.ref b3), (.ref b3)])) rfl (by rw [hml]; rfl) (Steps.refl _) (a := b3) (argsL := [(.ref b6)]) (rest := [(.ref b3)]) (lenOf pd1 rfl) rfl (by show 2 * 0 + _ ≤ _; exact Nat.le_of_eq rfl) (hb hby d_method_3_code_28) (fun _ _ => ⟨rfl, e6, (by decide : 2 + 4 ≤ _), (by decide : 4 + 8 ≤ _)⟩)
    dsimp only [Pt.U, Pt.locs, Pt.cells, Pt.slots] at Xr12 hSr12 hgr12 l12 y12 z12 CR12 st12 hQ12
    subst l12 y12 z12
    obtain ⟨X12, hS12, hZ12, hown12⟩ := rebS hS0 (by rw [e6]; exact hk7) Xr12 hSr12 hgr12 hZ hown
    have hk12 : T12.heap.size ≤ T12.heap.size := Nat.le_refl _
    obtain ⟨rfl, Nq12, kp12, Sp12⟩ := hQ12
    have N13 := Fr.app N0 Nq12
    have CH14 := CH7.trans CR12
    have O15 := O8.keep kp12 (allS gn3 all0)
    have K15 := K8.trans kp12 (allS (Or.inr sz3) all0)
    obtain ⟨fs, hretL, hrun, hended, hEnd⟩ := Stand.leaveW X12 hS12 hk12 (v := some (.ref b3)) (fun h => by rw [Bd.returns] at h; cases h)
    have hCf : CHr Z EL0 s.vm s.heap T12.vm T12.heap := by rw [hh]; exact CH14.trans (CHv.at X12 hZ12 (own_EW hw) CH14.1)
    refine ⟨_, _, pre1 _ ?_, hrun, hended, _, _, rfl, ?_, hCf, hEnd.1, hEnd.2.1, hEnd.2.2.1, hEnd.2.2.2.mono (by decide) (by decide)⟩
    · refine XS.ifNo X0.here hx rfl (hb hby d_method_3_code_18) rfl ((if0 _ _).trans (teq hc18_2).2) ?_
      show Steps p.tables e below (s₁.setTop (mkF m 21 #[.val (.int len), .val (.int bits), .val (.int (bits &&& (255 : Int32)).toUInt32.toUInt16.toUInt32.toInt32), .val (.int (((bits.toUInt32 >>> ((8 : Int32) &&& 31).toUInt32).toInt32) &&& (255 : Int32)).toUInt32.toUInt16.toUInt32.toInt32)] [])) _
      refine st3 _ ?_
      show Steps p.tables e below (T3.setTop (mkF m 24 #[.val (.int len), .val (.int bits), .val (.int (bits &&& (255 : Int32)).toUInt32.toUInt16.toUInt32.toInt32), .val (.int (((bits.toUInt32 >>> ((8 : Int32) &&& 31).toUInt32).toInt32) &&& (255 : Int32)).toUInt32.toUInt16.toUInt32.toInt32)] [(.ref b3)])) _
      refine XS.dup X3.here hx rfl (hb hby d_method_3_code_24) rfl rfl ?_
      show Steps p.tables e below (T3.setTop (mkF m 25 #[.val (.int len), .val (.int bits), .val (.int (bits &&& (255 : Int32)).toUInt32.toUInt16.toUInt32.toInt32), .val (.int (((bits.toUInt32 >>> ((8 : Int32) &&& 31).toUInt32).toInt32) &&& (255 : Int32)).toUInt32.toUInt16.toUInt32.toInt32)] [(.ref b3), (.ref b3)])) _
      refine XS.iconst X3.here hx rfl (hb hby d_method_3_code_25) ?_
      show Steps p.tables e below (T3.setTop (mkF m 26 #[.val (.int len), .val (.int bits), .val (.int (bits &&& (255 : Int32)).toUInt32.toUInt16.toUInt32.toInt32), .val (.int (((bits.toUInt32 >>> ((8 : Int32) &&& 31).toUInt32).toInt32) &&& (255 : Int32)).toUInt32.toUInt16.toUInt32.toInt32)] [(.int (0 : Int32)), (.ref b3), (.ref b3)])) _
      refine st6 _ ?_
      show Steps p.tables e below (T6.setTop (mkF m 28 #[.val (.int len), .val (.int bits), .val (.int (bits &&& (255 : Int32)).toUInt32.toUInt16.toUInt32.toInt32), .val (.int (((bits.toUInt32 >>> ((8 : Int32) &&& 31).toUInt32).toInt32) &&& (255 : Int32)).toUInt32.toUInt16.toUInt32.toInt32)] [(.ref b6), (.ref b3), (.ref b3)])) _
      refine st12.trans ?_
      show Steps p.tables e below (T12.setTop (mkF m 31 #[.val (.int len), .val (.int bits), .val (.int (bits &&& (255 : Int32)).toUInt32.toUInt16.toUInt32.toInt32), .val (.int (((bits.toUInt32 >>> ((8 : Int32) &&& 31).toUInt32).toInt32) &&& (255 : Int32)).toUInt32.toUInt16.toUInt32.toInt32)] [(.ref b3)])) _
      exact retOut X12 hx Bd.returns rfl (Or.inr (Or.inr (Or.inr (Or.inr ⟨rfl, rfl, rfl⟩)))) (hb hby d_method_3_code_31) hretL
    · show Q_rmmk Z len bits G1 h0 n0 _ T12.heap _
      refine ⟨_, rfl, N13, K15, gn3, ?_⟩
      simp only [chs, if_pos hc18_2]
      exact Sp12
  · have pre16 : ∀ tgt, Steps p.tables e below (s₁.setTop (mkF m 34 #[.val (.int len), .val (.int bits), .val (.int (bits &&& (255 : Int32)).toUInt32.toUInt16.toUInt32.toInt32), .val (.int (((bits.toUInt32 >>> ((8 : Int32) &&& 31).toUInt32).toInt32) &&& (255 : Int32)).toUInt32.toUInt16.toUInt32.toInt32)] [(.int (1 : Int32)), (.int len)])) tgt → Steps p.tables e below (s₁.setTop (entryFrame m #[(.int len), (.int bits)] 4)) tgt := by
      intro tgt kgo
      refine pre1 _ ?_
      refine XS.ifYes X0.here hx rfl (pc0 := 18) (pc' := 32) rfl (hb hby d_method_3_code_18) rfl ((if0 _ _).trans (feq hc18_2).2) (by decide) (by decide) ?_
      show Steps p.tables e below (s₁.setTop (mkF m 32 #[.val (.int len), .val (.int bits), .val (.int (bits &&& (255 : Int32)).toUInt32.toUInt16.toUInt32.toInt32), .val (.int (((bits.toUInt32 >>> ((8 : Int32) &&& 31).toUInt32).toInt32) &&& (255 : Int32)).toUInt32.toUInt16.toUInt32.toInt32)] [])) _
      refine XS.iloadN X0.here hx rfl (hb hby d_method_3_code_32) rfl ?_
      show Steps p.tables e below (s₁.setTop (mkF m 33 #[.val (.int len), .val (.int bits), .val (.int (bits &&& (255 : Int32)).toUInt32.toUInt16.toUInt32.toInt32), .val (.int (((bits.toUInt32 >>> ((8 : Int32) &&& 31).toUInt32).toInt32) &&& (255 : Int32)).toUInt32.toUInt16.toUInt32.toInt32)] [(.int len)])) _
      refine XS.iconst X0.here hx rfl (hb hby d_method_3_code_33) ?_
      show Steps p.tables e below (s₁.setTop (mkF m 34 #[.val (.int len), .val (.int bits), .val (.int (bits &&& (255 : Int32)).toUInt32.toUInt16.toUInt32.toInt32), .val (.int (((bits.toUInt32 >>> ((8 : Int32) &&& 31).toUInt32).toInt32) &&& (255 : Int32)).toUInt32.toUInt16.toUInt32.toInt32)] [(.int (1 : Int32)), (.int len)])) _
      exact kgo
    by_cases hc34_17 : len = (1 : Int32)
    · obtain ⟨T18, h18, X18, e18, E18, A18, D18, U18, st18⟩ := newO X0 hx hZ hown (ow4 hw) (ow5 hw) (ow6 hw) e0 (g := (mkF m 37 #[.val (.int len), .val (.int bits), .val (.int (bits &&& (255 : Int32)).toUInt32.toUInt16.toUInt32.toInt32), .val (.int (((bits.toUInt32 >>> ((8 : Int32) &&& 31).toUInt32).toInt32) &&& (255 : Int32)).toUInt32.toUInt16.toUInt32.toInt32)] [])) rfl (hb hby d_method_3_code_37) (by decide) (by decide)
      obtain ⟨b18, g18⟩ : ∃ z, z = h0.size := ⟨_, rfl⟩
      rw [← g18] at A18 D18 U18 st18
      have gn18 : n0 ≤ b18 := Nat.le_trans (own_sz O0) (Nat.le_of_eq g18.symm)
      have sz18 : h0.size ≤ b18 := Nat.le_trans K0.1 (Nat.le_of_eq g18.symm)
      have Y18 := Safe.ext E18 CH0.1 (Safe.new (x := b18) (Nat.le_of_eq g18.symm))
      have CH19 := CH0.trans (CHr.ext E18 CH0.1)
      have hk19 := Nat.le_trans hk0 E18.1
      have O20 := O0.ext E18
      have K20 := K0.ext E18
      have Fvalue_18 : Fld Z h18 b18 "java/lang/String" "value" "[B" .null := D18 (Or.inr (ow20 hw)) (ty := (.array .byte)) (by decide)
      have Fcoder_18 : Fld Z h18 b18 "java/lang/String" "coder" "B" (.int (0 : Int32)) := D18 (Or.inr (ow21 hw)) (ty := .byte) (by decide)
      obtain ⟨T21, h21, k21, X21, e21, E21, A21, st21⟩ := newP (aty := .char) X18 hx hZ (ow7 hw) e18 (g := (mkF m 42 #[.val (.int len), .val (.int bits), .val (.int (bits &&& (255 : Int32)).toUInt32.toUInt16.toUInt32.toInt32), .val (.int (((bits.toUInt32 >>> ((8 : Int32) &&& 31).toUInt32).toInt32) &&& (255 : Int32)).toUInt32.toUInt16.toUInt32.toInt32)] [(.int (1 : Int32)), (.ref b18), (.ref b18)])) rfl (hb hby d_method_3_code_42) rfl (by decide) (cap := 1) (by decide) (by decide) (by decide) (by decide)
      obtain ⟨b21, g21⟩ : ∃ z, z = h18.size := ⟨_, rfl⟩
      rw [← g21] at A21 st21
      have V21 : Arv Z h21 b21 k21 .char (1 : Int32) [(.int (0 : Int32))] (.int (0 : Int32)) := (Arv.new A21 (by decide)).pad (pad_rep [] (.int (0 : Int32)) 1)
      have gn21 : n0 ≤ b21 := Nat.le_trans (own_sz O20) (Nat.le_of_eq g21.symm)
      have sz21 : h0.size ≤ b21 := Nat.le_trans K20.1 (Nat.le_of_eq g21.symm)
      have neb18_21 : b18 ≠ b21 := Nat.ne_of_lt (Nat.lt_of_lt_of_le A18.lt (Nat.le_of_eq g21.symm))
      have Y21 := Safe.ext E21 CH19.1 (Safe.new (x := b21) (Nat.le_of_eq g21.symm))
      have CH22 := CH19.trans (CHr.ext E21 CH19.1)
      have hk22 := Nat.le_trans hk19 E21.1
      have O23 := O20.ext E21
      have K23 := K20.ext E21
      obtain ⟨cl24, Ar24, q24, S24, M24, H24, G24⟩ := id V21
      have hin24 : ¬ ((0 : Int32) < 0 ∨ cl24.slots.size ≤ ((0 : Int32)).toNatClampNeg) := inb_of S24 ⟨by decide, by decide⟩
      obtain ⟨T25, h25, X25, e25, W25, st25⟩ := stC X21 hx hZ e21 Ar24 (j := (0 : Int32)) hin24 (g := (mkF m 47 #[.val (.int len), .val (.int bits), .val (.int (bits &&& (255 : Int32)).toUInt32.toUInt16.toUInt32.toInt32), .val (.int (((bits.toUInt32 >>> ((8 : Int32) &&& 31).toUInt32).toInt32) &&& (255 : Int32)).toUInt32.toUInt16.toUInt32.toInt32)] [(.int (bits &&& (255 : Int32)).toUInt32.toUInt16.toUInt32.toInt32), (.int (0 : Int32)), (.ref b21), (.ref b21), (.ref b18), (.ref b18)])) rfl rfl (hb hby d_method_3_code_47)
      have V25 : Arv Z h25 b21 k21 .char (1 : Int32) [(.int (nar .char (bits &&& (255 : Int32)).toUInt32.toUInt16.toUInt32.toInt32))] (.int (0 : Int32)) := Arv.set Ar24 q24 S24 M24 H24 G24 (fits_nar_char _) W25 0 rfl (Nat.le_of_ble_eq_true rfl)
      have CH26 := CH22.trans (CHr.wr W25 Y21 CH22.1)
      have hk26 := Nat.le_trans hk22 (Keep.of_wr W25).1
      have N27 := Fr.snoc X25 N0 gn21
      have O27 := O23.wr W25 gn21
      have K27 := K23.wr W25 (Or.inr sz21)
      have f28 := ((A18.ext E21).wr W25)
      have f29 := ((Fvalue_18.ext E21).other W25 (Or.inl neb18_21))
      have f30 := ((Fcoder_18.ext E21).other W25 (Or.inl neb18_21))
      obtain ⟨_, _, ⟨T31, L31, k31, n31⟩, -, X31, ⟨Lc31, hQ31, l31, y31, z31⟩, st31⟩ := X25.specialBack hx (y := (⟨"java/lang/String", "<init>", "([C)V"⟩ : MethodName)) rfl hown (mvT hZ (ow8 hw)) (mvT hZ (ow9 hw)) (mvT hZ (ow10 hw)) (by decide) (StrChars.Road.backV (W := 1) hZ (own_ws hw) (kI := 4) (ow5 hw) (cs := ([(nar .char ((bits &&& (255 : Int32)).toUInt32.toUInt16.toUInt32.toInt32))] : List Int32)) (bs := ([(nar .char ((bits &&& (255 : Int32)).toUInt32.toUInt16.toUInt32.toInt32))] : List Int32).map (fun c => c.toInt8.toInt32)) (n := 1) gn18 (own_sz O27) f28 f29 f30 V25 (O2.ext O27.2) P5 rfl rfl (by decide) (by decide) (own_hp1 bits) rfl (by decide) (by decide)) (g := (mkF m 48 #[.val (.int len), .val (.int bits), .val (.int (bits &&& (255 : Int32)).toUInt32.toUInt16.toUInt32.toInt32), .val (.int (((bits.toUInt32 >>> ((8 : Int32) &&& 31).toUInt32).toInt32) &&& (255 : Int32)).toUInt32.toUInt16.toUInt32.toInt32)] [(.ref b21), (.ref b18), (.ref b18)])) rfl (by rw [hml]; rfl) (Steps.refl _) (a := b18) (argsL := [(.ref b21)]) (rest := [(.ref b18)]) (lenOf pd1 rfl) rfl (by show 2 * 0 + _ ≤ _; exact Nat.le_of_eq rfl) (hb hby d_method_3_code_48) (fun _ _ => ⟨rfl, e25, (by decide : 2 + 1 ≤ _), (by decide : 5 + 1 ≤ _)⟩)
      dsimp only [Pt.U, Pt.locs, Pt.cells, Pt.slots] at X31 l31 y31 z31 st31 hQ31
      subst l31 y31 z31
      obtain ⟨rfl, Nq31, kp31, sE31, sC31, t31, k31_, -, -, -, sV31, sA31⟩ := hQ31
      have N32 := Fr.app N27 Nq31
      have f33 := (Safe.wr W25 Y21 CH22.1 (Safe.ext E21 CH19.1 Y18))
      have CH34 := CH26.trans (CHr.keep kp31 (sfS f33 sf0) CH26.1)
      have hk34 := Nat.le_trans hk26 kp31.1
      have O35 := O27.keep kp31 (allS gn18 all0)
      have K35 := K27.trans kp31 (allS (Or.inr sz18) all0)
      obtain ⟨fs, hretL, hrun, hended, hEnd⟩ := Stand.leaveW X31 hS0 hk34 (v := some (.ref b18)) (fun h => by rw [Bd.returns] at h; cases h)
      have hCf : CHr Z EL0 s.vm s.heap T31.vm T31.heap := by rw [hh]; exact CH34.trans (CHv.at X31 hZ (own_EW hw) CH34.1)
      refine ⟨_, _, pre16 _ ?_, hrun, hended, _, _, rfl, ?_, hCf, hEnd.1, hEnd.2.1, hEnd.2.2.1, hEnd.2.2.2.mono (by decide) (by decide)⟩
      · refine XS.icmpNo X0.here hx rfl (hb hby d_method_3_code_34) rfl (teq hc34_17).2 ?_
        show Steps p.tables e below (s₁.setTop (mkF m 37 #[.val (.int len), .val (.int bits), .val (.int (bits &&& (255 : Int32)).toUInt32.toUInt16.toUInt32.toInt32), .val (.int (((bits.toUInt32 >>> ((8 : Int32) &&& 31).toUInt32).toInt32) &&& (255 : Int32)).toUInt32.toUInt16.toUInt32.toInt32)] [])) _
        refine st18 _ ?_
        show Steps p.tables e below (T18.setTop (mkF m 40 #[.val (.int len), .val (.int bits), .val (.int (bits &&& (255 : Int32)).toUInt32.toUInt16.toUInt32.toInt32), .val (.int (((bits.toUInt32 >>> ((8 : Int32) &&& 31).toUInt32).toInt32) &&& (255 : Int32)).toUInt32.toUInt16.toUInt32.toInt32)] [(.ref b18)])) _
        refine XS.dup X18.here hx rfl (hb hby d_method_3_code_40) rfl rfl ?_
        show Steps p.tables e below (T18.setTop (mkF m 41 #[.val (.int len), .val (.int bits), .val (.int (bits &&& (255 : Int32)).toUInt32.toUInt16.toUInt32.toInt32), .val (.int (((bits.toUInt32 >>> ((8 : Int32) &&& 31).toUInt32).toInt32) &&& (255 : Int32)).toUInt32.toUInt16.toUInt32.toInt32)] [(.ref b18), (.ref b18)])) _
        refine XS.iconst X18.here hx rfl (hb hby d_method_3_code_41) ?_
        show Steps p.tables e below (T18.setTop (mkF m 42 #[.val (.int len), .val (.int bits), .val (.int (bits &&& (255 : Int32)).toUInt32.toUInt16.toUInt32.toInt32), .val (.int (((bits.toUInt32 >>> ((8 : Int32) &&& 31).toUInt32).toInt32) &&& (255 : Int32)).toUInt32.toUInt16.toUInt32.toInt32)] [(.int (1 : Int32)), (.ref b18), (.ref b18)])) _
        refine st21 _ ?_
        show Steps p.tables e below (T21.setTop (mkF m 44 #[.val (.int len), .val (.int bits), .val (.int (bits &&& (255 : Int32)).toUInt32.toUInt16.toUInt32.toInt32), .val (.int (((bits.toUInt32 >>> ((8 : Int32) &&& 31).toUInt32).toInt32) &&& (255 : Int32)).toUInt32.toUInt16.toUInt32.toInt32)] [(.ref b21), (.ref b18), (.ref b18)])) _
        refine XS.dup X21.here hx rfl (hb hby d_method_3_code_44) rfl rfl ?_
        show Steps p.tables e below (T21.setTop (mkF m 45 #[.val (.int len), .val (.int bits), .val (.int (bits &&& (255 : Int32)).toUInt32.toUInt16.toUInt32.toInt32), .val (.int (((bits.toUInt32 >>> ((8 : Int32) &&& 31).toUInt32).toInt32) &&& (255 : Int32)).toUInt32.toUInt16.toUInt32.toInt32)] [(.ref b21), (.ref b21), (.ref b18), (.ref b18)])) _
        refine XS.iconst X21.here hx rfl (hb hby d_method_3_code_45) ?_
        show Steps p.tables e below (T21.setTop (mkF m 46 #[.val (.int len), .val (.int bits), .val (.int (bits &&& (255 : Int32)).toUInt32.toUInt16.toUInt32.toInt32), .val (.int (((bits.toUInt32 >>> ((8 : Int32) &&& 31).toUInt32).toInt32) &&& (255 : Int32)).toUInt32.toUInt16.toUInt32.toInt32)] [(.int (0 : Int32)), (.ref b21), (.ref b21), (.ref b18), (.ref b18)])) _
        refine XS.iloadN X21.here hx rfl (hb hby d_method_3_code_46) rfl ?_
        show Steps p.tables e below (T21.setTop (mkF m 47 #[.val (.int len), .val (.int bits), .val (.int (bits &&& (255 : Int32)).toUInt32.toUInt16.toUInt32.toInt32), .val (.int (((bits.toUInt32 >>> ((8 : Int32) &&& 31).toUInt32).toInt32) &&& (255 : Int32)).toUInt32.toUInt16.toUInt32.toInt32)] [(.int (bits &&& (255 : Int32)).toUInt32.toUInt16.toUInt32.toInt32), (.int (0 : Int32)), (.ref b21), (.ref b21), (.ref b18), (.ref b18)])) _
        refine st25 _ ?_
        show Steps p.tables e below (T25.setTop (mkF m 48 #[.val (.int len), .val (.int bits), .val (.int (bits &&& (255 : Int32)).toUInt32.toUInt16.toUInt32.toInt32), .val (.int (((bits.toUInt32 >>> ((8 : Int32) &&& 31).toUInt32).toInt32) &&& (255 : Int32)).toUInt32.toUInt16.toUInt32.toInt32)] [(.ref b21), (.ref b18), (.ref b18)])) _
        refine st31.trans ?_
        show Steps p.tables e below (T31.setTop (mkF m 51 #[.val (.int len), .val (.int bits), .val (.int (bits &&& (255 : Int32)).toUInt32.toUInt16.toUInt32.toInt32), .val (.int (((bits.toUInt32 >>> ((8 : Int32) &&& 31).toUInt32).toInt32) &&& (255 : Int32)).toUInt32.toUInt16.toUInt32.toInt32)] [(.ref b18)])) _
        exact retOut X31 hx Bd.returns rfl (Or.inr (Or.inr (Or.inr (Or.inr ⟨rfl, rfl, rfl⟩)))) (hb hby d_method_3_code_51) hretL
      · show Q_rmmk Z len bits G1 h0 n0 _ T31.heap _
        refine ⟨_, rfl, N32, K35, gn18, ?_⟩
        simp only [chs, if_neg hc18_2, if_pos hc34_17]
        exact ⟨sE31, sC31, own_hp1 bits, (Nat.le_of_ble_eq_true rfl), t31, k31_, sV31, sA31⟩
    · obtain ⟨T36, h36, X36, e36, E36, A36, D36, U36, st36⟩ := newO X0 hx hZ hown (ow4 hw) (ow5 hw) (ow6 hw) e0 (g := (mkF m 52 #[.val (.int len), .val (.int bits), .val (.int (bits &&& (255 : Int32)).toUInt32.toUInt16.toUInt32.toInt32), .val (.int (((bits.toUInt32 >>> ((8 : Int32) &&& 31).toUInt32).toInt32) &&& (255 : Int32)).toUInt32.toUInt16.toUInt32.toInt32)] [])) rfl (hb hby d_method_3_code_52) (by decide) (by decide)
      obtain ⟨b36, g36⟩ : ∃ z, z = h0.size := ⟨_, rfl⟩
      rw [← g36] at A36 D36 U36 st36
      have gn36 : n0 ≤ b36 := Nat.le_trans (own_sz O0) (Nat.le_of_eq g36.symm)
      have sz36 : h0.size ≤ b36 := Nat.le_trans K0.1 (Nat.le_of_eq g36.symm)
      have Y36 := Safe.ext E36 CH0.1 (Safe.new (x := b36) (Nat.le_of_eq g36.symm))
      have CH37 := CH0.trans (CHr.ext E36 CH0.1)
      have hk37 := Nat.le_trans hk0 E36.1
      have O38 := O0.ext E36
      have K38 := K0.ext E36
      have Fvalue_36 : Fld Z h36 b36 "java/lang/String" "value" "[B" .null := D36 (Or.inr (ow20 hw)) (ty := (.array .byte)) (by decide)
      have Fcoder_36 : Fld Z h36 b36 "java/lang/String" "coder" "B" (.int (0 : Int32)) := D36 (Or.inr (ow21 hw)) (ty := .byte) (by decide)
      obtain ⟨T39, h39, k39, X39, e39, E39, A39, st39⟩ := newP (aty := .char) X36 hx hZ (ow7 hw) e36 (g := (mkF m 57 #[.val (.int len), .val (.int bits), .val (.int (bits &&& (255 : Int32)).toUInt32.toUInt16.toUInt32.toInt32), .val (.int (((bits.toUInt32 >>> ((8 : Int32) &&& 31).toUInt32).toInt32) &&& (255 : Int32)).toUInt32.toUInt16.toUInt32.toInt32)] [(.int (2 : Int32)), (.ref b36), (.ref b36)])) rfl (hb hby d_method_3_code_57) rfl (by decide) (cap := 2) (by decide) (by decide) (by decide) (by decide)
      obtain ⟨b39, g39⟩ : ∃ z, z = h36.size := ⟨_, rfl⟩
      rw [← g39] at A39 st39
      have V39 : Arv Z h39 b39 k39 .char (2 : Int32) [(.int (0 : Int32)), (.int (0 : Int32))] (.int (0 : Int32)) := (Arv.new A39 (by decide)).pad (pad_rep [] (.int (0 : Int32)) 2)
      have gn39 : n0 ≤ b39 := Nat.le_trans (own_sz O38) (Nat.le_of_eq g39.symm)
      have sz39 : h0.size ≤ b39 := Nat.le_trans K38.1 (Nat.le_of_eq g39.symm)
      have neb36_39 : b36 ≠ b39 := Nat.ne_of_lt (Nat.lt_of_lt_of_le A36.lt (Nat.le_of_eq g39.symm))
      have Y39 := Safe.ext E39 CH37.1 (Safe.new (x := b39) (Nat.le_of_eq g39.symm))
      have CH40 := CH37.trans (CHr.ext E39 CH37.1)
      have hk40 := Nat.le_trans hk37 E39.1
      have O41 := O38.ext E39
      have K41 := K38.ext E39
      obtain ⟨cl42, Ar42, q42, S42, M42, H42, G42⟩ := id V39
      have hin42 : ¬ ((0 : Int32) < 0 ∨ cl42.slots.size ≤ ((0 : Int32)).toNatClampNeg) := inb_of S42 ⟨by decide, by decide⟩
      obtain ⟨T43, h43, X43, e43, W43, st43⟩ := stC X39 hx hZ e39 Ar42 (j := (0 : Int32)) hin42 (g := (mkF m 62 #[.val (.int len), .val (.int bits), .val (.int (bits &&& (255 : Int32)).toUInt32.toUInt16.toUInt32.toInt32), .val (.int (((bits.toUInt32 >>> ((8 : Int32) &&& 31).toUInt32).toInt32) &&& (255 : Int32)).toUInt32.toUInt16.toUInt32.toInt32)] [(.int (bits &&& (255 : Int32)).toUInt32.toUInt16.toUInt32.toInt32), (.int (0 : Int32)), (.ref b39), (.ref b39), (.ref b36), (.ref b36)])) rfl rfl (hb hby d_method_3_code_62)
      have V43 : Arv Z h43 b39 k39 .char (2 : Int32) [(.int (nar .char (bits &&& (255 : Int32)).toUInt32.toUInt16.toUInt32.toInt32)), (.int (0 : Int32))] (.int (0 : Int32)) := Arv.set Ar42 q42 S42 M42 H42 G42 (fits_nar_char _) W43 0 rfl (Nat.le_of_ble_eq_true rfl)
      have CH44 := CH40.trans (CHr.wr W43 Y39 CH40.1)
      have hk44 := Nat.le_trans hk40 (Keep.of_wr W43).1
      have N45 := Fr.snoc X43 N0 gn39
      have O45 := O41.wr W43 gn39
      have K45 := K41.wr W43 (Or.inr sz39)
      obtain ⟨cl46, Ar46, q46, S46, M46, H46, G46⟩ := id V43
      have hin46 : ¬ ((1 : Int32) < 0 ∨ cl46.slots.size ≤ ((1 : Int32)).toNatClampNeg) := inb_of S46 ⟨by decide, by decide⟩
      obtain ⟨T47, h47, X47, e47, W47, st47⟩ := stC X43 hx hZ e43 Ar46 (j := (1 : Int32)) hin46 (g := (mkF m 66 #[.val (.int len), .val (.int bits), .val (.int (bits &&& (255 : Int32)).toUInt32.toUInt16.toUInt32.toInt32), .val (.int (((bits.toUInt32 >>> ((8 : Int32) &&& 31).toUInt32).toInt32) &&& (255 : Int32)).toUInt32.toUInt16.toUInt32.toInt32)] [(.int (((bits.toUInt32 >>> ((8 : Int32) &&& 31).toUInt32).toInt32) &&& (255 : Int32)).toUInt32.toUInt16.toUInt32.toInt32), (.int (1 : Int32)), (.ref b39), (.ref b39), (.ref b36), (.ref b36)])) rfl rfl (hb hby d_method_3_code_66)
      have V47 : Arv Z h47 b39 k39 .char (2 : Int32) [(.int (nar .char (bits &&& (255 : Int32)).toUInt32.toUInt16.toUInt32.toInt32)), (.int (nar .char (((bits.toUInt32 >>> ((8 : Int32) &&& 31).toUInt32).toInt32) &&& (255 : Int32)).toUInt32.toUInt16.toUInt32.toInt32))] (.int (0 : Int32)) := Arv.set Ar46 q46 S46 M46 H46 G46 (fits_nar_char _) W47 1 rfl (Nat.le_of_ble_eq_true rfl)
      have f48 := (Safe.wr W43 Y39 CH40.1 Y39)
      have CH49 := CH44.trans (CHr.wr W47 f48 CH44.1)
      have hk49 := Nat.le_trans hk44 (Keep.of_wr W47).1
      have N50 := Fr.snoc X47 N45 gn39
      have O50 := O45.wr W47 gn39
      have K50 := K45.wr W47 (Or.inr sz39)
      have f51 := (((A36.ext E39).wr W43).wr W47)
      have f52 := (((Fvalue_36.ext E39).other W43 (Or.inl neb36_39)).other W47 (Or.inl neb36_39))
      have f53 := (((Fcoder_36.ext E39).other W43 (Or.inl neb36_39)).other W47 (Or.inl neb36_39))
      obtain ⟨_, _, ⟨T54, L54, k54, n54⟩, -, X54, ⟨Lc54, hQ54, l54, y54, z54⟩, st54⟩ := X47.specialBack hx (y := (⟨"java/lang/String", "<init>", "([C)V"⟩ : MethodName)) rfl hown (mvT hZ (ow8 hw)) (mvT hZ (ow9 hw)) (mvT hZ (ow10 hw)) (by decide) (StrChars.Road.backV (W := 1) hZ (own_ws hw) (kI := 4) (ow5 hw) (cs := ([(nar .char ((bits &&& (255 : Int32)).toUInt32.toUInt16.toUInt32.toInt32)), (nar .char ((((bits.toUInt32 >>> ((8 : Int32) &&& 31).toUInt32).toInt32) &&& (255 : Int32)).toUInt32.toUInt16.toUInt32.toInt32))] : List Int32)) (bs := ([(nar .char ((bits &&& (255 : Int32)).toUInt32.toUInt16.toUInt32.toInt32)), (nar .char ((((bits.toUInt32 >>> ((8 : Int32) &&& 31).toUInt32).toInt32) &&& (255 : Int32)).toUInt32.toUInt16.toUInt32.toInt32))] : List Int32).map (fun c => c.toInt8.toInt32)) (n := 2) gn36 (own_sz O50) f51 f52 f53 V47 (O2.ext O50.2) P5 rfl rfl (by decide) (by decide) (own_hp2 bits) rfl (by decide) (by decide)) (g := (mkF m 67 #[.val (.int len), .val (.int bits), .val (.int (bits &&& (255 : Int32)).toUInt32.toUInt16.toUInt32.toInt32), .val (.int (((bits.toUInt32 >>> ((8 : Int32) &&& 31).toUInt32).toInt32) &&& (255 : Int32)).toUInt32.toUInt16.toUInt32.toInt32)] [(.ref b39), (.ref b36), (.ref b36)])) rfl (by rw [hml]; rfl) (Steps.refl _) (a := b36) (argsL := [(.ref b39)]) (rest := [(.ref b36)]) (lenOf pd1 rfl) rfl (by show 2 * 0 + _ ≤ _; exact Nat.le_of_eq rfl) (hb hby d_method_3_code_67) (fun _ _ => ⟨rfl, e47, (by decide : 2 + 1 ≤ _), (by decide : 6 + 2 ≤ _)⟩)
      dsimp only [Pt.U, Pt.locs, Pt.cells, Pt.slots] at X54 l54 y54 z54 st54 hQ54
      subst l54 y54 z54
      obtain ⟨rfl, Nq54, kp54, sE54, sC54, t54, k54_, -, -, -, sV54, sA54⟩ := hQ54
      have N55 := Fr.app N50 Nq54
      have f56 := (Safe.wr W47 f48 CH44.1 (Safe.wr W43 Y39 CH40.1 (Safe.ext E39 CH37.1 Y36)))
      have CH57 := CH49.trans (CHr.keep kp54 (sfS f56 sf0) CH49.1)
      have hk57 := Nat.le_trans hk49 kp54.1
      have O58 := O50.keep kp54 (allS gn36 all0)
      have K58 := K50.trans kp54 (allS (Or.inr sz36) all0)
      obtain ⟨fs, hretL, hrun, hended, hEnd⟩ := Stand.leaveW X54 hS0 hk57 (v := some (.ref b36)) (fun h => by rw [Bd.returns] at h; cases h)
      have hCf : CHr Z EL0 s.vm s.heap T54.vm T54.heap := by rw [hh]; exact CH57.trans (CHv.at X54 hZ (own_EW hw) CH57.1)
      refine ⟨_, _, pre16 _ ?_, hrun, hended, _, _, rfl, ?_, hCf, hEnd.1, hEnd.2.1, hEnd.2.2.1, hEnd.2.2.2.mono (by decide) (by decide)⟩
      · refine XS.icmpYes X0.here hx rfl (pc0 := 34) (pc' := 52) rfl (hb hby d_method_3_code_34) rfl (feq hc34_17).2 (by decide) (by decide) ?_
        show Steps p.tables e below (s₁.setTop (mkF m 52 #[.val (.int len), .val (.int bits), .val (.int (bits &&& (255 : Int32)).toUInt32.toUInt16.toUInt32.toInt32), .val (.int (((bits.toUInt32 >>> ((8 : Int32) &&& 31).toUInt32).toInt32) &&& (255 : Int32)).toUInt32.toUInt16.toUInt32.toInt32)] [])) _
        refine st36 _ ?_
        show Steps p.tables e below (T36.setTop (mkF m 55 #[.val (.int len), .val (.int bits), .val (.int (bits &&& (255 : Int32)).toUInt32.toUInt16.toUInt32.toInt32), .val (.int (((bits.toUInt32 >>> ((8 : Int32) &&& 31).toUInt32).toInt32) &&& (255 : Int32)).toUInt32.toUInt16.toUInt32.toInt32)] [(.ref b36)])) _
        refine XS.dup X36.here hx rfl (hb hby d_method_3_code_55) rfl rfl ?_
        show Steps p.tables e below (T36.setTop (mkF m 56 #[.val (.int len), .val (.int bits), .val (.int (bits &&& (255 : Int32)).toUInt32.toUInt16.toUInt32.toInt32), .val (.int (((bits.toUInt32 >>> ((8 : Int32) &&& 31).toUInt32).toInt32) &&& (255 : Int32)).toUInt32.toUInt16.toUInt32.toInt32)] [(.ref b36), (.ref b36)])) _
        refine XS.iconst X36.here hx rfl (hb hby d_method_3_code_56) ?_
        show Steps p.tables e below (T36.setTop (mkF m 57 #[.val (.int len), .val (.int bits), .val (.int (bits &&& (255 : Int32)).toUInt32.toUInt16.toUInt32.toInt32), .val (.int (((bits.toUInt32 >>> ((8 : Int32) &&& 31).toUInt32).toInt32) &&& (255 : Int32)).toUInt32.toUInt16.toUInt32.toInt32)] [(.int (2 : Int32)), (.ref b36), (.ref b36)])) _
        refine st39 _ ?_
        show Steps p.tables e below (T39.setTop (mkF m 59 #[.val (.int len), .val (.int bits), .val (.int (bits &&& (255 : Int32)).toUInt32.toUInt16.toUInt32.toInt32), .val (.int (((bits.toUInt32 >>> ((8 : Int32) &&& 31).toUInt32).toInt32) &&& (255 : Int32)).toUInt32.toUInt16.toUInt32.toInt32)] [(.ref b39), (.ref b36), (.ref b36)])) _
        refine XS.dup X39.here hx rfl (hb hby d_method_3_code_59) rfl rfl ?_
        show Steps p.tables e below (T39.setTop (mkF m 60 #[.val (.int len), .val (.int bits), .val (.int (bits &&& (255 : Int32)).toUInt32.toUInt16.toUInt32.toInt32), .val (.int (((bits.toUInt32 >>> ((8 : Int32) &&& 31).toUInt32).toInt32) &&& (255 : Int32)).toUInt32.toUInt16.toUInt32.toInt32)] [(.ref b39), (.ref b39), (.ref b36), (.ref b36)])) _
        refine XS.iconst X39.here hx rfl (hb hby d_method_3_code_60) ?_
        show Steps p.tables e below (T39.setTop (mkF m 61 #[.val (.int len), .val (.int bits), .val (.int (bits &&& (255 : Int32)).toUInt32.toUInt16.toUInt32.toInt32), .val (.int (((bits.toUInt32 >>> ((8 : Int32) &&& 31).toUInt32).toInt32) &&& (255 : Int32)).toUInt32.toUInt16.toUInt32.toInt32)] [(.int (0 : Int32)), (.ref b39), (.ref b39), (.ref b36), (.ref b36)])) _
        refine XS.iloadN X39.here hx rfl (hb hby d_method_3_code_61) rfl ?_
        show Steps p.tables e below (T39.setTop (mkF m 62 #[.val (.int len), .val (.int bits), .val (.int (bits &&& (255 : Int32)).toUInt32.toUInt16.toUInt32.toInt32), .val (.int (((bits.toUInt32 >>> ((8 : Int32) &&& 31).toUInt32).toInt32) &&& (255 : Int32)).toUInt32.toUInt16.toUInt32.toInt32)] [(.int (bits &&& (255 : Int32)).toUInt32.toUInt16.toUInt32.toInt32), (.int (0 : Int32)), (.ref b39), (.ref b39), (.ref b36), (.ref b36)])) _
        refine st43 _ ?_
        show Steps p.tables e below (T43.setTop (mkF m 63 #[.val (.int len), .val (.int bits), .val (.int (bits &&& (255 : Int32)).toUInt32.toUInt16.toUInt32.toInt32), .val (.int (((bits.toUInt32 >>> ((8 : Int32) &&& 31).toUInt32).toInt32) &&& (255 : Int32)).toUInt32.toUInt16.toUInt32.toInt32)] [(.ref b39), (.ref b36), (.ref b36)])) _
        refine XS.dup X43.here hx rfl (hb hby d_method_3_code_63) rfl rfl ?_
        show Steps p.tables e below (T43.setTop (mkF m 64 #[.val (.int len), .val (.int bits), .val (.int (bits &&& (255 : Int32)).toUInt32.toUInt16.toUInt32.toInt32), .val (.int (((bits.toUInt32 >>> ((8 : Int32) &&& 31).toUInt32).toInt32) &&& (255 : Int32)).toUInt32.toUInt16.toUInt32.toInt32)] [(.ref b39), (.ref b39), (.ref b36), (.ref b36)])) _
        refine XS.iconst X43.here hx rfl (hb hby d_method_3_code_64) ?_
        show Steps p.tables e below (T43.setTop (mkF m 65 #[.val (.int len), .val (.int bits), .val (.int (bits &&& (255 : Int32)).toUInt32.toUInt16.toUInt32.toInt32), .val (.int (((bits.toUInt32 >>> ((8 : Int32) &&& 31).toUInt32).toInt32) &&& (255 : Int32)).toUInt32.toUInt16.toUInt32.toInt32)] [(.int (1 : Int32)), (.ref b39), (.ref b39), (.ref b36), (.ref b36)])) _
        refine XS.iloadN X43.here hx rfl (hb hby d_method_3_code_65) rfl ?_
        show Steps p.tables e below (T43.setTop (mkF m 66 #[.val (.int len), .val (.int bits), .val (.int (bits &&& (255 : Int32)).toUInt32.toUInt16.toUInt32.toInt32), .val (.int (((bits.toUInt32 >>> ((8 : Int32) &&& 31).toUInt32).toInt32) &&& (255 : Int32)).toUInt32.toUInt16.toUInt32.toInt32)] [(.int (((bits.toUInt32 >>> ((8 : Int32) &&& 31).toUInt32).toInt32) &&& (255 : Int32)).toUInt32.toUInt16.toUInt32.toInt32), (.int (1 : Int32)), (.ref b39), (.ref b39), (.ref b36), (.ref b36)])) _
        refine st47 _ ?_
        show Steps p.tables e below (T47.setTop (mkF m 67 #[.val (.int len), .val (.int bits), .val (.int (bits &&& (255 : Int32)).toUInt32.toUInt16.toUInt32.toInt32), .val (.int (((bits.toUInt32 >>> ((8 : Int32) &&& 31).toUInt32).toInt32) &&& (255 : Int32)).toUInt32.toUInt16.toUInt32.toInt32)] [(.ref b39), (.ref b36), (.ref b36)])) _
        refine st54.trans ?_
        show Steps p.tables e below (T54.setTop (mkF m 70 #[.val (.int len), .val (.int bits), .val (.int (bits &&& (255 : Int32)).toUInt32.toUInt16.toUInt32.toInt32), .val (.int (((bits.toUInt32 >>> ((8 : Int32) &&& 31).toUInt32).toInt32) &&& (255 : Int32)).toUInt32.toUInt16.toUInt32.toInt32)] [(.ref b36)])) _
        exact retOut X54 hx Bd.returns rfl (Or.inr (Or.inr (Or.inr (Or.inr ⟨rfl, rfl, rfl⟩)))) (hb hby d_method_3_code_70) hretL
      · show Q_rmmk Z len bits G1 h0 n0 _ T54.heap _
        refine ⟨_, rfl, N55, K58, gn36, ?_⟩
        simp only [chs, if_neg hc18_2, if_neg hc34_17]
        exact ⟨sE54, sC54, own_hp2 bits, (Nat.le_of_ble_eq_true rfl), t54, k54_, sV54, sA54⟩
def sm (la a lb b : Int32) : Int32 := if la = lb then (if la < 1 then (if la < 2 then 1 else if (((a.toUInt32 >>> ((8 : Int32) &&& 31).toUInt32).toInt32) &&& (255 : Int32)) = (((b.toUInt32 >>> ((8 : Int32) &&& 31).toUInt32).toInt32) &&& (255 : Int32)) then 1 else 0) else if (a &&& (255 : Int32)) = (b &&& (255 : Int32)) then (if la < 2 then 1 else if (((a.toUInt32 >>> ((8 : Int32) &&& 31).toUInt32).toInt32) &&& (255 : Int32)) = (((b.toUInt32 >>> ((8 : Int32) &&& 31).toUInt32).toInt32) &&& (255 : Int32)) then 1 else 0) else 0) else 0
theorem d_method_4_code_0 : decode method_4_code 0 = .ok (.iload_n 0, 1) := by decide +kernel
theorem d_method_4_code_1 : decode method_4_code 1 = .ok (.iload_n 2, 1) := by decide +kernel
theorem d_method_4_code_2 : decode method_4_code 2 = .ok (.if_icmp .eq 5, 3) := by decide +kernel
theorem d_method_4_code_5 : decode method_4_code 5 = .ok (.iconst 0, 1) := by decide +kernel
theorem d_method_4_code_6 : decode method_4_code 6 = .ok (.ireturn, 1) := by decide +kernel
theorem d_method_4_code_7 : decode method_4_code 7 = .ok (.iload_n 0, 1) := by decide +kernel
theorem d_method_4_code_8 : decode method_4_code 8 = .ok (.iconst 1, 1) := by decide +kernel
theorem d_method_4_code_9 : decode method_4_code 9 = .ok (.if_icmp .lt 18, 3) := by decide +kernel
theorem d_method_4_code_12 : decode method_4_code 12 = .ok (.iload_n 1, 1) := by decide +kernel
theorem d_method_4_code_13 : decode method_4_code 13 = .ok (.sipush 255, 3) := by decide +kernel
theorem d_method_4_code_16 : decode method_4_code 16 = .ok (.iand, 1) := by decide +kernel
theorem d_method_4_code_17 : decode method_4_code 17 = .ok (.iload_n 3, 1) := by decide +kernel
theorem d_method_4_code_18 : decode method_4_code 18 = .ok (.sipush 255, 3) := by decide +kernel
theorem d_method_4_code_21 : decode method_4_code 21 = .ok (.iand, 1) := by decide +kernel
theorem d_method_4_code_22 : decode method_4_code 22 = .ok (.if_icmp .eq 5, 3) := by decide +kernel
theorem d_method_4_code_25 : decode method_4_code 25 = .ok (.iconst 0, 1) := by decide +kernel
theorem d_method_4_code_26 : decode method_4_code 26 = .ok (.ireturn, 1) := by decide +kernel
theorem d_method_4_code_27 : decode method_4_code 27 = .ok (.iload_n 0, 1) := by decide +kernel
theorem d_method_4_code_28 : decode method_4_code 28 = .ok (.iconst 2, 1) := by decide +kernel
theorem d_method_4_code_29 : decode method_4_code 29 = .ok (.if_icmp .lt 24, 3) := by decide +kernel
theorem d_method_4_code_32 : decode method_4_code 32 = .ok (.iload_n 1, 1) := by decide +kernel
theorem d_method_4_code_33 : decode method_4_code 33 = .ok (.bipush 8, 2) := by decide +kernel
theorem d_method_4_code_35 : decode method_4_code 35 = .ok (.iushr, 1) := by decide +kernel
theorem d_method_4_code_36 : decode method_4_code 36 = .ok (.sipush 255, 3) := by decide +kernel
theorem d_method_4_code_39 : decode method_4_code 39 = .ok (.iand, 1) := by decide +kernel
theorem d_method_4_code_40 : decode method_4_code 40 = .ok (.iload_n 3, 1) := by decide +kernel
theorem d_method_4_code_41 : decode method_4_code 41 = .ok (.bipush 8, 2) := by decide +kernel
theorem d_method_4_code_43 : decode method_4_code 43 = .ok (.iushr, 1) := by decide +kernel
theorem d_method_4_code_44 : decode method_4_code 44 = .ok (.sipush 255, 3) := by decide +kernel
theorem d_method_4_code_47 : decode method_4_code 47 = .ok (.iand, 1) := by decide +kernel
theorem d_method_4_code_48 : decode method_4_code 48 = .ok (.if_icmp .eq 5, 3) := by decide +kernel
theorem d_method_4_code_51 : decode method_4_code 51 = .ok (.iconst 0, 1) := by decide +kernel
theorem d_method_4_code_52 : decode method_4_code 52 = .ok (.ireturn, 1) := by decide +kernel
theorem d_method_4_code_53 : decode method_4_code 53 = .ok (.iconst 1, 1) := by decide +kernel
theorem d_method_4_code_54 : decode method_4_code 54 = .ok (.ireturn, 1) := by decide +kernel
def Q_rmsm (Z : State) (la : Int32) (ca : Int32) (lb : Int32) (cb : Int32) (h0 : Heap) (n0 : Nat) (v : Option Value) (h : Heap) (L : List Loc) : Prop := v = some (.int (sm la ca lb cb)) ∧ Fr n0 L ∧ h = h0
theorem ef_rmsm (m : MethodId) (la : Int32) (ca : Int32) (lb : Int32) (cb : Int32) : entryFrame m #[(.int la), (.int ca), (.int lb), (.int cb)] 4 = mkF m 0 #[.val (.int la), .val (.int ca), .val (.int lb), .val (.int cb)] [] := by first | (simp [entryFrame, mkF, argsToLocals, Value.category]; done) | rfl
set_option maxRecDepth 65536 in
set_option maxHeartbeats 40000000 in
theorem rmsm (l : Launch) (Z : State) (a0 : Array Value) (hw : ∀ d ∈ tables_1, d.before a0 Z = true) (ws : List Jvm.Cond) (la : Int32) (ca : Int32) (lb : Int32) (cb : Int32) (h0 : Heap) (n0 : Nat) (O0 : Old Z n0 h0) :
    MetFree l (⟨"com/example/verdictd/verdictd/RolePairEqualsPinLaw", "same", "(IIII)Z"⟩ : MethodName) (head1 (Jvm.Cond.code (⟨"com/example/verdictd/verdictd/RolePairEqualsPinLaw", "same", "(IIII)Z"⟩ : MethodName) method_4_code 4 (some .boolean) :: ws) ({ frames := 0, cells := 0, slots := 0, locals := 0 } : Room)) (fun aa U => aa = #[(.int la), (.int ca), (.int lb), (.int cb)] ∧ Z.Warmed39 U.vm ∧ U.heap = h0) (fun _ _ _ _ _ => True) (fun _ U o U' => ∃ v L, o = .returned v ∧ Q_rmsm Z la ca lb cb h0 n0 v U'.heap L ∧ FrameEnd U o U' L ({ frames := 0, cells := 0, slots := 0, locals := 0 } : Room).cells ({ frames := 0, cells := 0, slots := 0, locals := 0 } : Room).slots) := by
  refine MetFree.of_bodySF (plainFor_of_name pn1) hisR ?_
  intro p e s m args below meth c s₁ Bd hml0 hP hK
  obtain ⟨rfl, hZ, hh⟩ := hP
  have hx := Bd.exec
  have hby := Bd.bytes
  have hml : c.maxLocals = 4 := hml0
  have hown : s.vm.findClass "com/example/verdictd/verdictd/RolePairEqualsPinLaw" = some m.cls := findClass_of_methodNamed Bd.named
  have hnm := (name_of_methodNamed Bd.named Bd.method).1
  have X0 : Stand p l e ({ frames := 0, cells := 0, slots := 0, locals := 0 } : Room) s m #[(.int la), (.int ca), (.int lb), (.int cb)] below meth c s₁ [] 0 0 := Stand.of_body Bd
  have e0 : s₁.heap = h0 := by rw [← hh, Bd.state]; rfl
  have N0 := Fr.nil n0
  have K0 : Keep h0 h0 [] := Keep.refl _ _
  have pre0 : ∀ tgt, Steps p.tables e below (s₁.setTop (mkF m 0 #[.val (.int la), .val (.int ca), .val (.int lb), .val (.int cb)] [])) tgt → Steps p.tables e below (s₁.setTop (entryFrame m #[(.int la), (.int ca), (.int lb), (.int cb)] 4)) tgt := fun tgt kgo => castTop (ef_rmsm m la ca lb cb) kgo
  have pre1 : ∀ tgt, Steps p.tables e below (s₁.setTop (mkF m 2 #[.val (.int la), .val (.int ca), .val (.int lb), .val (.int cb)] [(.int lb), (.int la)])) tgt → Steps p.tables e below (s₁.setTop (entryFrame m #[(.int la), (.int ca), (.int lb), (.int cb)] 4)) tgt := by
    intro tgt kgo
    refine pre0 _ ?_
    refine XS.iloadN X0.here hx rfl (hb hby d_method_4_code_0) rfl ?_
    show Steps p.tables e below (s₁.setTop (mkF m 1 #[.val (.int la), .val (.int ca), .val (.int lb), .val (.int cb)] [(.int la)])) _
    refine XS.iloadN X0.here hx rfl (hb hby d_method_4_code_1) rfl ?_
    show Steps p.tables e below (s₁.setTop (mkF m 2 #[.val (.int la), .val (.int ca), .val (.int lb), .val (.int cb)] [(.int lb), (.int la)])) _
    exact kgo
  by_cases hc2_2 : la = lb
  · have pre3 : ∀ tgt, Steps p.tables e below (s₁.setTop (mkF m 9 #[.val (.int la), .val (.int ca), .val (.int lb), .val (.int cb)] [(.int (1 : Int32)), (.int la)])) tgt → Steps p.tables e below (s₁.setTop (entryFrame m #[(.int la), (.int ca), (.int lb), (.int cb)] 4)) tgt := by
      intro tgt kgo
      refine pre1 _ ?_
      refine XS.icmpYes X0.here hx rfl (pc0 := 2) (pc' := 7) rfl (hb hby d_method_4_code_2) rfl (teq hc2_2).1 (by decide) (by decide) ?_
      show Steps p.tables e below (s₁.setTop (mkF m 7 #[.val (.int la), .val (.int ca), .val (.int lb), .val (.int cb)] [])) _
      refine XS.iloadN X0.here hx rfl (hb hby d_method_4_code_7) rfl ?_
      show Steps p.tables e below (s₁.setTop (mkF m 8 #[.val (.int la), .val (.int ca), .val (.int lb), .val (.int cb)] [(.int la)])) _
      refine XS.iconst X0.here hx rfl (hb hby d_method_4_code_8) ?_
      show Steps p.tables e below (s₁.setTop (mkF m 9 #[.val (.int la), .val (.int ca), .val (.int lb), .val (.int cb)] [(.int (1 : Int32)), (.int la)])) _
      exact kgo
    by_cases hc9_4 : la < (1 : Int32)
    · have pre5 : ∀ tgt, Steps p.tables e below (s₁.setTop (mkF m 29 #[.val (.int la), .val (.int ca), .val (.int lb), .val (.int cb)] [(.int (2 : Int32)), (.int la)])) tgt → Steps p.tables e below (s₁.setTop (entryFrame m #[(.int la), (.int ca), (.int lb), (.int cb)] 4)) tgt := by
        intro tgt kgo
        refine pre3 _ ?_
        refine XS.icmpYes X0.here hx rfl (pc0 := 9) (pc' := 27) rfl (hb hby d_method_4_code_9) rfl (tlt hc9_4).1 (by decide) (by decide) ?_
        show Steps p.tables e below (s₁.setTop (mkF m 27 #[.val (.int la), .val (.int ca), .val (.int lb), .val (.int cb)] [])) _
        refine XS.iloadN X0.here hx rfl (hb hby d_method_4_code_27) rfl ?_
        show Steps p.tables e below (s₁.setTop (mkF m 28 #[.val (.int la), .val (.int ca), .val (.int lb), .val (.int cb)] [(.int la)])) _
        refine XS.iconst X0.here hx rfl (hb hby d_method_4_code_28) ?_
        show Steps p.tables e below (s₁.setTop (mkF m 29 #[.val (.int la), .val (.int ca), .val (.int lb), .val (.int cb)] [(.int (2 : Int32)), (.int la)])) _
        exact kgo
      by_cases hc29_6 : la < (2 : Int32)
      · obtain ⟨fs, hretL, hrun, hended, hW, hsame⟩ := X0.leave (v := some (.int (1 : Int32))) (fun h => by rw [Bd.returns] at h; cases h)
        refine ⟨_, _, pre5 _ ?_, hrun, hended, _, _, rfl, ?_, ⟨_, rfl⟩, hW, hsame.mono (by decide) (by decide)⟩
        · refine XS.icmpYes X0.here hx rfl (pc0 := 29) (pc' := 53) rfl (hb hby d_method_4_code_29) rfl (tlt hc29_6).1 (by decide) (by decide) ?_
          show Steps p.tables e below (s₁.setTop (mkF m 53 #[.val (.int la), .val (.int ca), .val (.int lb), .val (.int cb)] [])) _
          refine XS.iconst X0.here hx rfl (hb hby d_method_4_code_53) ?_
          show Steps p.tables e below (s₁.setTop (mkF m 54 #[.val (.int la), .val (.int ca), .val (.int lb), .val (.int cb)] [(.int (1 : Int32))])) _
          exact retOut X0 hx Bd.returns rfl (Or.inl ⟨rfl, Or.inr (Or.inl rfl), _, rfl⟩) (hb hby d_method_4_code_54) hretL
        · show Q_rmsm Z la ca lb cb h0 n0 _ s₁.heap _
          rw [e0]
          exact ⟨by simp only [sm, if_pos hc2_2, if_pos hc9_4, if_pos hc29_6], N0, rfl⟩
      · have pre7 : ∀ tgt, Steps p.tables e below (s₁.setTop (mkF m 48 #[.val (.int la), .val (.int ca), .val (.int lb), .val (.int cb)] [(.int (((cb.toUInt32 >>> ((8 : Int32) &&& 31).toUInt32).toInt32) &&& (255 : Int32))), (.int (((ca.toUInt32 >>> ((8 : Int32) &&& 31).toUInt32).toInt32) &&& (255 : Int32)))])) tgt → Steps p.tables e below (s₁.setTop (entryFrame m #[(.int la), (.int ca), (.int lb), (.int cb)] 4)) tgt := by
          intro tgt kgo
          refine pre5 _ ?_
          refine XS.icmpNo X0.here hx rfl (hb hby d_method_4_code_29) rfl (flt hc29_6).1 ?_
          show Steps p.tables e below (s₁.setTop (mkF m 32 #[.val (.int la), .val (.int ca), .val (.int lb), .val (.int cb)] [])) _
          refine XS.iloadN X0.here hx rfl (hb hby d_method_4_code_32) rfl ?_
          show Steps p.tables e below (s₁.setTop (mkF m 33 #[.val (.int la), .val (.int ca), .val (.int lb), .val (.int cb)] [(.int ca)])) _
          refine XS.bipush X0.here hx rfl (hb hby d_method_4_code_33) ?_
          show Steps p.tables e below (s₁.setTop (mkF m 35 #[.val (.int la), .val (.int ca), .val (.int lb), .val (.int cb)] [(.int (8 : Int32)), (.int ca)])) _
          refine XS.iushr X0.here hx rfl (hb hby d_method_4_code_35) rfl ?_
          show Steps p.tables e below (s₁.setTop (mkF m 36 #[.val (.int la), .val (.int ca), .val (.int lb), .val (.int cb)] [(.int ((ca.toUInt32 >>> ((8 : Int32) &&& 31).toUInt32).toInt32))])) _
          refine XS.sipush X0.here hx rfl (hb hby d_method_4_code_36) ?_
          show Steps p.tables e below (s₁.setTop (mkF m 39 #[.val (.int la), .val (.int ca), .val (.int lb), .val (.int cb)] [(.int (255 : Int32)), (.int ((ca.toUInt32 >>> ((8 : Int32) &&& 31).toUInt32).toInt32))])) _
          refine XS.iand X0.here hx rfl (hb hby d_method_4_code_39) rfl ?_
          show Steps p.tables e below (s₁.setTop (mkF m 40 #[.val (.int la), .val (.int ca), .val (.int lb), .val (.int cb)] [(.int (((ca.toUInt32 >>> ((8 : Int32) &&& 31).toUInt32).toInt32) &&& (255 : Int32)))])) _
          refine XS.iloadN X0.here hx rfl (hb hby d_method_4_code_40) rfl ?_
          show Steps p.tables e below (s₁.setTop (mkF m 41 #[.val (.int la), .val (.int ca), .val (.int lb), .val (.int cb)] [(.int cb), (.int (((ca.toUInt32 >>> ((8 : Int32) &&& 31).toUInt32).toInt32) &&& (255 : Int32)))])) _
          refine XS.bipush X0.here hx rfl (hb hby d_method_4_code_41) ?_
          show Steps p.tables e below (s₁.setTop (mkF m 43 #[.val (.int la), .val (.int ca), .val (.int lb), .val (.int cb)] [(.int (8 : Int32)), (.int cb), (.int (((ca.toUInt32 >>> ((8 : Int32) &&& 31).toUInt32).toInt32) &&& (255 : Int32)))])) _
          refine XS.iushr X0.here hx rfl (hb hby d_method_4_code_43) rfl ?_
          show Steps p.tables e below (s₁.setTop (mkF m 44 #[.val (.int la), .val (.int ca), .val (.int lb), .val (.int cb)] [(.int ((cb.toUInt32 >>> ((8 : Int32) &&& 31).toUInt32).toInt32)), (.int (((ca.toUInt32 >>> ((8 : Int32) &&& 31).toUInt32).toInt32) &&& (255 : Int32)))])) _
          refine XS.sipush X0.here hx rfl (hb hby d_method_4_code_44) ?_
          show Steps p.tables e below (s₁.setTop (mkF m 47 #[.val (.int la), .val (.int ca), .val (.int lb), .val (.int cb)] [(.int (255 : Int32)), (.int ((cb.toUInt32 >>> ((8 : Int32) &&& 31).toUInt32).toInt32)), (.int (((ca.toUInt32 >>> ((8 : Int32) &&& 31).toUInt32).toInt32) &&& (255 : Int32)))])) _
          refine XS.iand X0.here hx rfl (hb hby d_method_4_code_47) rfl ?_
          show Steps p.tables e below (s₁.setTop (mkF m 48 #[.val (.int la), .val (.int ca), .val (.int lb), .val (.int cb)] [(.int (((cb.toUInt32 >>> ((8 : Int32) &&& 31).toUInt32).toInt32) &&& (255 : Int32))), (.int (((ca.toUInt32 >>> ((8 : Int32) &&& 31).toUInt32).toInt32) &&& (255 : Int32)))])) _
          exact kgo
        by_cases hc48_8 : (((ca.toUInt32 >>> ((8 : Int32) &&& 31).toUInt32).toInt32) &&& (255 : Int32)) = (((cb.toUInt32 >>> ((8 : Int32) &&& 31).toUInt32).toInt32) &&& (255 : Int32))
        · obtain ⟨fs, hretL, hrun, hended, hW, hsame⟩ := X0.leave (v := some (.int (1 : Int32))) (fun h => by rw [Bd.returns] at h; cases h)
          refine ⟨_, _, pre7 _ ?_, hrun, hended, _, _, rfl, ?_, ⟨_, rfl⟩, hW, hsame.mono (by decide) (by decide)⟩
          · refine XS.icmpYes X0.here hx rfl (pc0 := 48) (pc' := 53) rfl (hb hby d_method_4_code_48) rfl (teq hc48_8).1 (by decide) (by decide) ?_
            show Steps p.tables e below (s₁.setTop (mkF m 53 #[.val (.int la), .val (.int ca), .val (.int lb), .val (.int cb)] [])) _
            refine XS.iconst X0.here hx rfl (hb hby d_method_4_code_53) ?_
            show Steps p.tables e below (s₁.setTop (mkF m 54 #[.val (.int la), .val (.int ca), .val (.int lb), .val (.int cb)] [(.int (1 : Int32))])) _
            exact retOut X0 hx Bd.returns rfl (Or.inl ⟨rfl, Or.inr (Or.inl rfl), _, rfl⟩) (hb hby d_method_4_code_54) hretL
          · show Q_rmsm Z la ca lb cb h0 n0 _ s₁.heap _
            rw [e0]
            exact ⟨by simp only [sm, if_pos hc2_2, if_pos hc9_4, if_neg hc29_6, if_pos hc48_8], N0, rfl⟩
        · obtain ⟨fs, hretL, hrun, hended, hW, hsame⟩ := X0.leave (v := some (.int (0 : Int32))) (fun h => by rw [Bd.returns] at h; cases h)
          refine ⟨_, _, pre7 _ ?_, hrun, hended, _, _, rfl, ?_, ⟨_, rfl⟩, hW, hsame.mono (by decide) (by decide)⟩
          · refine XS.icmpNo X0.here hx rfl (hb hby d_method_4_code_48) rfl (feq hc48_8).1 ?_
            show Steps p.tables e below (s₁.setTop (mkF m 51 #[.val (.int la), .val (.int ca), .val (.int lb), .val (.int cb)] [])) _
            refine XS.iconst X0.here hx rfl (hb hby d_method_4_code_51) ?_
            show Steps p.tables e below (s₁.setTop (mkF m 52 #[.val (.int la), .val (.int ca), .val (.int lb), .val (.int cb)] [(.int (0 : Int32))])) _
            exact retOut X0 hx Bd.returns rfl (Or.inl ⟨rfl, Or.inr (Or.inl rfl), _, rfl⟩) (hb hby d_method_4_code_52) hretL
          · show Q_rmsm Z la ca lb cb h0 n0 _ s₁.heap _
            rw [e0]
            exact ⟨by simp only [sm, if_pos hc2_2, if_pos hc9_4, if_neg hc29_6, if_neg hc48_8], N0, rfl⟩
    · have pre9 : ∀ tgt, Steps p.tables e below (s₁.setTop (mkF m 22 #[.val (.int la), .val (.int ca), .val (.int lb), .val (.int cb)] [(.int (cb &&& (255 : Int32))), (.int (ca &&& (255 : Int32)))])) tgt → Steps p.tables e below (s₁.setTop (entryFrame m #[(.int la), (.int ca), (.int lb), (.int cb)] 4)) tgt := by
        intro tgt kgo
        refine pre3 _ ?_
        refine XS.icmpNo X0.here hx rfl (hb hby d_method_4_code_9) rfl (flt hc9_4).1 ?_
        show Steps p.tables e below (s₁.setTop (mkF m 12 #[.val (.int la), .val (.int ca), .val (.int lb), .val (.int cb)] [])) _
        refine XS.iloadN X0.here hx rfl (hb hby d_method_4_code_12) rfl ?_
        show Steps p.tables e below (s₁.setTop (mkF m 13 #[.val (.int la), .val (.int ca), .val (.int lb), .val (.int cb)] [(.int ca)])) _
        refine XS.sipush X0.here hx rfl (hb hby d_method_4_code_13) ?_
        show Steps p.tables e below (s₁.setTop (mkF m 16 #[.val (.int la), .val (.int ca), .val (.int lb), .val (.int cb)] [(.int (255 : Int32)), (.int ca)])) _
        refine XS.iand X0.here hx rfl (hb hby d_method_4_code_16) rfl ?_
        show Steps p.tables e below (s₁.setTop (mkF m 17 #[.val (.int la), .val (.int ca), .val (.int lb), .val (.int cb)] [(.int (ca &&& (255 : Int32)))])) _
        refine XS.iloadN X0.here hx rfl (hb hby d_method_4_code_17) rfl ?_
        show Steps p.tables e below (s₁.setTop (mkF m 18 #[.val (.int la), .val (.int ca), .val (.int lb), .val (.int cb)] [(.int cb), (.int (ca &&& (255 : Int32)))])) _
        refine XS.sipush X0.here hx rfl (hb hby d_method_4_code_18) ?_
        show Steps p.tables e below (s₁.setTop (mkF m 21 #[.val (.int la), .val (.int ca), .val (.int lb), .val (.int cb)] [(.int (255 : Int32)), (.int cb), (.int (ca &&& (255 : Int32)))])) _
        refine XS.iand X0.here hx rfl (hb hby d_method_4_code_21) rfl ?_
        show Steps p.tables e below (s₁.setTop (mkF m 22 #[.val (.int la), .val (.int ca), .val (.int lb), .val (.int cb)] [(.int (cb &&& (255 : Int32))), (.int (ca &&& (255 : Int32)))])) _
        exact kgo
      by_cases hc22_10 : (ca &&& (255 : Int32)) = (cb &&& (255 : Int32))
      · have pre11 : ∀ tgt, Steps p.tables e below (s₁.setTop (mkF m 29 #[.val (.int la), .val (.int ca), .val (.int lb), .val (.int cb)] [(.int (2 : Int32)), (.int la)])) tgt → Steps p.tables e below (s₁.setTop (entryFrame m #[(.int la), (.int ca), (.int lb), (.int cb)] 4)) tgt := by
          intro tgt kgo
          refine pre9 _ ?_
          refine XS.icmpYes X0.here hx rfl (pc0 := 22) (pc' := 27) rfl (hb hby d_method_4_code_22) rfl (teq hc22_10).1 (by decide) (by decide) ?_
          show Steps p.tables e below (s₁.setTop (mkF m 27 #[.val (.int la), .val (.int ca), .val (.int lb), .val (.int cb)] [])) _
          refine XS.iloadN X0.here hx rfl (hb hby d_method_4_code_27) rfl ?_
          show Steps p.tables e below (s₁.setTop (mkF m 28 #[.val (.int la), .val (.int ca), .val (.int lb), .val (.int cb)] [(.int la)])) _
          refine XS.iconst X0.here hx rfl (hb hby d_method_4_code_28) ?_
          show Steps p.tables e below (s₁.setTop (mkF m 29 #[.val (.int la), .val (.int ca), .val (.int lb), .val (.int cb)] [(.int (2 : Int32)), (.int la)])) _
          exact kgo
        by_cases hc29_12 : la < (2 : Int32)
        · obtain ⟨fs, hretL, hrun, hended, hW, hsame⟩ := X0.leave (v := some (.int (1 : Int32))) (fun h => by rw [Bd.returns] at h; cases h)
          refine ⟨_, _, pre11 _ ?_, hrun, hended, _, _, rfl, ?_, ⟨_, rfl⟩, hW, hsame.mono (by decide) (by decide)⟩
          · refine XS.icmpYes X0.here hx rfl (pc0 := 29) (pc' := 53) rfl (hb hby d_method_4_code_29) rfl (tlt hc29_12).1 (by decide) (by decide) ?_
            show Steps p.tables e below (s₁.setTop (mkF m 53 #[.val (.int la), .val (.int ca), .val (.int lb), .val (.int cb)] [])) _
            refine XS.iconst X0.here hx rfl (hb hby d_method_4_code_53) ?_
            show Steps p.tables e below (s₁.setTop (mkF m 54 #[.val (.int la), .val (.int ca), .val (.int lb), .val (.int cb)] [(.int (1 : Int32))])) _
            exact retOut X0 hx Bd.returns rfl (Or.inl ⟨rfl, Or.inr (Or.inl rfl), _, rfl⟩) (hb hby d_method_4_code_54) hretL
          · show Q_rmsm Z la ca lb cb h0 n0 _ s₁.heap _
            rw [e0]
            exact ⟨by simp only [sm, if_pos hc2_2, if_neg hc9_4, if_pos hc22_10, if_pos hc29_12], N0, rfl⟩
        · have pre13 : ∀ tgt, Steps p.tables e below (s₁.setTop (mkF m 48 #[.val (.int la), .val (.int ca), .val (.int lb), .val (.int cb)] [(.int (((cb.toUInt32 >>> ((8 : Int32) &&& 31).toUInt32).toInt32) &&& (255 : Int32))), (.int (((ca.toUInt32 >>> ((8 : Int32) &&& 31).toUInt32).toInt32) &&& (255 : Int32)))])) tgt → Steps p.tables e below (s₁.setTop (entryFrame m #[(.int la), (.int ca), (.int lb), (.int cb)] 4)) tgt := by
            intro tgt kgo
            refine pre11 _ ?_
            refine XS.icmpNo X0.here hx rfl (hb hby d_method_4_code_29) rfl (flt hc29_12).1 ?_
            show Steps p.tables e below (s₁.setTop (mkF m 32 #[.val (.int la), .val (.int ca), .val (.int lb), .val (.int cb)] [])) _
            refine XS.iloadN X0.here hx rfl (hb hby d_method_4_code_32) rfl ?_
            show Steps p.tables e below (s₁.setTop (mkF m 33 #[.val (.int la), .val (.int ca), .val (.int lb), .val (.int cb)] [(.int ca)])) _
            refine XS.bipush X0.here hx rfl (hb hby d_method_4_code_33) ?_
            show Steps p.tables e below (s₁.setTop (mkF m 35 #[.val (.int la), .val (.int ca), .val (.int lb), .val (.int cb)] [(.int (8 : Int32)), (.int ca)])) _
            refine XS.iushr X0.here hx rfl (hb hby d_method_4_code_35) rfl ?_
            show Steps p.tables e below (s₁.setTop (mkF m 36 #[.val (.int la), .val (.int ca), .val (.int lb), .val (.int cb)] [(.int ((ca.toUInt32 >>> ((8 : Int32) &&& 31).toUInt32).toInt32))])) _
            refine XS.sipush X0.here hx rfl (hb hby d_method_4_code_36) ?_
            show Steps p.tables e below (s₁.setTop (mkF m 39 #[.val (.int la), .val (.int ca), .val (.int lb), .val (.int cb)] [(.int (255 : Int32)), (.int ((ca.toUInt32 >>> ((8 : Int32) &&& 31).toUInt32).toInt32))])) _
            refine XS.iand X0.here hx rfl (hb hby d_method_4_code_39) rfl ?_
            show Steps p.tables e below (s₁.setTop (mkF m 40 #[.val (.int la), .val (.int ca), .val (.int lb), .val (.int cb)] [(.int (((ca.toUInt32 >>> ((8 : Int32) &&& 31).toUInt32).toInt32) &&& (255 : Int32)))])) _
            refine XS.iloadN X0.here hx rfl (hb hby d_method_4_code_40) rfl ?_
            show Steps p.tables e below (s₁.setTop (mkF m 41 #[.val (.int la), .val (.int ca), .val (.int lb), .val (.int cb)] [(.int cb), (.int (((ca.toUInt32 >>> ((8 : Int32) &&& 31).toUInt32).toInt32) &&& (255 : Int32)))])) _
            refine XS.bipush X0.here hx rfl (hb hby d_method_4_code_41) ?_
            show Steps p.tables e below (s₁.setTop (mkF m 43 #[.val (.int la), .val (.int ca), .val (.int lb), .val (.int cb)] [(.int (8 : Int32)), (.int cb), (.int (((ca.toUInt32 >>> ((8 : Int32) &&& 31).toUInt32).toInt32) &&& (255 : Int32)))])) _
            refine XS.iushr X0.here hx rfl (hb hby d_method_4_code_43) rfl ?_
            show Steps p.tables e below (s₁.setTop (mkF m 44 #[.val (.int la), .val (.int ca), .val (.int lb), .val (.int cb)] [(.int ((cb.toUInt32 >>> ((8 : Int32) &&& 31).toUInt32).toInt32)), (.int (((ca.toUInt32 >>> ((8 : Int32) &&& 31).toUInt32).toInt32) &&& (255 : Int32)))])) _
            refine XS.sipush X0.here hx rfl (hb hby d_method_4_code_44) ?_
            show Steps p.tables e below (s₁.setTop (mkF m 47 #[.val (.int la), .val (.int ca), .val (.int lb), .val (.int cb)] [(.int (255 : Int32)), (.int ((cb.toUInt32 >>> ((8 : Int32) &&& 31).toUInt32).toInt32)), (.int (((ca.toUInt32 >>> ((8 : Int32) &&& 31).toUInt32).toInt32) &&& (255 : Int32)))])) _
            refine XS.iand X0.here hx rfl (hb hby d_method_4_code_47) rfl ?_
            show Steps p.tables e below (s₁.setTop (mkF m 48 #[.val (.int la), .val (.int ca), .val (.int lb), .val (.int cb)] [(.int (((cb.toUInt32 >>> ((8 : Int32) &&& 31).toUInt32).toInt32) &&& (255 : Int32))), (.int (((ca.toUInt32 >>> ((8 : Int32) &&& 31).toUInt32).toInt32) &&& (255 : Int32)))])) _
            exact kgo
          by_cases hc48_14 : (((ca.toUInt32 >>> ((8 : Int32) &&& 31).toUInt32).toInt32) &&& (255 : Int32)) = (((cb.toUInt32 >>> ((8 : Int32) &&& 31).toUInt32).toInt32) &&& (255 : Int32))
          · obtain ⟨fs, hretL, hrun, hended, hW, hsame⟩ := X0.leave (v := some (.int (1 : Int32))) (fun h => by rw [Bd.returns] at h; cases h)
            refine ⟨_, _, pre13 _ ?_, hrun, hended, _, _, rfl, ?_, ⟨_, rfl⟩, hW, hsame.mono (by decide) (by decide)⟩
            · refine XS.icmpYes X0.here hx rfl (pc0 := 48) (pc' := 53) rfl (hb hby d_method_4_code_48) rfl (teq hc48_14).1 (by decide) (by decide) ?_
              show Steps p.tables e below (s₁.setTop (mkF m 53 #[.val (.int la), .val (.int ca), .val (.int lb), .val (.int cb)] [])) _
              refine XS.iconst X0.here hx rfl (hb hby d_method_4_code_53) ?_
              show Steps p.tables e below (s₁.setTop (mkF m 54 #[.val (.int la), .val (.int ca), .val (.int lb), .val (.int cb)] [(.int (1 : Int32))])) _
              exact retOut X0 hx Bd.returns rfl (Or.inl ⟨rfl, Or.inr (Or.inl rfl), _, rfl⟩) (hb hby d_method_4_code_54) hretL
            · show Q_rmsm Z la ca lb cb h0 n0 _ s₁.heap _
              rw [e0]
              exact ⟨by simp only [sm, if_pos hc2_2, if_neg hc9_4, if_pos hc22_10, if_neg hc29_12, if_pos hc48_14], N0, rfl⟩
          · obtain ⟨fs, hretL, hrun, hended, hW, hsame⟩ := X0.leave (v := some (.int (0 : Int32))) (fun h => by rw [Bd.returns] at h; cases h)
            refine ⟨_, _, pre13 _ ?_, hrun, hended, _, _, rfl, ?_, ⟨_, rfl⟩, hW, hsame.mono (by decide) (by decide)⟩
            · refine XS.icmpNo X0.here hx rfl (hb hby d_method_4_code_48) rfl (feq hc48_14).1 ?_
              show Steps p.tables e below (s₁.setTop (mkF m 51 #[.val (.int la), .val (.int ca), .val (.int lb), .val (.int cb)] [])) _
              refine XS.iconst X0.here hx rfl (hb hby d_method_4_code_51) ?_
              show Steps p.tables e below (s₁.setTop (mkF m 52 #[.val (.int la), .val (.int ca), .val (.int lb), .val (.int cb)] [(.int (0 : Int32))])) _
              exact retOut X0 hx Bd.returns rfl (Or.inl ⟨rfl, Or.inr (Or.inl rfl), _, rfl⟩) (hb hby d_method_4_code_52) hretL
            · show Q_rmsm Z la ca lb cb h0 n0 _ s₁.heap _
              rw [e0]
              exact ⟨by simp only [sm, if_pos hc2_2, if_neg hc9_4, if_pos hc22_10, if_neg hc29_12, if_neg hc48_14], N0, rfl⟩
      · obtain ⟨fs, hretL, hrun, hended, hW, hsame⟩ := X0.leave (v := some (.int (0 : Int32))) (fun h => by rw [Bd.returns] at h; cases h)
        refine ⟨_, _, pre9 _ ?_, hrun, hended, _, _, rfl, ?_, ⟨_, rfl⟩, hW, hsame.mono (by decide) (by decide)⟩
        · refine XS.icmpNo X0.here hx rfl (hb hby d_method_4_code_22) rfl (feq hc22_10).1 ?_
          show Steps p.tables e below (s₁.setTop (mkF m 25 #[.val (.int la), .val (.int ca), .val (.int lb), .val (.int cb)] [])) _
          refine XS.iconst X0.here hx rfl (hb hby d_method_4_code_25) ?_
          show Steps p.tables e below (s₁.setTop (mkF m 26 #[.val (.int la), .val (.int ca), .val (.int lb), .val (.int cb)] [(.int (0 : Int32))])) _
          exact retOut X0 hx Bd.returns rfl (Or.inl ⟨rfl, Or.inr (Or.inl rfl), _, rfl⟩) (hb hby d_method_4_code_26) hretL
        · show Q_rmsm Z la ca lb cb h0 n0 _ s₁.heap _
          rw [e0]
          exact ⟨by simp only [sm, if_pos hc2_2, if_neg hc9_4, if_neg hc22_10], N0, rfl⟩
  · obtain ⟨fs, hretL, hrun, hended, hW, hsame⟩ := X0.leave (v := some (.int (0 : Int32))) (fun h => by rw [Bd.returns] at h; cases h)
    refine ⟨_, _, pre1 _ ?_, hrun, hended, _, _, rfl, ?_, ⟨_, rfl⟩, hW, hsame.mono (by decide) (by decide)⟩
    · refine XS.icmpNo X0.here hx rfl (hb hby d_method_4_code_2) rfl (feq hc2_2).1 ?_
      show Steps p.tables e below (s₁.setTop (mkF m 5 #[.val (.int la), .val (.int ca), .val (.int lb), .val (.int cb)] [])) _
      refine XS.iconst X0.here hx rfl (hb hby d_method_4_code_5) ?_
      show Steps p.tables e below (s₁.setTop (mkF m 6 #[.val (.int la), .val (.int ca), .val (.int lb), .val (.int cb)] [(.int (0 : Int32))])) _
      exact retOut X0 hx Bd.returns rfl (Or.inl ⟨rfl, Or.inr (Or.inl rfl), _, rfl⟩) (hb hby d_method_4_code_6) hretL
    · show Q_rmsm Z la ca lb cb h0 n0 _ s₁.heap _
      rw [e0]
      exact ⟨by simp only [sm, if_neg hc2_2], N0, rfl⟩
theorem d_prog_28_method_1_code_0 : decode prog_28_method_1_code 0 = .ok (.aload_n 0, 1) := by decide +kernel
theorem d_prog_28_method_1_code_1 : decode prog_28_method_1_code 1 = .ok (.invokespecial 1, 3) := by decide +kernel
theorem d_prog_28_method_1_code_4 : decode prog_28_method_1_code 4 = .ok (.aload_n 0, 1) := by decide +kernel
theorem d_prog_28_method_1_code_5 : decode prog_28_method_1_code 5 = .ok (.aload_n 1, 1) := by decide +kernel
theorem d_prog_28_method_1_code_6 : decode prog_28_method_1_code 6 = .ok (.putfield 7, 3) := by decide +kernel
theorem d_prog_28_method_1_code_9 : decode prog_28_method_1_code 9 = .ok (.aload_n 0, 1) := by decide +kernel
theorem d_prog_28_method_1_code_10 : decode prog_28_method_1_code 10 = .ok (.aload_n 2, 1) := by decide +kernel
theorem d_prog_28_method_1_code_11 : decode prog_28_method_1_code 11 = .ok (.putfield 13, 3) := by decide +kernel
theorem d_prog_28_method_1_code_14 : decode prog_28_method_1_code 14 = .ok (.return_, 1) := by decide +kernel
def Q_rmini (Z : State) (a : Addr) (fa : Addr) (ta : Addr) (h0 : Heap) (n0 : Nat) (v : Option Value) (h : Heap) (L : List Loc) : Prop := v = none ∧ Fr n0 L ∧ Keep h0 h [a] ∧ Fld Z h a "com/example/verdictd/verdictd/RolePair" "from" "Ljava/lang/String;" (.ref fa) ∧ Fld Z h a "com/example/verdictd/verdictd/RolePair" "to" "Ljava/lang/String;" (.ref ta)
theorem ef_rmini (m : MethodId) (a : Addr) (fa : Addr) (ta : Addr) : entryFrame m #[(.ref a), (.ref fa), (.ref ta)] 3 = mkF m 0 #[.val (.ref a), .val (.ref fa), .val (.ref ta)] [] := by first | (simp [entryFrame, mkF, argsToLocals, Value.category]; done) | rfl
set_option maxRecDepth 65536 in
set_option maxHeartbeats 40000000 in
theorem rmini (l : Launch) (Z : State) (a0 : Array Value) (hw : ∀ d ∈ tables_1, d.before a0 Z = true) (ws : List Jvm.Cond) (a : Addr) (fa : Addr) (ta : Addr) (h0 : Heap) (n0 : Nat) (O0 : Old Z n0 h0) (Ea : Exa Z h0 a "com/example/verdictd/verdictd/RolePair") (F_from : Fld Z h0 a "com/example/verdictd/verdictd/RolePair" "from" "Ljava/lang/String;" .null) (F_to : Fld Z h0 a "com/example/verdictd/verdictd/RolePair" "to" "Ljava/lang/String;" .null) (ga : n0 ≤ a) :
    MetFree l (⟨"com/example/verdictd/verdictd/RolePair", "<init>", "(Ljava/lang/String;Ljava/lang/String;)V"⟩ : MethodName) (head1 (Jvm.Cond.code (⟨"com/example/verdictd/verdictd/RolePair", "<init>", "(Ljava/lang/String;Ljava/lang/String;)V"⟩ : MethodName) prog_28_method_1_code 3 none :: ws) ({ frames := 1, cells := 0, slots := 0, locals := 12 } : Room)) (fun aa U => aa = #[(.ref a), (.ref fa), (.ref ta)] ∧ Z.Warmed39 U.vm ∧ U.heap = h0) (fun _ _ _ _ _ => True) (fun _ U o U' => ∃ v L, o = .returned v ∧ Q_rmini Z a fa ta h0 n0 v U'.heap L ∧ FrameEnd U o U' L ({ frames := 1, cells := 0, slots := 0, locals := 12 } : Room).cells ({ frames := 1, cells := 0, slots := 0, locals := 12 } : Room).slots) := by
  refine MetFree.of_bodySF (plainFor_of_name pn2) hisR ?_
  intro p e s m args below meth c s₁ Bd hml0 hP hK
  obtain ⟨rfl, hZ, hh⟩ := hP
  have hx := Bd.exec
  have hby := Bd.bytes
  have hml : c.maxLocals = 3 := hml0
  have hown : s.vm.findClass "com/example/verdictd/verdictd/RolePair" = some m.cls := findClass_of_methodNamed Bd.named
  have hnm := (name_of_methodNamed Bd.named Bd.method).1
  have X0 : Stand p l e ({ frames := 1, cells := 0, slots := 0, locals := 12 } : Room) s m #[(.ref a), (.ref fa), (.ref ta)] below meth c s₁ [] 0 0 := Stand.of_body Bd
  have e0 : s₁.heap = h0 := by rw [← hh, Bd.state]; rfl
  have N0 := Fr.nil n0
  have K0 : Keep h0 h0 [a] := Keep.refl _ _
  have pre0 : ∀ tgt, Steps p.tables e below (s₁.setTop (mkF m 0 #[.val (.ref a), .val (.ref fa), .val (.ref ta)] [])) tgt → Steps p.tables e below (s₁.setTop (entryFrame m #[(.ref a), (.ref fa), (.ref ta)] 3)) tgt := fun tgt kgo => castTop (ef_rmini m a fa ta) kgo
  obtain ⟨T1, X1, e1, st1⟩ := initO X0 hx hZ hown (ow32 hw) (ow16 hw) (ow17 hw) e0 (g := (mkF m 1 #[.val (.ref a), .val (.ref fa), .val (.ref ta)] [(.ref a)])) rfl (by rw [hml]; rfl) rfl (hb hby d_prog_28_method_1_code_1) (by decide) (W := 0) (by show 2 * 0 + _ ≤ _; exact Nat.le_of_eq rfl) (by decide)
  obtain ⟨T2, h2, X2, e2, W2, st2⟩ := putF X1 hx hZ hown (host := "") (Or.inl (ow33 hw)) Via.refl e1 F_from Ea (Or.inr ⟨(ow34 hw), rfl, hnm⟩) (ow27 hw) (ty := (.object "java/lang/String")) (by decide) rfl rfl (g := (mkF m 6 #[.val (.ref a), .val (.ref fa), .val (.ref ta)] [(.ref fa), (.ref a)])) rfl rfl (hb hby d_prog_28_method_1_code_6)
  have Fw2 := F_from.same W2
  have N3 := Fr.snoc X2 N0 ga
  have O3 := O0.wr W2 ga
  have K3 := K0.wr W2 (Or.inl (List.mem_of_getElem? (i := 0) rfl))
  have f4 := (Ea.wr W2)
  have f5 := (F_to.other W2 (Or.inr (slot_ne (Or.inr (ow36 hw)) (Or.inr (ow34 hw)) (by decide) (t := (.object "java/lang/String")) (t' := (.object "java/lang/String")) (by decide) (by decide))))
  obtain ⟨T6, h6, X6, e6, W6, st6⟩ := putF X2 hx hZ hown (host := "") (Or.inl (ow35 hw)) Via.refl e2 f5 f4 (Or.inr ⟨(ow36 hw), rfl, hnm⟩) (ow27 hw) (ty := (.object "java/lang/String")) (by decide) rfl rfl (g := (mkF m 11 #[.val (.ref a), .val (.ref fa), .val (.ref ta)] [(.ref ta), (.ref a)])) rfl rfl (hb hby d_prog_28_method_1_code_11)
  have Fw6 := f5.same W6
  have N7 := Fr.snoc X6 N3 ga
  have O7 := O3.wr W6 ga
  have K7 := K3.wr W6 (Or.inl (List.mem_of_getElem? (i := 0) rfl))
  have f8 := (Fw2.other W6 (Or.inr (slot_ne (Or.inr (ow34 hw)) (Or.inr (ow36 hw)) (by decide) (t := (.object "java/lang/String")) (t' := (.object "java/lang/String")) (by decide) (by decide))))
  obtain ⟨fs, hretL, hrun, hended, hW, hsame⟩ := X6.leave (v := none) (fun _ => rfl)
  refine ⟨_, _, pre0 _ ?_, hrun, hended, _, _, rfl, ?_, ⟨_, rfl⟩, hW, hsame.mono (by decide) (by decide)⟩
  · refine XS.aloadN X0.here hx rfl (hb hby d_prog_28_method_1_code_0) rfl rfl ?_
    show Steps p.tables e below (s₁.setTop (mkF m 1 #[.val (.ref a), .val (.ref fa), .val (.ref ta)] [(.ref a)])) _
    refine st1 _ ?_
    show Steps p.tables e below (T1.setTop (mkF m 4 #[.val (.ref a), .val (.ref fa), .val (.ref ta)] [])) _
    refine XS.aloadN X1.here hx rfl (hb hby d_prog_28_method_1_code_4) rfl rfl ?_
    show Steps p.tables e below (T1.setTop (mkF m 5 #[.val (.ref a), .val (.ref fa), .val (.ref ta)] [(.ref a)])) _
    refine XS.aloadN X1.here hx rfl (hb hby d_prog_28_method_1_code_5) rfl rfl ?_
    show Steps p.tables e below (T1.setTop (mkF m 6 #[.val (.ref a), .val (.ref fa), .val (.ref ta)] [(.ref fa), (.ref a)])) _
    refine st2 _ ?_
    show Steps p.tables e below (T2.setTop (mkF m 9 #[.val (.ref a), .val (.ref fa), .val (.ref ta)] [])) _
    refine XS.aloadN X2.here hx rfl (hb hby d_prog_28_method_1_code_9) rfl rfl ?_
    show Steps p.tables e below (T2.setTop (mkF m 10 #[.val (.ref a), .val (.ref fa), .val (.ref ta)] [(.ref a)])) _
    refine XS.aloadN X2.here hx rfl (hb hby d_prog_28_method_1_code_10) rfl rfl ?_
    show Steps p.tables e below (T2.setTop (mkF m 11 #[.val (.ref a), .val (.ref fa), .val (.ref ta)] [(.ref ta), (.ref a)])) _
    refine st6 _ ?_
    show Steps p.tables e below (T6.setTop (mkF m 14 #[.val (.ref a), .val (.ref fa), .val (.ref ta)] [])) _
    exact X6.returnOut hx Bd.returns (hb hby d_prog_28_method_1_code_14) hretL
  · show Q_rmini Z a fa ta h0 n0 _ T6.heap _
    rw [e6]
    exact ⟨rfl, N7, K7, f8, Fw6⟩
theorem d_prog_28_method_4_code_0 : decode prog_28_method_4_code 0 = .ok (.aload_n 1, 1) := by decide +kernel
theorem d_prog_28_method_4_code_1 : decode prog_28_method_4_code 1 = .ok (.instanceof 8, 3) := by decide +kernel
theorem d_prog_28_method_4_code_4 : decode prog_28_method_4_code 4 = .ok (.ifCond .eq 40, 3) := by decide +kernel
theorem d_prog_28_method_4_code_44 : decode prog_28_method_4_code 44 = .ok (.iconst 0, 1) := by decide +kernel
theorem d_prog_28_method_4_code_45 : decode prog_28_method_4_code 45 = .ok (.ireturn, 1) := by decide +kernel
def Q_rmeqn (Z : State) (a : Addr) (h0 : Heap) (n0 : Nat) (v : Option Value) (h : Heap) (L : List Loc) : Prop := v = some (.int (0 : Int32)) ∧ Fr n0 L ∧ h = h0
theorem ef_rmeqn (m : MethodId) (a : Addr) : entryFrame m #[(.ref a), .null] 3 = mkF m 0 #[.val (.ref a), .val .null, .unset] [] := by first | (simp [entryFrame, mkF, argsToLocals, Value.category]; done) | rfl
set_option maxRecDepth 65536 in
set_option maxHeartbeats 40000000 in
theorem rmeqn (l : Launch) (Z : State) (a0 : Array Value) (hw : ∀ d ∈ tables_1, d.before a0 Z = true) (ws : List Jvm.Cond) (a : Addr) (h0 : Heap) (n0 : Nat) (O0 : Old Z n0 h0) :
    MetFree l (⟨"com/example/verdictd/verdictd/RolePair", "equals", "(Ljava/lang/Object;)Z"⟩ : MethodName) (head1 (Jvm.Cond.code (⟨"com/example/verdictd/verdictd/RolePair", "equals", "(Ljava/lang/Object;)Z"⟩ : MethodName) prog_28_method_4_code 3 (some .boolean) :: ws) ({ frames := 0, cells := 0, slots := 0, locals := 0 } : Room)) (fun aa U => aa = #[(.ref a), .null] ∧ Z.Warmed39 U.vm ∧ U.heap = h0) (fun _ _ _ _ _ => True) (fun _ U o U' => ∃ v L, o = .returned v ∧ Q_rmeqn Z a h0 n0 v U'.heap L ∧ FrameEnd U o U' L ({ frames := 0, cells := 0, slots := 0, locals := 0 } : Room).cells ({ frames := 0, cells := 0, slots := 0, locals := 0 } : Room).slots) := by
  refine MetFree.of_bodySF (plainFor_of_name pn2) hisR ?_
  intro p e s m args below meth c s₁ Bd hml0 hP hK
  obtain ⟨rfl, hZ, hh⟩ := hP
  have hx := Bd.exec
  have hby := Bd.bytes
  have hml : c.maxLocals = 3 := hml0
  have hown : s.vm.findClass "com/example/verdictd/verdictd/RolePair" = some m.cls := findClass_of_methodNamed Bd.named
  have hnm := (name_of_methodNamed Bd.named Bd.method).1
  have X0 : Stand p l e ({ frames := 0, cells := 0, slots := 0, locals := 0 } : Room) s m #[(.ref a), .null] below meth c s₁ [] 0 0 := Stand.of_body Bd
  have e0 : s₁.heap = h0 := by rw [← hh, Bd.state]; rfl
  have N0 := Fr.nil n0
  have K0 : Keep h0 h0 [] := Keep.refl _ _
  have pre0 : ∀ tgt, Steps p.tables e below (s₁.setTop (mkF m 0 #[.val (.ref a), .val .null, .unset] [])) tgt → Steps p.tables e below (s₁.setTop (entryFrame m #[(.ref a), .null] 3)) tgt := fun tgt kgo => castTop (ef_rmeqn m a) kgo
  obtain ⟨fs, hretL, hrun, hended, hW, hsame⟩ := X0.leave (v := some (.int (0 : Int32))) (fun h => by rw [Bd.returns] at h; cases h)
  refine ⟨_, _, pre0 _ ?_, hrun, hended, _, _, rfl, ?_, ⟨_, rfl⟩, hW, hsame.mono (by decide) (by decide)⟩
  · refine XS.aloadN X0.here hx rfl (hb hby d_prog_28_method_4_code_0) rfl rfl ?_
    show Steps p.tables e below (s₁.setTop (mkF m 1 #[.val (.ref a), .val .null, .unset] [.null])) _
    refine X0.instanceofNull hx (g := (mkF m 1 #[.val (.ref a), .val .null, .unset] [.null])) rfl rfl (hb hby d_prog_28_method_4_code_1) _ ?_
    show Steps p.tables e below (s₁.setTop (mkF m 4 #[.val (.ref a), .val .null, .unset] [(.int (0 : Int32))])) _
    refine XS.ifYes X0.here hx rfl (pc0 := 4) (pc' := 44) rfl (hb hby d_prog_28_method_4_code_4) rfl ((if0 _ _).trans (teq (by decide : (0 : Int32) = (0 : Int32))).1) (by decide) (by decide) ?_
    show Steps p.tables e below (s₁.setTop (mkF m 44 #[.val (.ref a), .val .null, .unset] [])) _
    refine XS.iconst X0.here hx rfl (hb hby d_prog_28_method_4_code_44) ?_
    show Steps p.tables e below (s₁.setTop (mkF m 45 #[.val (.ref a), .val .null, .unset] [(.int (0 : Int32))])) _
    exact retOut X0 hx Bd.returns rfl (Or.inl ⟨rfl, Or.inr (Or.inl rfl), _, rfl⟩) (hb hby d_prog_28_method_4_code_45) hretL
  · show Q_rmeqn Z a h0 n0 _ s₁.heap _
    rw [e0]
    exact ⟨rfl, N0, rfl⟩
theorem own_ns {a0 : Array Value} {Z : State} (hw : ∀ d ∈ tables_1, d.before a0 Z = true) : ∃ c t, Z.vm.findClass "java/lang/String" = some c ∧ Z.vm.findClass "com/example/verdictd/verdictd/RolePair" = some t ∧ Z.vm.assignable c t = false := own_nsno (ow68 hw) (ow27 hw) (NS.step (ow68 hw) (own_nsr (ow69 hw) (ow27 hw) (by decide)) (by decide)) (by decide)
def Q_rmeqs (Z : State) (a : Addr) (ob : Addr) (h0 : Heap) (n0 : Nat) (v : Option Value) (h : Heap) (L : List Loc) : Prop := v = some (.int (0 : Int32)) ∧ Fr n0 L ∧ h = h0
theorem ef_rmeqs (m : MethodId) (a : Addr) (ob : Addr) : entryFrame m #[(.ref a), (.ref ob)] 3 = mkF m 0 #[.val (.ref a), .val (.ref ob), .unset] [] := by first | (simp [entryFrame, mkF, argsToLocals, Value.category]; done) | rfl
set_option maxRecDepth 65536 in
set_option maxHeartbeats 40000000 in
theorem rmeqs (l : Launch) (Z : State) (a0 : Array Value) (hw : ∀ d ∈ tables_1, d.before a0 Z = true) (ws : List Jvm.Cond) (a : Addr) (ob : Addr) (h0 : Heap) (n0 : Nat) (O0 : Old Z n0 h0) (Eo : Exa Z h0 ob "java/lang/String") :
    MetFree l (⟨"com/example/verdictd/verdictd/RolePair", "equals", "(Ljava/lang/Object;)Z"⟩ : MethodName) (head1 (Jvm.Cond.code (⟨"com/example/verdictd/verdictd/RolePair", "equals", "(Ljava/lang/Object;)Z"⟩ : MethodName) prog_28_method_4_code 3 (some .boolean) :: ws) ({ frames := 0, cells := 0, slots := 0, locals := 0 } : Room)) (fun aa U => aa = #[(.ref a), (.ref ob)] ∧ Z.Warmed39 U.vm ∧ U.heap = h0) (fun _ _ _ _ _ => True) (fun _ U o U' => ∃ v L, o = .returned v ∧ Q_rmeqs Z a ob h0 n0 v U'.heap L ∧ FrameEnd U o U' L ({ frames := 0, cells := 0, slots := 0, locals := 0 } : Room).cells ({ frames := 0, cells := 0, slots := 0, locals := 0 } : Room).slots) := by
  refine MetFree.of_bodySF (plainFor_of_name pn2) hisR ?_
  intro p e s m args below meth c s₁ Bd hml0 hP hK
  obtain ⟨rfl, hZ, hh⟩ := hP
  have hx := Bd.exec
  have hby := Bd.bytes
  have hml : c.maxLocals = 3 := hml0
  have hown : s.vm.findClass "com/example/verdictd/verdictd/RolePair" = some m.cls := findClass_of_methodNamed Bd.named
  have hnm := (name_of_methodNamed Bd.named Bd.method).1
  have X0 : Stand p l e ({ frames := 0, cells := 0, slots := 0, locals := 0 } : Room) s m #[(.ref a), (.ref ob)] below meth c s₁ [] 0 0 := Stand.of_body Bd
  have e0 : s₁.heap = h0 := by rw [← hh, Bd.state]; rfl
  have N0 := Fr.nil n0
  have K0 : Keep h0 h0 [] := Keep.refl _ _
  have pre0 : ∀ tgt, Steps p.tables e below (s₁.setTop (mkF m 0 #[.val (.ref a), .val (.ref ob), .unset] [])) tgt → Steps p.tables e below (s₁.setTop (entryFrame m #[(.ref a), (.ref ob)] 3)) tgt := fun tgt kgo => castTop (ef_rmeqs m a ob) kgo
  obtain ⟨T1, X1, e1, st1⟩ := instNo X0 hx hZ hown (ow45 hw) e0 Eo (own_ns hw) (g := (mkF m 1 #[.val (.ref a), .val (.ref ob), .unset] [(.ref ob)])) rfl rfl (hb hby d_prog_28_method_4_code_1)
  obtain ⟨fs, hretL, hrun, hended, hW, hsame⟩ := X1.leave (v := some (.int (0 : Int32))) (fun h => by rw [Bd.returns] at h; cases h)
  refine ⟨_, _, pre0 _ ?_, hrun, hended, _, _, rfl, ?_, ⟨_, rfl⟩, hW, hsame.mono (by decide) (by decide)⟩
  · refine XS.aloadN X0.here hx rfl (hb hby d_prog_28_method_4_code_0) rfl rfl ?_
    show Steps p.tables e below (s₁.setTop (mkF m 1 #[.val (.ref a), .val (.ref ob), .unset] [(.ref ob)])) _
    refine st1 _ ?_
    show Steps p.tables e below (T1.setTop (mkF m 4 #[.val (.ref a), .val (.ref ob), .unset] [(.int (0 : Int32))])) _
    refine XS.ifYes X1.here hx rfl (pc0 := 4) (pc' := 44) rfl (hb hby d_prog_28_method_4_code_4) rfl ((if0 _ _).trans (teq (by decide : (0 : Int32) = (0 : Int32))).1) (by decide) (by decide) ?_
    show Steps p.tables e below (T1.setTop (mkF m 44 #[.val (.ref a), .val (.ref ob), .unset] [])) _
    refine XS.iconst X1.here hx rfl (hb hby d_prog_28_method_4_code_44) ?_
    show Steps p.tables e below (T1.setTop (mkF m 45 #[.val (.ref a), .val (.ref ob), .unset] [(.int (0 : Int32))])) _
    exact retOut X1 hx Bd.returns rfl (Or.inl ⟨rfl, Or.inr (Or.inl rfl), _, rfl⟩) (hb hby d_prog_28_method_4_code_45) hretL
  · show Q_rmeqs Z a ob h0 n0 _ T1.heap _
    rw [e1]
    exact ⟨rfl, N0, rfl⟩
def eqv (cf ct df dt : List Int32) : Int32 := if (if cf = df then (1 : Int32) else (0 : Int32)) = (0 : Int32) then 0 else if (if ct = dt then (1 : Int32) else (0 : Int32)) = (0 : Int32) then 0 else 1
theorem d_prog_28_method_4_code_7 : decode prog_28_method_4_code 7 = .ok (.aload_n 1, 1) := by decide +kernel
theorem d_prog_28_method_4_code_8 : decode prog_28_method_4_code 8 = .ok (.checkcast 8, 3) := by decide +kernel
theorem d_prog_28_method_4_code_11 : decode prog_28_method_4_code 11 = .ok (.astore_n 2, 1) := by decide +kernel
theorem d_prog_28_method_4_code_12 : decode prog_28_method_4_code 12 = .ok (.aload_n 0, 1) := by decide +kernel
theorem d_prog_28_method_4_code_13 : decode prog_28_method_4_code 13 = .ok (.getfield 7, 3) := by decide +kernel
theorem d_prog_28_method_4_code_16 : decode prog_28_method_4_code 16 = .ok (.aload_n 2, 1) := by decide +kernel
theorem d_prog_28_method_4_code_17 : decode prog_28_method_4_code 17 = .ok (.getfield 7, 3) := by decide +kernel
theorem d_prog_28_method_4_code_20 : decode prog_28_method_4_code 20 = .ok (.invokevirtual 16, 3) := by decide +kernel
theorem d_prog_28_method_4_code_23 : decode prog_28_method_4_code 23 = .ok (.ifCond .eq 21, 3) := by decide +kernel
theorem d_prog_28_method_4_code_26 : decode prog_28_method_4_code 26 = .ok (.aload_n 0, 1) := by decide +kernel
theorem d_prog_28_method_4_code_27 : decode prog_28_method_4_code 27 = .ok (.getfield 13, 3) := by decide +kernel
theorem d_prog_28_method_4_code_30 : decode prog_28_method_4_code 30 = .ok (.aload_n 2, 1) := by decide +kernel
theorem d_prog_28_method_4_code_31 : decode prog_28_method_4_code 31 = .ok (.getfield 13, 3) := by decide +kernel
theorem d_prog_28_method_4_code_34 : decode prog_28_method_4_code 34 = .ok (.invokevirtual 16, 3) := by decide +kernel
theorem d_prog_28_method_4_code_37 : decode prog_28_method_4_code 37 = .ok (.ifCond .eq 7, 3) := by decide +kernel
theorem d_prog_28_method_4_code_40 : decode prog_28_method_4_code 40 = .ok (.iconst 1, 1) := by decide +kernel
theorem d_prog_28_method_4_code_41 : decode prog_28_method_4_code 41 = .ok (.goto 4, 3) := by decide +kernel
def Q_rmeqr (Z : State) (a : Addr) (ob : Addr) (fa : Addr) (ta : Addr) (fb : Addr) (tb : Addr) (cf : List Int32) (ct : List Int32) (df : List Int32) (dt : List Int32) (G1 : Int32) (h0 : Heap) (n0 : Nat) (v : Option Value) (h : Heap) (L : List Loc) : Prop := v = some (.int (eqv cf ct df dt)) ∧ Fr n0 L ∧ h = h0
theorem ef_rmeqr (m : MethodId) (a : Addr) (ob : Addr) : entryFrame m #[(.ref a), (.ref ob)] 3 = mkF m 0 #[.val (.ref a), .val (.ref ob), .unset] [] := by first | (simp [entryFrame, mkF, argsToLocals, Value.category]; done) | rfl
set_option maxRecDepth 65536 in
set_option maxHeartbeats 40000000 in
theorem rmeqr (l : Launch) (Z : State) (a0 : Array Value) (hw : ∀ d ∈ tables_1, d.before a0 Z = true) (ws : List Jvm.Cond) (a : Addr) (ob : Addr) (fa : Addr) (ta : Addr) (fb : Addr) (tb : Addr) (cf : List Int32) (ct : List Int32) (df : List Int32) (dt : List Int32) (G1 : Int32) (h0 : Heap) (n0 : Nat) (O0 : Old Z n0 h0) (O2 : Sta Z Z.heap "java/lang/String" "COMPACT_STRINGS" "Z" (.int G1)) (P5 : ¬ (G1 = (0 : Int32))) (Eo : Exa Z h0 ob "com/example/verdictd/verdictd/RolePair") (F1 : Fld Z h0 a "com/example/verdictd/verdictd/RolePair" "from" "Ljava/lang/String;" (.ref fa)) (F2 : Fld Z h0 a "com/example/verdictd/verdictd/RolePair" "to" "Ljava/lang/String;" (.ref ta)) (F3 : Fld Z h0 ob "com/example/verdictd/verdictd/RolePair" "from" "Ljava/lang/String;" (.ref fb)) (F4 : Fld Z h0 ob "com/example/verdictd/verdictd/RolePair" "to" "Ljava/lang/String;" (.ref tb)) (Sf : StrP Z h0 fa cf) (St : StrP Z h0 ta ct) (Sg : StrP Z h0 fb df) (Su : StrP Z h0 tb dt) :
    MetFree l (⟨"com/example/verdictd/verdictd/RolePair", "equals", "(Ljava/lang/Object;)Z"⟩ : MethodName) (head1 (Jvm.Cond.code (⟨"com/example/verdictd/verdictd/RolePair", "equals", "(Ljava/lang/Object;)Z"⟩ : MethodName) prog_28_method_4_code 3 (some .boolean) :: ws) ({ frames := 2, cells := 0, slots := 0, locals := 28 } : Room)) (fun aa U => aa = #[(.ref a), (.ref ob)] ∧ Z.Warmed39 U.vm ∧ U.heap = h0) (fun _ _ _ _ _ => True) (fun _ U o U' => ∃ v L, o = .returned v ∧ Q_rmeqr Z a ob fa ta fb tb cf ct df dt G1 h0 n0 v U'.heap L ∧ FrameEnd U o U' L ({ frames := 2, cells := 0, slots := 0, locals := 28 } : Room).cells ({ frames := 2, cells := 0, slots := 0, locals := 28 } : Room).slots) := by
  refine MetFree.of_bodySF (plainFor_of_name pn2) hisR ?_
  intro p e s m args below meth c s₁ Bd hml0 hP hK
  obtain ⟨rfl, hZ, hh⟩ := hP
  have hx := Bd.exec
  have hby := Bd.bytes
  have hml : c.maxLocals = 3 := hml0
  have hown : s.vm.findClass "com/example/verdictd/verdictd/RolePair" = some m.cls := findClass_of_methodNamed Bd.named
  have hnm := (name_of_methodNamed Bd.named Bd.method).1
  have X0 : Stand p l e ({ frames := 2, cells := 0, slots := 0, locals := 28 } : Room) s m #[(.ref a), (.ref ob)] below meth c s₁ [] 0 0 := Stand.of_body Bd
  have e0 : s₁.heap = h0 := by rw [← hh, Bd.state]; rfl
  have N0 := Fr.nil n0
  have K0 : Keep h0 h0 [] := Keep.refl _ _
  have pre0 : ∀ tgt, Steps p.tables e below (s₁.setTop (mkF m 0 #[.val (.ref a), .val (.ref ob), .unset] [])) tgt → Steps p.tables e below (s₁.setTop (entryFrame m #[(.ref a), (.ref ob)] 3)) tgt := fun tgt kgo => castTop (ef_rmeqr m a ob) kgo
  obtain ⟨T1, X1, e1, st1⟩ := instY X0 hx hZ hown (ow45 hw) e0 (Ins.self Eo) (g := (mkF m 1 #[.val (.ref a), .val (.ref ob), .unset] [(.ref ob)])) rfl rfl (hb hby d_prog_28_method_4_code_1)
  obtain ⟨T2, X2, e2, st2⟩ := castY X1 hx hZ hown (ow45 hw) e1 (Ins.self Eo) (g := (mkF m 8 #[.val (.ref a), .val (.ref ob), .unset] [(.ref ob)])) rfl rfl (hb hby d_prog_28_method_4_code_8)
  obtain ⟨T3, X3, e3, st3⟩ := getF X2 hx hZ hown (host := "") (Or.inl (ow33 hw)) Via.refl e2 F1 (g := (mkF m 13 #[.val (.ref a), .val (.ref ob), .val (.ref ob)] [(.ref a)])) rfl rfl (hb hby d_prog_28_method_4_code_13)
  obtain ⟨T4, X4, e4, st4⟩ := getF X3 hx hZ hown (host := "") (Or.inl (ow33 hw)) Via.refl e3 F3 (g := (mkF m 17 #[.val (.ref a), .val (.ref ob), .val (.ref ob)] [(.ref ob), (.ref fa)])) rfl rfl (hb hby d_prog_28_method_4_code_17)
  obtain ⟨sE5, sC5, sp5, sl5, st5_, sk5, sV5, sA5⟩ := id Sf
  obtain ⟨sE6, sC6, sp6, sl6, st6_, sk6, sV6, sA6⟩ := id Sg
  obtain ⟨cq7, kq7, q7a, q7b, q7c⟩ := isOf hZ e4 Sf.1
  obtain ⟨_, _, ⟨T7, L7, k7, n7⟩, -, X7, ⟨Lc7, hQ7, l7, y7, z7⟩, st7⟩ := X4.virtualBack hx (y := (⟨"java/lang/String", "equals", "(Ljava/lang/Object;)Z"⟩ : MethodName)) (z := (⟨"java/lang/String", "equals", "(Ljava/lang/Object;)Z"⟩ : MethodName)) hown (mvT hZ (ow47 hw)) (mvT hZ (ow48 hw)) (notFace_of_selects (args := #[]) (mvT hZ (ow50 hw))) (mvT hZ (ow50 hw)) (mvT hZ (ow49 hw)) (by decide) (StrChars.Road.eqW (W := 0) hZ (own_weq hw) (kI := 4) (ow5 hw) sE5 sV5 sC5 sA5 (StrChars.Road.codOf rfl (fun c hc => (sp5 c hc).2)) (own_up _ sp5) sl5 sE6 sV6 sC6 sA6 (StrChars.Road.codOf rfl (fun c hc => (sp6 c hc).2)) (own_up _ sp6) sl6 (O2.ext O0.2) P5 (by decide) (by decide)) q7a q7c (g := (mkF m 20 #[.val (.ref a), .val (.ref ob), .val (.ref ob)] [(.ref fb), (.ref fa)])) rfl (by rw [hml]; rfl) (Steps.refl _) (argsL := [(.ref fb)]) (rest := []) (lenOf pd2 rfl) rfl (by show 2 * 0 + _ ≤ _; exact Nat.le_of_eq rfl) (hb hby d_prog_28_method_4_code_20) (fun _ _ => ⟨rfl, e4, (by decide : 0 + 0 ≤ _), (by decide : 0 + 0 ≤ _)⟩)
  dsimp only [Pt.U, Pt.locs, Pt.cells, Pt.slots] at X7 l7 y7 z7 st7 hQ7
  subst l7 y7 z7
  obtain ⟨hor7, hL7, eq7⟩ := hQ7
  obtain rfl := own_eqv hor7
  have Nq7 := own_frn hL7 n0
  have N8 := Fr.app N0 Nq7
  have pre9 : ∀ tgt, Steps p.tables e below (T7.setTop (mkF m 23 #[.val (.ref a), .val (.ref ob), .val (.ref ob)] [(.int (if cf = df then (1 : Int32) else (0 : Int32)))])) tgt → Steps p.tables e below (s₁.setTop (entryFrame m #[(.ref a), (.ref ob)] 3)) tgt := by
    intro tgt kgo
    refine pre0 _ ?_
    refine XS.aloadN X0.here hx rfl (hb hby d_prog_28_method_4_code_0) rfl rfl ?_
    show Steps p.tables e below (s₁.setTop (mkF m 1 #[.val (.ref a), .val (.ref ob), .unset] [(.ref ob)])) _
    refine st1 _ ?_
    show Steps p.tables e below (T1.setTop (mkF m 4 #[.val (.ref a), .val (.ref ob), .unset] [(.int (1 : Int32))])) _
    refine XS.ifNo X1.here hx rfl (hb hby d_prog_28_method_4_code_4) rfl ((if0 _ _).trans (feq (by decide : ¬ ((1 : Int32) = (0 : Int32)))).1) ?_
    show Steps p.tables e below (T1.setTop (mkF m 7 #[.val (.ref a), .val (.ref ob), .unset] [])) _
    refine XS.aloadN X1.here hx rfl (hb hby d_prog_28_method_4_code_7) rfl rfl ?_
    show Steps p.tables e below (T1.setTop (mkF m 8 #[.val (.ref a), .val (.ref ob), .unset] [(.ref ob)])) _
    refine st2 _ ?_
    show Steps p.tables e below (T2.setTop (mkF m 11 #[.val (.ref a), .val (.ref ob), .unset] [(.ref ob)])) _
    refine XS.astoreN X2.here hx rfl (hb hby d_prog_28_method_4_code_11) rfl rfl (l' := #[.val (.ref a), .val (.ref ob), .val (.ref ob)]) rfl ?_
    show Steps p.tables e below (T2.setTop (mkF m 12 #[.val (.ref a), .val (.ref ob), .val (.ref ob)] [])) _
    refine XS.aloadN X2.here hx rfl (hb hby d_prog_28_method_4_code_12) rfl rfl ?_
    show Steps p.tables e below (T2.setTop (mkF m 13 #[.val (.ref a), .val (.ref ob), .val (.ref ob)] [(.ref a)])) _
    refine st3 _ ?_
    show Steps p.tables e below (T3.setTop (mkF m 16 #[.val (.ref a), .val (.ref ob), .val (.ref ob)] [(.ref fa)])) _
    refine XS.aloadN X3.here hx rfl (hb hby d_prog_28_method_4_code_16) rfl rfl ?_
    show Steps p.tables e below (T3.setTop (mkF m 17 #[.val (.ref a), .val (.ref ob), .val (.ref ob)] [(.ref ob), (.ref fa)])) _
    refine st4 _ ?_
    show Steps p.tables e below (T4.setTop (mkF m 20 #[.val (.ref a), .val (.ref ob), .val (.ref ob)] [(.ref fb), (.ref fa)])) _
    refine st7.trans ?_
    show Steps p.tables e below (T7.setTop (mkF m 23 #[.val (.ref a), .val (.ref ob), .val (.ref ob)] [(.int (if cf = df then (1 : Int32) else (0 : Int32)))])) _
    exact kgo
  by_cases hc23_10 : (if cf = df then (1 : Int32) else (0 : Int32)) = (0 : Int32)
  · obtain ⟨fs, hretL, hrun, hended, hW, hsame⟩ := X7.leave (v := some (.int (0 : Int32))) (fun h => by rw [Bd.returns] at h; cases h)
    refine ⟨_, _, pre9 _ ?_, hrun, hended, _, _, rfl, ?_, ⟨_, rfl⟩, hW, hsame.mono (by decide) (by decide)⟩
    · refine XS.ifYes X7.here hx rfl (pc0 := 23) (pc' := 44) rfl (hb hby d_prog_28_method_4_code_23) rfl ((if0 _ _).trans (teq hc23_10).1) (by decide) (by decide) ?_
      show Steps p.tables e below (T7.setTop (mkF m 44 #[.val (.ref a), .val (.ref ob), .val (.ref ob)] [])) _
      refine XS.iconst X7.here hx rfl (hb hby d_prog_28_method_4_code_44) ?_
      show Steps p.tables e below (T7.setTop (mkF m 45 #[.val (.ref a), .val (.ref ob), .val (.ref ob)] [(.int (0 : Int32))])) _
      exact retOut X7 hx Bd.returns rfl (Or.inl ⟨rfl, Or.inr (Or.inl rfl), _, rfl⟩) (hb hby d_prog_28_method_4_code_45) hretL
    · show Q_rmeqr Z a ob fa ta fb tb cf ct df dt G1 h0 n0 _ T7.heap _
      rw [eq7]
      exact ⟨by simp only [eqv, if_pos hc23_10], N8, rfl⟩
  · obtain ⟨T11, X11, e11, st11⟩ := getF X7 hx hZ hown (host := "") (Or.inl (ow35 hw)) Via.refl eq7 F2 (g := (mkF m 27 #[.val (.ref a), .val (.ref ob), .val (.ref ob)] [(.ref a)])) rfl rfl (hb hby d_prog_28_method_4_code_27)
    obtain ⟨T12, X12, e12, st12⟩ := getF X11 hx hZ hown (host := "") (Or.inl (ow35 hw)) Via.refl e11 F4 (g := (mkF m 31 #[.val (.ref a), .val (.ref ob), .val (.ref ob)] [(.ref ob), (.ref ta)])) rfl rfl (hb hby d_prog_28_method_4_code_31)
    obtain ⟨sE13, sC13, sp13, sl13, st13_, sk13, sV13, sA13⟩ := id St
    obtain ⟨sE14, sC14, sp14, sl14, st14_, sk14, sV14, sA14⟩ := id Su
    obtain ⟨cq15, kq15, q15a, q15b, q15c⟩ := isOf hZ e12 St.1
    obtain ⟨_, _, ⟨T15, L15, k15, n15⟩, -, X15, ⟨Lc15, hQ15, l15, y15, z15⟩, st15⟩ := X12.virtualBack hx (y := (⟨"java/lang/String", "equals", "(Ljava/lang/Object;)Z"⟩ : MethodName)) (z := (⟨"java/lang/String", "equals", "(Ljava/lang/Object;)Z"⟩ : MethodName)) hown (mvT hZ (ow47 hw)) (mvT hZ (ow48 hw)) (notFace_of_selects (args := #[]) (mvT hZ (ow50 hw))) (mvT hZ (ow50 hw)) (mvT hZ (ow49 hw)) (by decide) (StrChars.Road.eqW (W := 0) hZ (own_weq hw) (kI := 4) (ow5 hw) sE13 sV13 sC13 sA13 (StrChars.Road.codOf rfl (fun c hc => (sp13 c hc).2)) (own_up _ sp13) sl13 sE14 sV14 sC14 sA14 (StrChars.Road.codOf rfl (fun c hc => (sp14 c hc).2)) (own_up _ sp14) sl14 (O2.ext O0.2) P5 (by decide) (by decide)) q15a q15c (g := (mkF m 34 #[.val (.ref a), .val (.ref ob), .val (.ref ob)] [(.ref tb), (.ref ta)])) rfl (by rw [hml]; rfl) (Steps.refl _) (argsL := [(.ref tb)]) (rest := []) (lenOf pd2 rfl) rfl (by show 2 * 0 + _ ≤ _; exact Nat.le_of_eq rfl) (hb hby d_prog_28_method_4_code_34) (fun _ _ => ⟨rfl, e12, (by decide : 0 + 0 ≤ _), (by decide : 0 + 0 ≤ _)⟩)
    dsimp only [Pt.U, Pt.locs, Pt.cells, Pt.slots] at X15 l15 y15 z15 st15 hQ15
    subst l15 y15 z15
    obtain ⟨hor15, hL15, eq15⟩ := hQ15
    obtain rfl := own_eqv hor15
    have Nq15 := own_frn hL15 n0
    have N16 := Fr.app N8 Nq15
    have pre17 : ∀ tgt, Steps p.tables e below (T15.setTop (mkF m 37 #[.val (.ref a), .val (.ref ob), .val (.ref ob)] [(.int (if ct = dt then (1 : Int32) else (0 : Int32)))])) tgt → Steps p.tables e below (s₁.setTop (entryFrame m #[(.ref a), (.ref ob)] 3)) tgt := by
      intro tgt kgo
      refine pre9 _ ?_
      refine XS.ifNo X7.here hx rfl (hb hby d_prog_28_method_4_code_23) rfl ((if0 _ _).trans (feq hc23_10).1) ?_
      show Steps p.tables e below (T7.setTop (mkF m 26 #[.val (.ref a), .val (.ref ob), .val (.ref ob)] [])) _
      refine XS.aloadN X7.here hx rfl (hb hby d_prog_28_method_4_code_26) rfl rfl ?_
      show Steps p.tables e below (T7.setTop (mkF m 27 #[.val (.ref a), .val (.ref ob), .val (.ref ob)] [(.ref a)])) _
      refine st11 _ ?_
      show Steps p.tables e below (T11.setTop (mkF m 30 #[.val (.ref a), .val (.ref ob), .val (.ref ob)] [(.ref ta)])) _
      refine XS.aloadN X11.here hx rfl (hb hby d_prog_28_method_4_code_30) rfl rfl ?_
      show Steps p.tables e below (T11.setTop (mkF m 31 #[.val (.ref a), .val (.ref ob), .val (.ref ob)] [(.ref ob), (.ref ta)])) _
      refine st12 _ ?_
      show Steps p.tables e below (T12.setTop (mkF m 34 #[.val (.ref a), .val (.ref ob), .val (.ref ob)] [(.ref tb), (.ref ta)])) _
      refine st15.trans ?_
      show Steps p.tables e below (T15.setTop (mkF m 37 #[.val (.ref a), .val (.ref ob), .val (.ref ob)] [(.int (if ct = dt then (1 : Int32) else (0 : Int32)))])) _
      exact kgo
    by_cases hc37_18 : (if ct = dt then (1 : Int32) else (0 : Int32)) = (0 : Int32)
    · obtain ⟨fs, hretL, hrun, hended, hW, hsame⟩ := X15.leave (v := some (.int (0 : Int32))) (fun h => by rw [Bd.returns] at h; cases h)
      refine ⟨_, _, pre17 _ ?_, hrun, hended, _, _, rfl, ?_, ⟨_, rfl⟩, hW, hsame.mono (by decide) (by decide)⟩
      · refine XS.ifYes X15.here hx rfl (pc0 := 37) (pc' := 44) rfl (hb hby d_prog_28_method_4_code_37) rfl ((if0 _ _).trans (teq hc37_18).1) (by decide) (by decide) ?_
        show Steps p.tables e below (T15.setTop (mkF m 44 #[.val (.ref a), .val (.ref ob), .val (.ref ob)] [])) _
        refine XS.iconst X15.here hx rfl (hb hby d_prog_28_method_4_code_44) ?_
        show Steps p.tables e below (T15.setTop (mkF m 45 #[.val (.ref a), .val (.ref ob), .val (.ref ob)] [(.int (0 : Int32))])) _
        exact retOut X15 hx Bd.returns rfl (Or.inl ⟨rfl, Or.inr (Or.inl rfl), _, rfl⟩) (hb hby d_prog_28_method_4_code_45) hretL
      · show Q_rmeqr Z a ob fa ta fb tb cf ct df dt G1 h0 n0 _ T15.heap _
        rw [eq15]
        exact ⟨by simp only [eqv, if_neg hc23_10, if_pos hc37_18], N16, rfl⟩
    · obtain ⟨fs, hretL, hrun, hended, hW, hsame⟩ := X15.leave (v := some (.int (1 : Int32))) (fun h => by rw [Bd.returns] at h; cases h)
      refine ⟨_, _, pre17 _ ?_, hrun, hended, _, _, rfl, ?_, ⟨_, rfl⟩, hW, hsame.mono (by decide) (by decide)⟩
      · refine XS.ifNo X15.here hx rfl (hb hby d_prog_28_method_4_code_37) rfl ((if0 _ _).trans (feq hc37_18).1) ?_
        show Steps p.tables e below (T15.setTop (mkF m 40 #[.val (.ref a), .val (.ref ob), .val (.ref ob)] [])) _
        refine XS.iconst X15.here hx rfl (hb hby d_prog_28_method_4_code_40) ?_
        show Steps p.tables e below (T15.setTop (mkF m 41 #[.val (.ref a), .val (.ref ob), .val (.ref ob)] [(.int (1 : Int32))])) _
        refine XS.goto X15.here hx rfl (pc0 := 41) (pc' := 45) rfl (hb hby d_prog_28_method_4_code_41) (by decide) (by decide) ?_
        show Steps p.tables e below (T15.setTop (mkF m 45 #[.val (.ref a), .val (.ref ob), .val (.ref ob)] [(.int (1 : Int32))])) _
        exact retOut X15 hx Bd.returns rfl (Or.inl ⟨rfl, Or.inr (Or.inl rfl), _, rfl⟩) (hb hby d_prog_28_method_4_code_45) hretL
      · show Q_rmeqr Z a ob fa ta fb tb cf ct df dt G1 h0 n0 _ T15.heap _
        rw [eq15]
        exact ⟨by simp only [eqv, if_neg hc23_10, if_neg hc37_18], N16, rfl⟩
theorem own_r3 {i y : Int32} (h : i = (y &&& (3 : Int32)) % (3 : Int32)) : i = 0 ∨ i = 1 ∨ i = 2 := by
  have h1 := c_mask y 3 2 (by decide) (by decide)
  have h2 := (c_irem (y &&& 3) 3 3 rfl).1 (by omega)
  rw [← h] at h2
  have h3 : i.toInt = 0 ∨ i.toInt = 1 ∨ i.toInt = 2 := by omega
  rcases h3 with h | h | h
  · exact Or.inl (Int32.toInt_inj.mp h)
  · exact Or.inr (Or.inl (Int32.toInt_inj.mp h))
  · exact Or.inr (Or.inr (Int32.toInt_inj.mp h))
theorem own_r3b {z y l s : Int32} (h : z = (if s = (0 : Int32) then ((y &&& (3 : Int32)) % (3 : Int32)) else l)) (hl : l = 0 ∨ l = 1 ∨ l = 2) : z = 0 ∨ z = 1 ∨ z = 2 := by
  by_cases q : s = 0
  · rw [if_pos q] at h; exact own_r3 h
  · rw [if_neg q] at h; rw [h]; exact hl
theorem own_chs {la a lb b : Int32} (ha : la = 0 ∨ la = 1 ∨ la = 2) (hb : lb = 0 ∨ lb = 1 ∨ lb = 2) : sm la a lb b = 0 ↔ ¬ (chs la a = chs lb b) := by
  simp only [chs, sm, own_c255]
  rcases ha with rfl | rfl | rfl <;> rcases hb with rfl | rfl | rfl <;> simp
  all_goals (first | done | (split <;> simp_all))
theorem own_eqv2 (cf ct df dt : List Int32) : eqv cf ct df dt = if cf = df then (if ct = dt then 1 else 0) else 0 := by
  unfold eqv
  by_cases h1 : cf = df <;> by_cases h2 : ct = dt <;> simp [h1, h2]
theorem own_e0 {la a lb b : Int32} {ct dt : List Int32} (ha : la = 0 ∨ la = 1 ∨ la = 2) (hb : lb = 0 ∨ lb = 1 ∨ lb = 2) (h : sm la a lb b = 0) : eqv (chs la a) ct (chs lb b) dt = 0 := by
  rw [own_eqv2, if_neg ((own_chs ha hb).mp h)]
theorem own_e0s {la a lb b : Int32} {ct dt : List Int32} (ha : la = 0 ∨ la = 1 ∨ la = 2) (hb : lb = 0 ∨ lb = 1 ∨ lb = 2) (h : sm la a lb b = 0) : eqv (chs lb b) dt (chs la a) ct = 0 := by
  rw [own_eqv2, if_neg fun q => (own_chs ha hb).mp h q.symm]
theorem own_e1 {la a lb b : Int32} {cf df : List Int32} (ha : la = 0 ∨ la = 1 ∨ la = 2) (hb : lb = 0 ∨ lb = 1 ∨ lb = 2) (h : sm la a lb b = 0) : eqv cf (chs la a) df (chs lb b) = 0 := by
  have q := (own_chs ha hb).mp h
  rw [own_eqv2]; simp [q]
theorem own_e1s {la a lb b : Int32} {cf df : List Int32} (ha : la = 0 ∨ la = 1 ∨ la = 2) (hb : lb = 0 ∨ lb = 1 ∨ lb = 2) (h : sm la a lb b = 0) : eqv df (chs lb b) cf (chs la a) = 0 := by
  have q : ¬ (chs lb b = chs la a) := fun q => (own_chs ha hb).mp h q.symm
  rw [own_eqv2]; simp [q]
theorem own_e2 {la a lb b lc c ld d : Int32} (ha : la = 0 ∨ la = 1 ∨ la = 2) (hb : lb = 0 ∨ lb = 1 ∨ lb = 2) (hc : lc = 0 ∨ lc = 1 ∨ lc = 2) (hd : ld = 0 ∨ ld = 1 ∨ ld = 2) (h : ¬ sm la a lb b = 0) (h' : ¬ sm lc c ld d = 0) : eqv (chs la a) (chs lc c) (chs lb b) (chs ld d) = 1 := by
  rw [own_chs ha hb, Classical.not_not] at h
  rw [own_chs hc hd, Classical.not_not] at h'
  rw [own_eqv2, if_pos h, if_pos h']
theorem own_e2s {la a lb b lc c ld d : Int32} (ha : la = 0 ∨ la = 1 ∨ la = 2) (hb : lb = 0 ∨ lb = 1 ∨ lb = 2) (hc : lc = 0 ∨ lc = 1 ∨ lc = 2) (hd : ld = 0 ∨ ld = 1 ∨ ld = 2) (h : ¬ sm la a lb b = 0) (h' : ¬ sm lc c ld d = 0) : eqv (chs lb b) (chs ld d) (chs la a) (chs lc c) = 1 := by
  rw [own_chs ha hb, Classical.not_not] at h
  rw [own_chs hc hd, Classical.not_not] at h'
  rw [own_eqv2, if_pos h.symm, if_pos h'.symm]
def Q_rm0 (Z : State) (x0 : Int32) (x1 : Int32) (x2 : Int32) (x3 : Int32) (x4 : Int32) (x5 : Int32) (G1 : Int32) (h0 : Heap) (n0 : Nat) (v : Option Value) (h : Heap) (L : List Loc) : Prop := v = some (.int (1 : Int32)) ∧ Fr n0 L
theorem ef_rm0 (m : MethodId) (x0 : Int32) (x1 : Int32) (x2 : Int32) (x3 : Int32) (x4 : Int32) (x5 : Int32) : entryFrame m #[(.int x0), (.int x1), (.int x2), (.int x3), (.int x4), (.int x5)] maxLocals = mkF m 0 #[.val (.int x0), .val (.int x1), .val (.int x2), .val (.int x3), .val (.int x4), .val (.int x5), .unset, .unset, .unset, .unset, .unset, .unset, .unset, .unset, .unset, .unset, .unset, .unset, .unset, .unset, .unset, .unset] [] := by first | (simp [entryFrame, mkF, argsToLocals, Value.category, maxLocals]; done) | rfl
set_option maxRecDepth 65536 in
set_option maxHeartbeats 40000000 in
theorem rm0 (l : Launch) (Z : State) (a0 : Array Value) (hw : ∀ d ∈ tables_1, d.before a0 Z = true) (ws : List Jvm.Cond) (x0 : Int32) (x1 : Int32) (x2 : Int32) (x3 : Int32) (x4 : Int32) (x5 : Int32) (G1 : Int32) (h0 : Heap) (n0 : Nat) (O0 : Old Z n0 h0) (O2 : Sta Z Z.heap "java/lang/String" "COMPACT_STRINGS" "Z" (.int G1)) (P5 : ¬ (G1 = (0 : Int32))) :
    MetFree l x (head1 (Jvm.Cond.code x code maxLocals ret :: ws) room_1) (fun aa U => aa = #[(.int x0), (.int x1), (.int x2), (.int x3), (.int x4), (.int x5)] ∧ Z.Warmed39 U.vm ∧ U.heap = h0 ∧ CHv Z EL0 U.vm h0) (fun _ _ _ _ _ => True) (fun _ U o U' => ∃ v L, o = .returned v ∧ Q_rm0 Z x0 x1 x2 x3 x4 x5 G1 h0 n0 v U'.heap L ∧ CHr Z EL0 U.vm U.heap U'.vm U'.heap ∧ ReturnedEndW U o U' L 26 52) := by
  refine MetFree.of_bodySF (plainFor_of_name pn1) hisR ?_
  intro p e s m args below meth c s₁ Bd hml0 hP hK
  obtain ⟨rfl, hZ, hh, hCH⟩ := hP
  have hx := Bd.exec
  have hby := Bd.bytes
  have hml : c.maxLocals = 22 := hml0
  have hown : s.vm.findClass "com/example/verdictd/verdictd/RolePairEqualsPinLaw" = some m.cls := findClass_of_methodNamed Bd.named
  have hnm := (name_of_methodNamed Bd.named Bd.method).1
  have X0 : Stand p l e room_1 (s.setVm s.vm) m #[(.int x0), (.int x1), (.int x2), (.int x3), (.int x4), (.int x5)] below meth c s₁ [] 0 0 := Stand.of_body Bd
  have e0 : s₁.heap = h0 := by rw [← hh, Bd.state]; rfl
  have N0 := Fr.nil n0
  have pre0 : ∀ tgt, Steps p.tables e below (s₁.setTop (mkF m 0 #[.val (.int x0), .val (.int x1), .val (.int x2), .val (.int x3), .val (.int x4), .val (.int x5), .unset, .unset, .unset, .unset, .unset, .unset, .unset, .unset, .unset, .unset, .unset, .unset, .unset, .unset, .unset, .unset] [])) tgt → Steps p.tables e below (s₁.setTop (entryFrame m #[(.int x0), (.int x1), (.int x2), (.int x3), (.int x4), (.int x5)] maxLocals)) tgt := fun tgt kgo => castTop (ef_rm0 m x0 x1 x2 x3 x4 x5) kgo
  have hS0 : s.Since s.vm 0 := (State.WarmedH.refl s).since 0
  have hk0 : 0 ≤ h0.size := Nat.zero_le _
  have CH0 : CHr Z EL0 s.vm h0 s.vm h0 := CHr.refl hCH
  have pre1 : ∀ tgt, Steps p.tables e below (s₁.setTop (mkF m 4 #[.val (.int x0), .val (.int x1), .val (.int x2), .val (.int x3), .val (.int x4), .val (.int x5), .unset, .unset, .unset, .unset, .unset, .unset, .unset, .unset, .unset, .unset, .unset, .unset, .unset, .unset, .unset, .unset] [(.int (x5 &&& (1 : Int32)))])) tgt → Steps p.tables e below (s₁.setTop (entryFrame m #[(.int x0), (.int x1), (.int x2), (.int x3), (.int x4), (.int x5)] maxLocals)) tgt := by
    intro tgt kgo
    refine pre0 _ ?_
    refine XS.iload X0.here hx rfl (hb hby at_0) rfl ?_
    show Steps p.tables e below (s₁.setTop (mkF m 2 #[.val (.int x0), .val (.int x1), .val (.int x2), .val (.int x3), .val (.int x4), .val (.int x5), .unset, .unset, .unset, .unset, .unset, .unset, .unset, .unset, .unset, .unset, .unset, .unset, .unset, .unset, .unset, .unset] [(.int x5)])) _
    refine XS.iconst X0.here hx rfl (hb hby at_2) ?_
    show Steps p.tables e below (s₁.setTop (mkF m 3 #[.val (.int x0), .val (.int x1), .val (.int x2), .val (.int x3), .val (.int x4), .val (.int x5), .unset, .unset, .unset, .unset, .unset, .unset, .unset, .unset, .unset, .unset, .unset, .unset, .unset, .unset, .unset, .unset] [(.int (1 : Int32)), (.int x5)])) _
    refine XS.iand X0.here hx rfl (hb hby at_3) rfl ?_
    show Steps p.tables e below (s₁.setTop (mkF m 4 #[.val (.int x0), .val (.int x1), .val (.int x2), .val (.int x3), .val (.int x4), .val (.int x5), .unset, .unset, .unset, .unset, .unset, .unset, .unset, .unset, .unset, .unset, .unset, .unset, .unset, .unset, .unset, .unset] [(.int (x5 &&& (1 : Int32)))])) _
    exact kgo
  obtain ⟨T2, lo2, sf, X2, e2, N2, hsf, pre2⟩ : ∃ (T' : State) (lo2 : List Loc) (sf : Int32), Stand p l e room_1 (s.setVm s.vm) m #[(.int x0), (.int x1), (.int x2), (.int x3), (.int x4), (.int x5)] below meth c T' lo2 0 0 ∧ T'.heap = h0 ∧ Fr n0 lo2 ∧ sf = (if (x5 &&& (1 : Int32)) = (0 : Int32) then (0 : Int32) else (1 : Int32)) ∧ ∀ tgt, Steps p.tables e below (T'.setTop (mkF m 12 #[.val (.int x0), .val (.int x1), .val (.int x2), .val (.int x3), .val (.int x4), .val (.int x5), .unset, .unset, .unset, .unset, .unset, .unset, .unset, .unset, .unset, .unset, .unset, .unset, .unset, .unset, .unset, .unset] [(.int sf)])) tgt → Steps p.tables e below (s₁.setTop (entryFrame m #[(.int x0), (.int x1), (.int x2), (.int x3), (.int x4), (.int x5)] maxLocals)) tgt := by
    by_cases hc4_3 : (x5 &&& (1 : Int32)) = (0 : Int32)
    · have pre4 : ∀ tgt, Steps p.tables e below (s₁.setTop (mkF m 12 #[.val (.int x0), .val (.int x1), .val (.int x2), .val (.int x3), .val (.int x4), .val (.int x5), .unset, .unset, .unset, .unset, .unset, .unset, .unset, .unset, .unset, .unset, .unset, .unset, .unset, .unset, .unset, .unset] [(.int (0 : Int32))])) tgt → Steps p.tables e below (s₁.setTop (entryFrame m #[(.int x0), (.int x1), (.int x2), (.int x3), (.int x4), (.int x5)] maxLocals)) tgt := by
        intro tgt kgo
        refine pre1 _ ?_
        refine XS.ifYes X0.here hx rfl (pc0 := 4) (pc' := 11) rfl (hb hby at_4) rfl ((if0 _ _).trans (teq hc4_3).1) (by decide) (by decide) ?_
        show Steps p.tables e below (s₁.setTop (mkF m 11 #[.val (.int x0), .val (.int x1), .val (.int x2), .val (.int x3), .val (.int x4), .val (.int x5), .unset, .unset, .unset, .unset, .unset, .unset, .unset, .unset, .unset, .unset, .unset, .unset, .unset, .unset, .unset, .unset] [])) _
        refine XS.iconst X0.here hx rfl (hb hby at_11) ?_
        show Steps p.tables e below (s₁.setTop (mkF m 12 #[.val (.int x0), .val (.int x1), .val (.int x2), .val (.int x3), .val (.int x4), .val (.int x5), .unset, .unset, .unset, .unset, .unset, .unset, .unset, .unset, .unset, .unset, .unset, .unset, .unset, .unset, .unset, .unset] [(.int (0 : Int32))])) _
        exact kgo
      exact ⟨s₁, _, (0 : Int32), X0, e0, N0, (by simp only [if_pos hc4_3]), pre4⟩
    · have pre5 : ∀ tgt, Steps p.tables e below (s₁.setTop (mkF m 12 #[.val (.int x0), .val (.int x1), .val (.int x2), .val (.int x3), .val (.int x4), .val (.int x5), .unset, .unset, .unset, .unset, .unset, .unset, .unset, .unset, .unset, .unset, .unset, .unset, .unset, .unset, .unset, .unset] [(.int (1 : Int32))])) tgt → Steps p.tables e below (s₁.setTop (entryFrame m #[(.int x0), (.int x1), (.int x2), (.int x3), (.int x4), (.int x5)] maxLocals)) tgt := by
        intro tgt kgo
        refine pre1 _ ?_
        refine XS.ifNo X0.here hx rfl (hb hby at_4) rfl ((if0 _ _).trans (feq hc4_3).1) ?_
        show Steps p.tables e below (s₁.setTop (mkF m 7 #[.val (.int x0), .val (.int x1), .val (.int x2), .val (.int x3), .val (.int x4), .val (.int x5), .unset, .unset, .unset, .unset, .unset, .unset, .unset, .unset, .unset, .unset, .unset, .unset, .unset, .unset, .unset, .unset] [])) _
        refine XS.iconst X0.here hx rfl (hb hby at_7) ?_
        show Steps p.tables e below (s₁.setTop (mkF m 8 #[.val (.int x0), .val (.int x1), .val (.int x2), .val (.int x3), .val (.int x4), .val (.int x5), .unset, .unset, .unset, .unset, .unset, .unset, .unset, .unset, .unset, .unset, .unset, .unset, .unset, .unset, .unset, .unset] [(.int (1 : Int32))])) _
        refine XS.goto X0.here hx rfl (pc0 := 8) (pc' := 12) rfl (hb hby at_8) (by decide) (by decide) ?_
        show Steps p.tables e below (s₁.setTop (mkF m 12 #[.val (.int x0), .val (.int x1), .val (.int x2), .val (.int x3), .val (.int x4), .val (.int x5), .unset, .unset, .unset, .unset, .unset, .unset, .unset, .unset, .unset, .unset, .unset, .unset, .unset, .unset, .unset, .unset] [(.int (1 : Int32))])) _
        exact kgo
      exact ⟨s₁, _, (1 : Int32), X0, e0, N0, (by simp only [if_neg hc4_3]), pre5⟩
  have pre6 : ∀ tgt, Steps p.tables e below (T2.setTop (mkF m 18 #[.val (.int x0), .val (.int x1), .val (.int x2), .val (.int x3), .val (.int x4), .val (.int x5), .val (.int sf), .unset, .unset, .unset, .unset, .unset, .unset, .unset, .unset, .unset, .unset, .unset, .unset, .unset, .unset, .unset] [(.int (x5 &&& (2 : Int32)))])) tgt → Steps p.tables e below (s₁.setTop (entryFrame m #[(.int x0), (.int x1), (.int x2), (.int x3), (.int x4), (.int x5)] maxLocals)) tgt := by
    intro tgt kgo
    refine pre2 _ ?_
    refine XS.istore X2.here hx rfl (hb hby at_12) rfl (l' := #[.val (.int x0), .val (.int x1), .val (.int x2), .val (.int x3), .val (.int x4), .val (.int x5), .val (.int sf), .unset, .unset, .unset, .unset, .unset, .unset, .unset, .unset, .unset, .unset, .unset, .unset, .unset, .unset, .unset]) rfl ?_
    show Steps p.tables e below (T2.setTop (mkF m 14 #[.val (.int x0), .val (.int x1), .val (.int x2), .val (.int x3), .val (.int x4), .val (.int x5), .val (.int sf), .unset, .unset, .unset, .unset, .unset, .unset, .unset, .unset, .unset, .unset, .unset, .unset, .unset, .unset, .unset] [])) _
    refine XS.iload X2.here hx rfl (hb hby at_14) rfl ?_
    show Steps p.tables e below (T2.setTop (mkF m 16 #[.val (.int x0), .val (.int x1), .val (.int x2), .val (.int x3), .val (.int x4), .val (.int x5), .val (.int sf), .unset, .unset, .unset, .unset, .unset, .unset, .unset, .unset, .unset, .unset, .unset, .unset, .unset, .unset, .unset] [(.int x5)])) _
    refine XS.iconst X2.here hx rfl (hb hby at_16) ?_
    show Steps p.tables e below (T2.setTop (mkF m 17 #[.val (.int x0), .val (.int x1), .val (.int x2), .val (.int x3), .val (.int x4), .val (.int x5), .val (.int sf), .unset, .unset, .unset, .unset, .unset, .unset, .unset, .unset, .unset, .unset, .unset, .unset, .unset, .unset, .unset] [(.int (2 : Int32)), (.int x5)])) _
    refine XS.iand X2.here hx rfl (hb hby at_17) rfl ?_
    show Steps p.tables e below (T2.setTop (mkF m 18 #[.val (.int x0), .val (.int x1), .val (.int x2), .val (.int x3), .val (.int x4), .val (.int x5), .val (.int sf), .unset, .unset, .unset, .unset, .unset, .unset, .unset, .unset, .unset, .unset, .unset, .unset, .unset, .unset, .unset] [(.int (x5 &&& (2 : Int32)))])) _
    exact kgo
  obtain ⟨T7, lo7, stt, X7, e7, N7, hstt, pre7⟩ : ∃ (T' : State) (lo7 : List Loc) (stt : Int32), Stand p l e room_1 (s.setVm s.vm) m #[(.int x0), (.int x1), (.int x2), (.int x3), (.int x4), (.int x5)] below meth c T' lo7 0 0 ∧ T'.heap = h0 ∧ Fr n0 lo7 ∧ stt = (if (x5 &&& (2 : Int32)) = (0 : Int32) then (0 : Int32) else (1 : Int32)) ∧ ∀ tgt, Steps p.tables e below (T'.setTop (mkF m 26 #[.val (.int x0), .val (.int x1), .val (.int x2), .val (.int x3), .val (.int x4), .val (.int x5), .val (.int sf), .unset, .unset, .unset, .unset, .unset, .unset, .unset, .unset, .unset, .unset, .unset, .unset, .unset, .unset, .unset] [(.int stt)])) tgt → Steps p.tables e below (s₁.setTop (entryFrame m #[(.int x0), (.int x1), (.int x2), (.int x3), (.int x4), (.int x5)] maxLocals)) tgt := by
    by_cases hc18_8 : (x5 &&& (2 : Int32)) = (0 : Int32)
    · have pre9 : ∀ tgt, Steps p.tables e below (T2.setTop (mkF m 26 #[.val (.int x0), .val (.int x1), .val (.int x2), .val (.int x3), .val (.int x4), .val (.int x5), .val (.int sf), .unset, .unset, .unset, .unset, .unset, .unset, .unset, .unset, .unset, .unset, .unset, .unset, .unset, .unset, .unset] [(.int (0 : Int32))])) tgt → Steps p.tables e below (s₁.setTop (entryFrame m #[(.int x0), (.int x1), (.int x2), (.int x3), (.int x4), (.int x5)] maxLocals)) tgt := by
        intro tgt kgo
        refine pre6 _ ?_
        refine XS.ifYes X2.here hx rfl (pc0 := 18) (pc' := 25) rfl (hb hby at_18) rfl ((if0 _ _).trans (teq hc18_8).1) (by decide) (by decide) ?_
        show Steps p.tables e below (T2.setTop (mkF m 25 #[.val (.int x0), .val (.int x1), .val (.int x2), .val (.int x3), .val (.int x4), .val (.int x5), .val (.int sf), .unset, .unset, .unset, .unset, .unset, .unset, .unset, .unset, .unset, .unset, .unset, .unset, .unset, .unset, .unset] [])) _
        refine XS.iconst X2.here hx rfl (hb hby at_25) ?_
        show Steps p.tables e below (T2.setTop (mkF m 26 #[.val (.int x0), .val (.int x1), .val (.int x2), .val (.int x3), .val (.int x4), .val (.int x5), .val (.int sf), .unset, .unset, .unset, .unset, .unset, .unset, .unset, .unset, .unset, .unset, .unset, .unset, .unset, .unset, .unset] [(.int (0 : Int32))])) _
        exact kgo
      exact ⟨T2, _, (0 : Int32), X2, e2, N2, (by simp only [if_pos hc18_8]), pre9⟩
    · have pre10 : ∀ tgt, Steps p.tables e below (T2.setTop (mkF m 26 #[.val (.int x0), .val (.int x1), .val (.int x2), .val (.int x3), .val (.int x4), .val (.int x5), .val (.int sf), .unset, .unset, .unset, .unset, .unset, .unset, .unset, .unset, .unset, .unset, .unset, .unset, .unset, .unset, .unset] [(.int (1 : Int32))])) tgt → Steps p.tables e below (s₁.setTop (entryFrame m #[(.int x0), (.int x1), (.int x2), (.int x3), (.int x4), (.int x5)] maxLocals)) tgt := by
        intro tgt kgo
        refine pre6 _ ?_
        refine XS.ifNo X2.here hx rfl (hb hby at_18) rfl ((if0 _ _).trans (feq hc18_8).1) ?_
        show Steps p.tables e below (T2.setTop (mkF m 21 #[.val (.int x0), .val (.int x1), .val (.int x2), .val (.int x3), .val (.int x4), .val (.int x5), .val (.int sf), .unset, .unset, .unset, .unset, .unset, .unset, .unset, .unset, .unset, .unset, .unset, .unset, .unset, .unset, .unset] [])) _
        refine XS.iconst X2.here hx rfl (hb hby at_21) ?_
        show Steps p.tables e below (T2.setTop (mkF m 22 #[.val (.int x0), .val (.int x1), .val (.int x2), .val (.int x3), .val (.int x4), .val (.int x5), .val (.int sf), .unset, .unset, .unset, .unset, .unset, .unset, .unset, .unset, .unset, .unset, .unset, .unset, .unset, .unset, .unset] [(.int (1 : Int32))])) _
        refine XS.goto X2.here hx rfl (pc0 := 22) (pc' := 26) rfl (hb hby at_22) (by decide) (by decide) ?_
        show Steps p.tables e below (T2.setTop (mkF m 26 #[.val (.int x0), .val (.int x1), .val (.int x2), .val (.int x3), .val (.int x4), .val (.int x5), .val (.int sf), .unset, .unset, .unset, .unset, .unset, .unset, .unset, .unset, .unset, .unset, .unset, .unset, .unset, .unset, .unset] [(.int (1 : Int32))])) _
        exact kgo
      exact ⟨T2, _, (1 : Int32), X2, e2, N2, (by simp only [if_neg hc18_8]), pre10⟩
  have pre11 : ∀ tgt, Steps p.tables e below (T7.setTop (mkF m 36 #[.val (.int x0), .val (.int x1), .val (.int x2), .val (.int x3), .val (.int x4), .val (.int x5), .val (.int sf), .val (.int stt), .val (.int ((x4 &&& (3 : Int32)) % (3 : Int32))), .unset, .unset, .unset, .unset, .unset, .unset, .unset, .unset, .unset, .unset, .unset, .unset, .unset] [])) tgt → Steps p.tables e below (s₁.setTop (entryFrame m #[(.int x0), (.int x1), (.int x2), (.int x3), (.int x4), (.int x5)] maxLocals)) tgt := by
    intro tgt kgo
    refine pre7 _ ?_
    refine XS.istore X7.here hx rfl (hb hby at_26) rfl (l' := #[.val (.int x0), .val (.int x1), .val (.int x2), .val (.int x3), .val (.int x4), .val (.int x5), .val (.int sf), .val (.int stt), .unset, .unset, .unset, .unset, .unset, .unset, .unset, .unset, .unset, .unset, .unset, .unset, .unset, .unset]) rfl ?_
    show Steps p.tables e below (T7.setTop (mkF m 28 #[.val (.int x0), .val (.int x1), .val (.int x2), .val (.int x3), .val (.int x4), .val (.int x5), .val (.int sf), .val (.int stt), .unset, .unset, .unset, .unset, .unset, .unset, .unset, .unset, .unset, .unset, .unset, .unset, .unset, .unset] [])) _
    refine XS.iload X7.here hx rfl (hb hby at_28) rfl ?_
    show Steps p.tables e below (T7.setTop (mkF m 30 #[.val (.int x0), .val (.int x1), .val (.int x2), .val (.int x3), .val (.int x4), .val (.int x5), .val (.int sf), .val (.int stt), .unset, .unset, .unset, .unset, .unset, .unset, .unset, .unset, .unset, .unset, .unset, .unset, .unset, .unset] [(.int x4)])) _
    refine XS.iconst X7.here hx rfl (hb hby at_30) ?_
    show Steps p.tables e below (T7.setTop (mkF m 31 #[.val (.int x0), .val (.int x1), .val (.int x2), .val (.int x3), .val (.int x4), .val (.int x5), .val (.int sf), .val (.int stt), .unset, .unset, .unset, .unset, .unset, .unset, .unset, .unset, .unset, .unset, .unset, .unset, .unset, .unset] [(.int (3 : Int32)), (.int x4)])) _
    refine XS.iand X7.here hx rfl (hb hby at_31) rfl ?_
    show Steps p.tables e below (T7.setTop (mkF m 32 #[.val (.int x0), .val (.int x1), .val (.int x2), .val (.int x3), .val (.int x4), .val (.int x5), .val (.int sf), .val (.int stt), .unset, .unset, .unset, .unset, .unset, .unset, .unset, .unset, .unset, .unset, .unset, .unset, .unset, .unset] [(.int (x4 &&& (3 : Int32)))])) _
    refine XS.iconst X7.here hx rfl (hb hby at_32) ?_
    show Steps p.tables e below (T7.setTop (mkF m 33 #[.val (.int x0), .val (.int x1), .val (.int x2), .val (.int x3), .val (.int x4), .val (.int x5), .val (.int sf), .val (.int stt), .unset, .unset, .unset, .unset, .unset, .unset, .unset, .unset, .unset, .unset, .unset, .unset, .unset, .unset] [(.int (3 : Int32)), (.int (x4 &&& (3 : Int32)))])) _
    refine iremM (g := (mkF m 33 #[.val (.int x0), .val (.int x1), .val (.int x2), .val (.int x3), .val (.int x4), .val (.int x5), .val (.int sf), .val (.int stt), .unset, .unset, .unset, .unset, .unset, .unset, .unset, .unset, .unset, .unset, .unset, .unset, .unset, .unset] [(.int (3 : Int32)), (.int (x4 &&& (3 : Int32)))])) X7 hx rfl (hb hby at_33) rfl (by decide) ?_
    show Steps p.tables e below (T7.setTop (mkF m 34 #[.val (.int x0), .val (.int x1), .val (.int x2), .val (.int x3), .val (.int x4), .val (.int x5), .val (.int sf), .val (.int stt), .unset, .unset, .unset, .unset, .unset, .unset, .unset, .unset, .unset, .unset, .unset, .unset, .unset, .unset] [(.int ((x4 &&& (3 : Int32)) % (3 : Int32)))])) _
    refine XS.istore X7.here hx rfl (hb hby at_34) rfl (l' := #[.val (.int x0), .val (.int x1), .val (.int x2), .val (.int x3), .val (.int x4), .val (.int x5), .val (.int sf), .val (.int stt), .val (.int ((x4 &&& (3 : Int32)) % (3 : Int32))), .unset, .unset, .unset, .unset, .unset, .unset, .unset, .unset, .unset, .unset, .unset, .unset, .unset]) rfl ?_
    show Steps p.tables e below (T7.setTop (mkF m 36 #[.val (.int x0), .val (.int x1), .val (.int x2), .val (.int x3), .val (.int x4), .val (.int x5), .val (.int sf), .val (.int stt), .val (.int ((x4 &&& (3 : Int32)) % (3 : Int32))), .unset, .unset, .unset, .unset, .unset, .unset, .unset, .unset, .unset, .unset, .unset, .unset, .unset] [])) _
    exact kgo
  obtain ⟨lf1, hlf1⟩ : ∃ z, z = ((x4 &&& (3 : Int32)) % (3 : Int32)) := ⟨_, rfl⟩
  have pre12 : ∀ tgt, Steps p.tables e below (T7.setTop (mkF m 36 #[.val (.int x0), .val (.int x1), .val (.int x2), .val (.int x3), .val (.int x4), .val (.int x5), .val (.int sf), .val (.int stt), .val (.int lf1), .unset, .unset, .unset, .unset, .unset, .unset, .unset, .unset, .unset, .unset, .unset, .unset, .unset] [])) tgt → Steps p.tables e below (s₁.setTop (entryFrame m #[(.int x0), (.int x1), (.int x2), (.int x3), (.int x4), (.int x5)] maxLocals)) tgt := by
    rw [hlf1]; exact pre11
  have pre13 : ∀ tgt, Steps p.tables e below (T7.setTop (mkF m 46 #[.val (.int x0), .val (.int x1), .val (.int x2), .val (.int x3), .val (.int x4), .val (.int x5), .val (.int sf), .val (.int stt), .val (.int lf1), .val (.int ((((x4.toUInt32 >>> ((2 : Int32) &&& 31).toUInt32).toInt32) &&& (3 : Int32)) % (3 : Int32))), .unset, .unset, .unset, .unset, .unset, .unset, .unset, .unset, .unset, .unset, .unset, .unset] [])) tgt → Steps p.tables e below (s₁.setTop (entryFrame m #[(.int x0), (.int x1), (.int x2), (.int x3), (.int x4), (.int x5)] maxLocals)) tgt := by
    intro tgt kgo
    refine pre12 _ ?_
    refine XS.iload X7.here hx rfl (hb hby at_36) rfl ?_
    show Steps p.tables e below (T7.setTop (mkF m 38 #[.val (.int x0), .val (.int x1), .val (.int x2), .val (.int x3), .val (.int x4), .val (.int x5), .val (.int sf), .val (.int stt), .val (.int lf1), .unset, .unset, .unset, .unset, .unset, .unset, .unset, .unset, .unset, .unset, .unset, .unset, .unset] [(.int x4)])) _
    refine XS.iconst X7.here hx rfl (hb hby at_38) ?_
    show Steps p.tables e below (T7.setTop (mkF m 39 #[.val (.int x0), .val (.int x1), .val (.int x2), .val (.int x3), .val (.int x4), .val (.int x5), .val (.int sf), .val (.int stt), .val (.int lf1), .unset, .unset, .unset, .unset, .unset, .unset, .unset, .unset, .unset, .unset, .unset, .unset, .unset] [(.int (2 : Int32)), (.int x4)])) _
    refine XS.iushr X7.here hx rfl (hb hby at_39) rfl ?_
    show Steps p.tables e below (T7.setTop (mkF m 40 #[.val (.int x0), .val (.int x1), .val (.int x2), .val (.int x3), .val (.int x4), .val (.int x5), .val (.int sf), .val (.int stt), .val (.int lf1), .unset, .unset, .unset, .unset, .unset, .unset, .unset, .unset, .unset, .unset, .unset, .unset, .unset] [(.int ((x4.toUInt32 >>> ((2 : Int32) &&& 31).toUInt32).toInt32))])) _
    refine XS.iconst X7.here hx rfl (hb hby at_40) ?_
    show Steps p.tables e below (T7.setTop (mkF m 41 #[.val (.int x0), .val (.int x1), .val (.int x2), .val (.int x3), .val (.int x4), .val (.int x5), .val (.int sf), .val (.int stt), .val (.int lf1), .unset, .unset, .unset, .unset, .unset, .unset, .unset, .unset, .unset, .unset, .unset, .unset, .unset] [(.int (3 : Int32)), (.int ((x4.toUInt32 >>> ((2 : Int32) &&& 31).toUInt32).toInt32))])) _
    refine XS.iand X7.here hx rfl (hb hby at_41) rfl ?_
    show Steps p.tables e below (T7.setTop (mkF m 42 #[.val (.int x0), .val (.int x1), .val (.int x2), .val (.int x3), .val (.int x4), .val (.int x5), .val (.int sf), .val (.int stt), .val (.int lf1), .unset, .unset, .unset, .unset, .unset, .unset, .unset, .unset, .unset, .unset, .unset, .unset, .unset] [(.int (((x4.toUInt32 >>> ((2 : Int32) &&& 31).toUInt32).toInt32) &&& (3 : Int32)))])) _
    refine XS.iconst X7.here hx rfl (hb hby at_42) ?_
    show Steps p.tables e below (T7.setTop (mkF m 43 #[.val (.int x0), .val (.int x1), .val (.int x2), .val (.int x3), .val (.int x4), .val (.int x5), .val (.int sf), .val (.int stt), .val (.int lf1), .unset, .unset, .unset, .unset, .unset, .unset, .unset, .unset, .unset, .unset, .unset, .unset, .unset] [(.int (3 : Int32)), (.int (((x4.toUInt32 >>> ((2 : Int32) &&& 31).toUInt32).toInt32) &&& (3 : Int32)))])) _
    refine iremM (g := (mkF m 43 #[.val (.int x0), .val (.int x1), .val (.int x2), .val (.int x3), .val (.int x4), .val (.int x5), .val (.int sf), .val (.int stt), .val (.int lf1), .unset, .unset, .unset, .unset, .unset, .unset, .unset, .unset, .unset, .unset, .unset, .unset, .unset] [(.int (3 : Int32)), (.int (((x4.toUInt32 >>> ((2 : Int32) &&& 31).toUInt32).toInt32) &&& (3 : Int32)))])) X7 hx rfl (hb hby at_43) rfl (by decide) ?_
    show Steps p.tables e below (T7.setTop (mkF m 44 #[.val (.int x0), .val (.int x1), .val (.int x2), .val (.int x3), .val (.int x4), .val (.int x5), .val (.int sf), .val (.int stt), .val (.int lf1), .unset, .unset, .unset, .unset, .unset, .unset, .unset, .unset, .unset, .unset, .unset, .unset, .unset] [(.int ((((x4.toUInt32 >>> ((2 : Int32) &&& 31).toUInt32).toInt32) &&& (3 : Int32)) % (3 : Int32)))])) _
    refine XS.istore X7.here hx rfl (hb hby at_44) rfl (l' := #[.val (.int x0), .val (.int x1), .val (.int x2), .val (.int x3), .val (.int x4), .val (.int x5), .val (.int sf), .val (.int stt), .val (.int lf1), .val (.int ((((x4.toUInt32 >>> ((2 : Int32) &&& 31).toUInt32).toInt32) &&& (3 : Int32)) % (3 : Int32))), .unset, .unset, .unset, .unset, .unset, .unset, .unset, .unset, .unset, .unset, .unset, .unset]) rfl ?_
    show Steps p.tables e below (T7.setTop (mkF m 46 #[.val (.int x0), .val (.int x1), .val (.int x2), .val (.int x3), .val (.int x4), .val (.int x5), .val (.int sf), .val (.int stt), .val (.int lf1), .val (.int ((((x4.toUInt32 >>> ((2 : Int32) &&& 31).toUInt32).toInt32) &&& (3 : Int32)) % (3 : Int32))), .unset, .unset, .unset, .unset, .unset, .unset, .unset, .unset, .unset, .unset, .unset, .unset] [])) _
    exact kgo
  obtain ⟨lt1, hlt1⟩ : ∃ z, z = ((((x4.toUInt32 >>> ((2 : Int32) &&& 31).toUInt32).toInt32) &&& (3 : Int32)) % (3 : Int32)) := ⟨_, rfl⟩
  have pre14 : ∀ tgt, Steps p.tables e below (T7.setTop (mkF m 46 #[.val (.int x0), .val (.int x1), .val (.int x2), .val (.int x3), .val (.int x4), .val (.int x5), .val (.int sf), .val (.int stt), .val (.int lf1), .val (.int lt1), .unset, .unset, .unset, .unset, .unset, .unset, .unset, .unset, .unset, .unset, .unset, .unset] [])) tgt → Steps p.tables e below (s₁.setTop (entryFrame m #[(.int x0), (.int x1), (.int x2), (.int x3), (.int x4), (.int x5)] maxLocals)) tgt := by
    rw [hlt1]; exact pre13
  have pre15 : ∀ tgt, Steps p.tables e below (T7.setTop (mkF m 48 #[.val (.int x0), .val (.int x1), .val (.int x2), .val (.int x3), .val (.int x4), .val (.int x5), .val (.int sf), .val (.int stt), .val (.int lf1), .val (.int lt1), .unset, .unset, .unset, .unset, .unset, .unset, .unset, .unset, .unset, .unset, .unset, .unset] [(.int sf)])) tgt → Steps p.tables e below (s₁.setTop (entryFrame m #[(.int x0), (.int x1), (.int x2), (.int x3), (.int x4), (.int x5)] maxLocals)) tgt := by
    intro tgt kgo
    refine pre14 _ ?_
    refine XS.iload X7.here hx rfl (hb hby at_46) rfl ?_
    show Steps p.tables e below (T7.setTop (mkF m 48 #[.val (.int x0), .val (.int x1), .val (.int x2), .val (.int x3), .val (.int x4), .val (.int x5), .val (.int sf), .val (.int stt), .val (.int lf1), .val (.int lt1), .unset, .unset, .unset, .unset, .unset, .unset, .unset, .unset, .unset, .unset, .unset, .unset] [(.int sf)])) _
    exact kgo
  obtain ⟨T16, lo16, lf2, X16, e16, N16, hlf2, pre16⟩ : ∃ (T' : State) (lo16 : List Loc) (lf2 : Int32), Stand p l e room_1 (s.setVm s.vm) m #[(.int x0), (.int x1), (.int x2), (.int x3), (.int x4), (.int x5)] below meth c T' lo16 0 0 ∧ T'.heap = h0 ∧ Fr n0 lo16 ∧ lf2 = (if sf = (0 : Int32) then ((((x4.toUInt32 >>> ((4 : Int32) &&& 31).toUInt32).toInt32) &&& (3 : Int32)) % (3 : Int32)) else lf1) ∧ ∀ tgt, Steps p.tables e below (T'.setTop (mkF m 64 #[.val (.int x0), .val (.int x1), .val (.int x2), .val (.int x3), .val (.int x4), .val (.int x5), .val (.int sf), .val (.int stt), .val (.int lf1), .val (.int lt1), .unset, .unset, .unset, .unset, .unset, .unset, .unset, .unset, .unset, .unset, .unset, .unset] [(.int lf2)])) tgt → Steps p.tables e below (s₁.setTop (entryFrame m #[(.int x0), (.int x1), (.int x2), (.int x3), (.int x4), (.int x5)] maxLocals)) tgt := by
    by_cases hc48_17 : sf = (0 : Int32)
    · have pre18 : ∀ tgt, Steps p.tables e below (T7.setTop (mkF m 64 #[.val (.int x0), .val (.int x1), .val (.int x2), .val (.int x3), .val (.int x4), .val (.int x5), .val (.int sf), .val (.int stt), .val (.int lf1), .val (.int lt1), .unset, .unset, .unset, .unset, .unset, .unset, .unset, .unset, .unset, .unset, .unset, .unset] [(.int ((((x4.toUInt32 >>> ((4 : Int32) &&& 31).toUInt32).toInt32) &&& (3 : Int32)) % (3 : Int32)))])) tgt → Steps p.tables e below (s₁.setTop (entryFrame m #[(.int x0), (.int x1), (.int x2), (.int x3), (.int x4), (.int x5)] maxLocals)) tgt := by
        intro tgt kgo
        refine pre15 _ ?_
        refine XS.ifYes X7.here hx rfl (pc0 := 48) (pc' := 56) rfl (hb hby at_48) rfl ((if0 _ _).trans (teq hc48_17).1) (by decide) (by decide) ?_
        show Steps p.tables e below (T7.setTop (mkF m 56 #[.val (.int x0), .val (.int x1), .val (.int x2), .val (.int x3), .val (.int x4), .val (.int x5), .val (.int sf), .val (.int stt), .val (.int lf1), .val (.int lt1), .unset, .unset, .unset, .unset, .unset, .unset, .unset, .unset, .unset, .unset, .unset, .unset] [])) _
        refine XS.iload X7.here hx rfl (hb hby at_56) rfl ?_
        show Steps p.tables e below (T7.setTop (mkF m 58 #[.val (.int x0), .val (.int x1), .val (.int x2), .val (.int x3), .val (.int x4), .val (.int x5), .val (.int sf), .val (.int stt), .val (.int lf1), .val (.int lt1), .unset, .unset, .unset, .unset, .unset, .unset, .unset, .unset, .unset, .unset, .unset, .unset] [(.int x4)])) _
        refine XS.iconst X7.here hx rfl (hb hby at_58) ?_
        show Steps p.tables e below (T7.setTop (mkF m 59 #[.val (.int x0), .val (.int x1), .val (.int x2), .val (.int x3), .val (.int x4), .val (.int x5), .val (.int sf), .val (.int stt), .val (.int lf1), .val (.int lt1), .unset, .unset, .unset, .unset, .unset, .unset, .unset, .unset, .unset, .unset, .unset, .unset] [(.int (4 : Int32)), (.int x4)])) _
        refine XS.iushr X7.here hx rfl (hb hby at_59) rfl ?_
        show Steps p.tables e below (T7.setTop (mkF m 60 #[.val (.int x0), .val (.int x1), .val (.int x2), .val (.int x3), .val (.int x4), .val (.int x5), .val (.int sf), .val (.int stt), .val (.int lf1), .val (.int lt1), .unset, .unset, .unset, .unset, .unset, .unset, .unset, .unset, .unset, .unset, .unset, .unset] [(.int ((x4.toUInt32 >>> ((4 : Int32) &&& 31).toUInt32).toInt32))])) _
        refine XS.iconst X7.here hx rfl (hb hby at_60) ?_
        show Steps p.tables e below (T7.setTop (mkF m 61 #[.val (.int x0), .val (.int x1), .val (.int x2), .val (.int x3), .val (.int x4), .val (.int x5), .val (.int sf), .val (.int stt), .val (.int lf1), .val (.int lt1), .unset, .unset, .unset, .unset, .unset, .unset, .unset, .unset, .unset, .unset, .unset, .unset] [(.int (3 : Int32)), (.int ((x4.toUInt32 >>> ((4 : Int32) &&& 31).toUInt32).toInt32))])) _
        refine XS.iand X7.here hx rfl (hb hby at_61) rfl ?_
        show Steps p.tables e below (T7.setTop (mkF m 62 #[.val (.int x0), .val (.int x1), .val (.int x2), .val (.int x3), .val (.int x4), .val (.int x5), .val (.int sf), .val (.int stt), .val (.int lf1), .val (.int lt1), .unset, .unset, .unset, .unset, .unset, .unset, .unset, .unset, .unset, .unset, .unset, .unset] [(.int (((x4.toUInt32 >>> ((4 : Int32) &&& 31).toUInt32).toInt32) &&& (3 : Int32)))])) _
        refine XS.iconst X7.here hx rfl (hb hby at_62) ?_
        show Steps p.tables e below (T7.setTop (mkF m 63 #[.val (.int x0), .val (.int x1), .val (.int x2), .val (.int x3), .val (.int x4), .val (.int x5), .val (.int sf), .val (.int stt), .val (.int lf1), .val (.int lt1), .unset, .unset, .unset, .unset, .unset, .unset, .unset, .unset, .unset, .unset, .unset, .unset] [(.int (3 : Int32)), (.int (((x4.toUInt32 >>> ((4 : Int32) &&& 31).toUInt32).toInt32) &&& (3 : Int32)))])) _
        refine iremM (g := (mkF m 63 #[.val (.int x0), .val (.int x1), .val (.int x2), .val (.int x3), .val (.int x4), .val (.int x5), .val (.int sf), .val (.int stt), .val (.int lf1), .val (.int lt1), .unset, .unset, .unset, .unset, .unset, .unset, .unset, .unset, .unset, .unset, .unset, .unset] [(.int (3 : Int32)), (.int (((x4.toUInt32 >>> ((4 : Int32) &&& 31).toUInt32).toInt32) &&& (3 : Int32)))])) X7 hx rfl (hb hby at_63) rfl (by decide) ?_
        show Steps p.tables e below (T7.setTop (mkF m 64 #[.val (.int x0), .val (.int x1), .val (.int x2), .val (.int x3), .val (.int x4), .val (.int x5), .val (.int sf), .val (.int stt), .val (.int lf1), .val (.int lt1), .unset, .unset, .unset, .unset, .unset, .unset, .unset, .unset, .unset, .unset, .unset, .unset] [(.int ((((x4.toUInt32 >>> ((4 : Int32) &&& 31).toUInt32).toInt32) &&& (3 : Int32)) % (3 : Int32)))])) _
        exact kgo
      exact ⟨T7, _, ((((x4.toUInt32 >>> ((4 : Int32) &&& 31).toUInt32).toInt32) &&& (3 : Int32)) % (3 : Int32)), X7, e7, N7, (by simp only [if_pos hc48_17]), pre18⟩
    · have pre19 : ∀ tgt, Steps p.tables e below (T7.setTop (mkF m 64 #[.val (.int x0), .val (.int x1), .val (.int x2), .val (.int x3), .val (.int x4), .val (.int x5), .val (.int sf), .val (.int stt), .val (.int lf1), .val (.int lt1), .unset, .unset, .unset, .unset, .unset, .unset, .unset, .unset, .unset, .unset, .unset, .unset] [(.int lf1)])) tgt → Steps p.tables e below (s₁.setTop (entryFrame m #[(.int x0), (.int x1), (.int x2), (.int x3), (.int x4), (.int x5)] maxLocals)) tgt := by
        intro tgt kgo
        refine pre15 _ ?_
        refine XS.ifNo X7.here hx rfl (hb hby at_48) rfl ((if0 _ _).trans (feq hc48_17).1) ?_
        show Steps p.tables e below (T7.setTop (mkF m 51 #[.val (.int x0), .val (.int x1), .val (.int x2), .val (.int x3), .val (.int x4), .val (.int x5), .val (.int sf), .val (.int stt), .val (.int lf1), .val (.int lt1), .unset, .unset, .unset, .unset, .unset, .unset, .unset, .unset, .unset, .unset, .unset, .unset] [])) _
        refine XS.iload X7.here hx rfl (hb hby at_51) rfl ?_
        show Steps p.tables e below (T7.setTop (mkF m 53 #[.val (.int x0), .val (.int x1), .val (.int x2), .val (.int x3), .val (.int x4), .val (.int x5), .val (.int sf), .val (.int stt), .val (.int lf1), .val (.int lt1), .unset, .unset, .unset, .unset, .unset, .unset, .unset, .unset, .unset, .unset, .unset, .unset] [(.int lf1)])) _
        refine XS.goto X7.here hx rfl (pc0 := 53) (pc' := 64) rfl (hb hby at_53) (by decide) (by decide) ?_
        show Steps p.tables e below (T7.setTop (mkF m 64 #[.val (.int x0), .val (.int x1), .val (.int x2), .val (.int x3), .val (.int x4), .val (.int x5), .val (.int sf), .val (.int stt), .val (.int lf1), .val (.int lt1), .unset, .unset, .unset, .unset, .unset, .unset, .unset, .unset, .unset, .unset, .unset, .unset] [(.int lf1)])) _
        exact kgo
      exact ⟨T7, _, lf1, X7, e7, N7, (by simp only [if_neg hc48_17]), pre19⟩
  have pre20 : ∀ tgt, Steps p.tables e below (T16.setTop (mkF m 68 #[.val (.int x0), .val (.int x1), .val (.int x2), .val (.int x3), .val (.int x4), .val (.int x5), .val (.int sf), .val (.int stt), .val (.int lf1), .val (.int lt1), .val (.int lf2), .unset, .unset, .unset, .unset, .unset, .unset, .unset, .unset, .unset, .unset, .unset] [(.int stt)])) tgt → Steps p.tables e below (s₁.setTop (entryFrame m #[(.int x0), (.int x1), (.int x2), (.int x3), (.int x4), (.int x5)] maxLocals)) tgt := by
    intro tgt kgo
    refine pre16 _ ?_
    refine XS.istore X16.here hx rfl (hb hby at_64) rfl (l' := #[.val (.int x0), .val (.int x1), .val (.int x2), .val (.int x3), .val (.int x4), .val (.int x5), .val (.int sf), .val (.int stt), .val (.int lf1), .val (.int lt1), .val (.int lf2), .unset, .unset, .unset, .unset, .unset, .unset, .unset, .unset, .unset, .unset, .unset]) rfl ?_
    show Steps p.tables e below (T16.setTop (mkF m 66 #[.val (.int x0), .val (.int x1), .val (.int x2), .val (.int x3), .val (.int x4), .val (.int x5), .val (.int sf), .val (.int stt), .val (.int lf1), .val (.int lt1), .val (.int lf2), .unset, .unset, .unset, .unset, .unset, .unset, .unset, .unset, .unset, .unset, .unset] [])) _
    refine XS.iload X16.here hx rfl (hb hby at_66) rfl ?_
    show Steps p.tables e below (T16.setTop (mkF m 68 #[.val (.int x0), .val (.int x1), .val (.int x2), .val (.int x3), .val (.int x4), .val (.int x5), .val (.int sf), .val (.int stt), .val (.int lf1), .val (.int lt1), .val (.int lf2), .unset, .unset, .unset, .unset, .unset, .unset, .unset, .unset, .unset, .unset, .unset] [(.int stt)])) _
    exact kgo
  obtain ⟨T21, lo21, lt2, X21, e21, N21, hlt2, pre21⟩ : ∃ (T' : State) (lo21 : List Loc) (lt2 : Int32), Stand p l e room_1 (s.setVm s.vm) m #[(.int x0), (.int x1), (.int x2), (.int x3), (.int x4), (.int x5)] below meth c T' lo21 0 0 ∧ T'.heap = h0 ∧ Fr n0 lo21 ∧ lt2 = (if stt = (0 : Int32) then ((((x4.toUInt32 >>> ((6 : Int32) &&& 31).toUInt32).toInt32) &&& (3 : Int32)) % (3 : Int32)) else lt1) ∧ ∀ tgt, Steps p.tables e below (T'.setTop (mkF m 85 #[.val (.int x0), .val (.int x1), .val (.int x2), .val (.int x3), .val (.int x4), .val (.int x5), .val (.int sf), .val (.int stt), .val (.int lf1), .val (.int lt1), .val (.int lf2), .unset, .unset, .unset, .unset, .unset, .unset, .unset, .unset, .unset, .unset, .unset] [(.int lt2)])) tgt → Steps p.tables e below (s₁.setTop (entryFrame m #[(.int x0), (.int x1), (.int x2), (.int x3), (.int x4), (.int x5)] maxLocals)) tgt := by
    by_cases hc68_22 : stt = (0 : Int32)
    · have pre23 : ∀ tgt, Steps p.tables e below (T16.setTop (mkF m 85 #[.val (.int x0), .val (.int x1), .val (.int x2), .val (.int x3), .val (.int x4), .val (.int x5), .val (.int sf), .val (.int stt), .val (.int lf1), .val (.int lt1), .val (.int lf2), .unset, .unset, .unset, .unset, .unset, .unset, .unset, .unset, .unset, .unset, .unset] [(.int ((((x4.toUInt32 >>> ((6 : Int32) &&& 31).toUInt32).toInt32) &&& (3 : Int32)) % (3 : Int32)))])) tgt → Steps p.tables e below (s₁.setTop (entryFrame m #[(.int x0), (.int x1), (.int x2), (.int x3), (.int x4), (.int x5)] maxLocals)) tgt := by
        intro tgt kgo
        refine pre20 _ ?_
        refine XS.ifYes X16.here hx rfl (pc0 := 68) (pc' := 76) rfl (hb hby at_68) rfl ((if0 _ _).trans (teq hc68_22).1) (by decide) (by decide) ?_
        show Steps p.tables e below (T16.setTop (mkF m 76 #[.val (.int x0), .val (.int x1), .val (.int x2), .val (.int x3), .val (.int x4), .val (.int x5), .val (.int sf), .val (.int stt), .val (.int lf1), .val (.int lt1), .val (.int lf2), .unset, .unset, .unset, .unset, .unset, .unset, .unset, .unset, .unset, .unset, .unset] [])) _
        refine XS.iload X16.here hx rfl (hb hby at_76) rfl ?_
        show Steps p.tables e below (T16.setTop (mkF m 78 #[.val (.int x0), .val (.int x1), .val (.int x2), .val (.int x3), .val (.int x4), .val (.int x5), .val (.int sf), .val (.int stt), .val (.int lf1), .val (.int lt1), .val (.int lf2), .unset, .unset, .unset, .unset, .unset, .unset, .unset, .unset, .unset, .unset, .unset] [(.int x4)])) _
        refine XS.bipush X16.here hx rfl (hb hby at_78) ?_
        show Steps p.tables e below (T16.setTop (mkF m 80 #[.val (.int x0), .val (.int x1), .val (.int x2), .val (.int x3), .val (.int x4), .val (.int x5), .val (.int sf), .val (.int stt), .val (.int lf1), .val (.int lt1), .val (.int lf2), .unset, .unset, .unset, .unset, .unset, .unset, .unset, .unset, .unset, .unset, .unset] [(.int (6 : Int32)), (.int x4)])) _
        refine XS.iushr X16.here hx rfl (hb hby at_80) rfl ?_
        show Steps p.tables e below (T16.setTop (mkF m 81 #[.val (.int x0), .val (.int x1), .val (.int x2), .val (.int x3), .val (.int x4), .val (.int x5), .val (.int sf), .val (.int stt), .val (.int lf1), .val (.int lt1), .val (.int lf2), .unset, .unset, .unset, .unset, .unset, .unset, .unset, .unset, .unset, .unset, .unset] [(.int ((x4.toUInt32 >>> ((6 : Int32) &&& 31).toUInt32).toInt32))])) _
        refine XS.iconst X16.here hx rfl (hb hby at_81) ?_
        show Steps p.tables e below (T16.setTop (mkF m 82 #[.val (.int x0), .val (.int x1), .val (.int x2), .val (.int x3), .val (.int x4), .val (.int x5), .val (.int sf), .val (.int stt), .val (.int lf1), .val (.int lt1), .val (.int lf2), .unset, .unset, .unset, .unset, .unset, .unset, .unset, .unset, .unset, .unset, .unset] [(.int (3 : Int32)), (.int ((x4.toUInt32 >>> ((6 : Int32) &&& 31).toUInt32).toInt32))])) _
        refine XS.iand X16.here hx rfl (hb hby at_82) rfl ?_
        show Steps p.tables e below (T16.setTop (mkF m 83 #[.val (.int x0), .val (.int x1), .val (.int x2), .val (.int x3), .val (.int x4), .val (.int x5), .val (.int sf), .val (.int stt), .val (.int lf1), .val (.int lt1), .val (.int lf2), .unset, .unset, .unset, .unset, .unset, .unset, .unset, .unset, .unset, .unset, .unset] [(.int (((x4.toUInt32 >>> ((6 : Int32) &&& 31).toUInt32).toInt32) &&& (3 : Int32)))])) _
        refine XS.iconst X16.here hx rfl (hb hby at_83) ?_
        show Steps p.tables e below (T16.setTop (mkF m 84 #[.val (.int x0), .val (.int x1), .val (.int x2), .val (.int x3), .val (.int x4), .val (.int x5), .val (.int sf), .val (.int stt), .val (.int lf1), .val (.int lt1), .val (.int lf2), .unset, .unset, .unset, .unset, .unset, .unset, .unset, .unset, .unset, .unset, .unset] [(.int (3 : Int32)), (.int (((x4.toUInt32 >>> ((6 : Int32) &&& 31).toUInt32).toInt32) &&& (3 : Int32)))])) _
        refine iremM (g := (mkF m 84 #[.val (.int x0), .val (.int x1), .val (.int x2), .val (.int x3), .val (.int x4), .val (.int x5), .val (.int sf), .val (.int stt), .val (.int lf1), .val (.int lt1), .val (.int lf2), .unset, .unset, .unset, .unset, .unset, .unset, .unset, .unset, .unset, .unset, .unset] [(.int (3 : Int32)), (.int (((x4.toUInt32 >>> ((6 : Int32) &&& 31).toUInt32).toInt32) &&& (3 : Int32)))])) X16 hx rfl (hb hby at_84) rfl (by decide) ?_
        show Steps p.tables e below (T16.setTop (mkF m 85 #[.val (.int x0), .val (.int x1), .val (.int x2), .val (.int x3), .val (.int x4), .val (.int x5), .val (.int sf), .val (.int stt), .val (.int lf1), .val (.int lt1), .val (.int lf2), .unset, .unset, .unset, .unset, .unset, .unset, .unset, .unset, .unset, .unset, .unset] [(.int ((((x4.toUInt32 >>> ((6 : Int32) &&& 31).toUInt32).toInt32) &&& (3 : Int32)) % (3 : Int32)))])) _
        exact kgo
      exact ⟨T16, _, ((((x4.toUInt32 >>> ((6 : Int32) &&& 31).toUInt32).toInt32) &&& (3 : Int32)) % (3 : Int32)), X16, e16, N16, (by simp only [if_pos hc68_22]), pre23⟩
    · have pre24 : ∀ tgt, Steps p.tables e below (T16.setTop (mkF m 85 #[.val (.int x0), .val (.int x1), .val (.int x2), .val (.int x3), .val (.int x4), .val (.int x5), .val (.int sf), .val (.int stt), .val (.int lf1), .val (.int lt1), .val (.int lf2), .unset, .unset, .unset, .unset, .unset, .unset, .unset, .unset, .unset, .unset, .unset] [(.int lt1)])) tgt → Steps p.tables e below (s₁.setTop (entryFrame m #[(.int x0), (.int x1), (.int x2), (.int x3), (.int x4), (.int x5)] maxLocals)) tgt := by
        intro tgt kgo
        refine pre20 _ ?_
        refine XS.ifNo X16.here hx rfl (hb hby at_68) rfl ((if0 _ _).trans (feq hc68_22).1) ?_
        show Steps p.tables e below (T16.setTop (mkF m 71 #[.val (.int x0), .val (.int x1), .val (.int x2), .val (.int x3), .val (.int x4), .val (.int x5), .val (.int sf), .val (.int stt), .val (.int lf1), .val (.int lt1), .val (.int lf2), .unset, .unset, .unset, .unset, .unset, .unset, .unset, .unset, .unset, .unset, .unset] [])) _
        refine XS.iload X16.here hx rfl (hb hby at_71) rfl ?_
        show Steps p.tables e below (T16.setTop (mkF m 73 #[.val (.int x0), .val (.int x1), .val (.int x2), .val (.int x3), .val (.int x4), .val (.int x5), .val (.int sf), .val (.int stt), .val (.int lf1), .val (.int lt1), .val (.int lf2), .unset, .unset, .unset, .unset, .unset, .unset, .unset, .unset, .unset, .unset, .unset] [(.int lt1)])) _
        refine XS.goto X16.here hx rfl (pc0 := 73) (pc' := 85) rfl (hb hby at_73) (by decide) (by decide) ?_
        show Steps p.tables e below (T16.setTop (mkF m 85 #[.val (.int x0), .val (.int x1), .val (.int x2), .val (.int x3), .val (.int x4), .val (.int x5), .val (.int sf), .val (.int stt), .val (.int lf1), .val (.int lt1), .val (.int lf2), .unset, .unset, .unset, .unset, .unset, .unset, .unset, .unset, .unset, .unset, .unset] [(.int lt1)])) _
        exact kgo
      exact ⟨T16, _, lt1, X16, e16, N16, (by simp only [if_neg hc68_22]), pre24⟩
  have pre25 : ∀ tgt, Steps p.tables e below (T21.setTop (mkF m 89 #[.val (.int x0), .val (.int x1), .val (.int x2), .val (.int x3), .val (.int x4), .val (.int x5), .val (.int sf), .val (.int stt), .val (.int lf1), .val (.int lt1), .val (.int lf2), .val (.int lt2), .unset, .unset, .unset, .unset, .unset, .unset, .unset, .unset, .unset, .unset] [(.int sf)])) tgt → Steps p.tables e below (s₁.setTop (entryFrame m #[(.int x0), (.int x1), (.int x2), (.int x3), (.int x4), (.int x5)] maxLocals)) tgt := by
    intro tgt kgo
    refine pre21 _ ?_
    refine XS.istore X21.here hx rfl (hb hby at_85) rfl (l' := #[.val (.int x0), .val (.int x1), .val (.int x2), .val (.int x3), .val (.int x4), .val (.int x5), .val (.int sf), .val (.int stt), .val (.int lf1), .val (.int lt1), .val (.int lf2), .val (.int lt2), .unset, .unset, .unset, .unset, .unset, .unset, .unset, .unset, .unset, .unset]) rfl ?_
    show Steps p.tables e below (T21.setTop (mkF m 87 #[.val (.int x0), .val (.int x1), .val (.int x2), .val (.int x3), .val (.int x4), .val (.int x5), .val (.int sf), .val (.int stt), .val (.int lf1), .val (.int lt1), .val (.int lf2), .val (.int lt2), .unset, .unset, .unset, .unset, .unset, .unset, .unset, .unset, .unset, .unset] [])) _
    refine XS.iload X21.here hx rfl (hb hby at_87) rfl ?_
    show Steps p.tables e below (T21.setTop (mkF m 89 #[.val (.int x0), .val (.int x1), .val (.int x2), .val (.int x3), .val (.int x4), .val (.int x5), .val (.int sf), .val (.int stt), .val (.int lf1), .val (.int lt1), .val (.int lf2), .val (.int lt2), .unset, .unset, .unset, .unset, .unset, .unset, .unset, .unset, .unset, .unset] [(.int sf)])) _
    exact kgo
  obtain ⟨T26, lo26, f2, X26, e26, N26, hf2, pre26⟩ : ∃ (T' : State) (lo26 : List Loc) (f2 : Int32), Stand p l e room_1 (s.setVm s.vm) m #[(.int x0), (.int x1), (.int x2), (.int x3), (.int x4), (.int x5)] below meth c T' lo26 0 0 ∧ T'.heap = h0 ∧ Fr n0 lo26 ∧ f2 = (if sf = (0 : Int32) then x1 else x0) ∧ ∀ tgt, Steps p.tables e below (T'.setTop (mkF m 97 #[.val (.int x0), .val (.int x1), .val (.int x2), .val (.int x3), .val (.int x4), .val (.int x5), .val (.int sf), .val (.int stt), .val (.int lf1), .val (.int lt1), .val (.int lf2), .val (.int lt2), .unset, .unset, .unset, .unset, .unset, .unset, .unset, .unset, .unset, .unset] [(.int f2)])) tgt → Steps p.tables e below (s₁.setTop (entryFrame m #[(.int x0), (.int x1), (.int x2), (.int x3), (.int x4), (.int x5)] maxLocals)) tgt := by
    by_cases hc89_27 : sf = (0 : Int32)
    · have pre28 : ∀ tgt, Steps p.tables e below (T21.setTop (mkF m 97 #[.val (.int x0), .val (.int x1), .val (.int x2), .val (.int x3), .val (.int x4), .val (.int x5), .val (.int sf), .val (.int stt), .val (.int lf1), .val (.int lt1), .val (.int lf2), .val (.int lt2), .unset, .unset, .unset, .unset, .unset, .unset, .unset, .unset, .unset, .unset] [(.int x1)])) tgt → Steps p.tables e below (s₁.setTop (entryFrame m #[(.int x0), (.int x1), (.int x2), (.int x3), (.int x4), (.int x5)] maxLocals)) tgt := by
        intro tgt kgo
        refine pre25 _ ?_
        refine XS.ifYes X21.here hx rfl (pc0 := 89) (pc' := 96) rfl (hb hby at_89) rfl ((if0 _ _).trans (teq hc89_27).1) (by decide) (by decide) ?_
        show Steps p.tables e below (T21.setTop (mkF m 96 #[.val (.int x0), .val (.int x1), .val (.int x2), .val (.int x3), .val (.int x4), .val (.int x5), .val (.int sf), .val (.int stt), .val (.int lf1), .val (.int lt1), .val (.int lf2), .val (.int lt2), .unset, .unset, .unset, .unset, .unset, .unset, .unset, .unset, .unset, .unset] [])) _
        refine XS.iloadN X21.here hx rfl (hb hby at_96) rfl ?_
        show Steps p.tables e below (T21.setTop (mkF m 97 #[.val (.int x0), .val (.int x1), .val (.int x2), .val (.int x3), .val (.int x4), .val (.int x5), .val (.int sf), .val (.int stt), .val (.int lf1), .val (.int lt1), .val (.int lf2), .val (.int lt2), .unset, .unset, .unset, .unset, .unset, .unset, .unset, .unset, .unset, .unset] [(.int x1)])) _
        exact kgo
      exact ⟨T21, _, x1, X21, e21, N21, (by simp only [if_pos hc89_27]), pre28⟩
    · have pre29 : ∀ tgt, Steps p.tables e below (T21.setTop (mkF m 97 #[.val (.int x0), .val (.int x1), .val (.int x2), .val (.int x3), .val (.int x4), .val (.int x5), .val (.int sf), .val (.int stt), .val (.int lf1), .val (.int lt1), .val (.int lf2), .val (.int lt2), .unset, .unset, .unset, .unset, .unset, .unset, .unset, .unset, .unset, .unset] [(.int x0)])) tgt → Steps p.tables e below (s₁.setTop (entryFrame m #[(.int x0), (.int x1), (.int x2), (.int x3), (.int x4), (.int x5)] maxLocals)) tgt := by
        intro tgt kgo
        refine pre25 _ ?_
        refine XS.ifNo X21.here hx rfl (hb hby at_89) rfl ((if0 _ _).trans (feq hc89_27).1) ?_
        show Steps p.tables e below (T21.setTop (mkF m 92 #[.val (.int x0), .val (.int x1), .val (.int x2), .val (.int x3), .val (.int x4), .val (.int x5), .val (.int sf), .val (.int stt), .val (.int lf1), .val (.int lt1), .val (.int lf2), .val (.int lt2), .unset, .unset, .unset, .unset, .unset, .unset, .unset, .unset, .unset, .unset] [])) _
        refine XS.iloadN X21.here hx rfl (hb hby at_92) rfl ?_
        show Steps p.tables e below (T21.setTop (mkF m 93 #[.val (.int x0), .val (.int x1), .val (.int x2), .val (.int x3), .val (.int x4), .val (.int x5), .val (.int sf), .val (.int stt), .val (.int lf1), .val (.int lt1), .val (.int lf2), .val (.int lt2), .unset, .unset, .unset, .unset, .unset, .unset, .unset, .unset, .unset, .unset] [(.int x0)])) _
        refine XS.goto X21.here hx rfl (pc0 := 93) (pc' := 97) rfl (hb hby at_93) (by decide) (by decide) ?_
        show Steps p.tables e below (T21.setTop (mkF m 97 #[.val (.int x0), .val (.int x1), .val (.int x2), .val (.int x3), .val (.int x4), .val (.int x5), .val (.int sf), .val (.int stt), .val (.int lf1), .val (.int lt1), .val (.int lf2), .val (.int lt2), .unset, .unset, .unset, .unset, .unset, .unset, .unset, .unset, .unset, .unset] [(.int x0)])) _
        exact kgo
      exact ⟨T21, _, x0, X21, e21, N21, (by simp only [if_neg hc89_27]), pre29⟩
  have pre30 : ∀ tgt, Steps p.tables e below (T26.setTop (mkF m 101 #[.val (.int x0), .val (.int x1), .val (.int x2), .val (.int x3), .val (.int x4), .val (.int x5), .val (.int sf), .val (.int stt), .val (.int lf1), .val (.int lt1), .val (.int lf2), .val (.int lt2), .val (.int f2), .unset, .unset, .unset, .unset, .unset, .unset, .unset, .unset, .unset] [(.int stt)])) tgt → Steps p.tables e below (s₁.setTop (entryFrame m #[(.int x0), (.int x1), (.int x2), (.int x3), (.int x4), (.int x5)] maxLocals)) tgt := by
    intro tgt kgo
    refine pre26 _ ?_
    refine XS.istore X26.here hx rfl (hb hby at_97) rfl (l' := #[.val (.int x0), .val (.int x1), .val (.int x2), .val (.int x3), .val (.int x4), .val (.int x5), .val (.int sf), .val (.int stt), .val (.int lf1), .val (.int lt1), .val (.int lf2), .val (.int lt2), .val (.int f2), .unset, .unset, .unset, .unset, .unset, .unset, .unset, .unset, .unset]) rfl ?_
    show Steps p.tables e below (T26.setTop (mkF m 99 #[.val (.int x0), .val (.int x1), .val (.int x2), .val (.int x3), .val (.int x4), .val (.int x5), .val (.int sf), .val (.int stt), .val (.int lf1), .val (.int lt1), .val (.int lf2), .val (.int lt2), .val (.int f2), .unset, .unset, .unset, .unset, .unset, .unset, .unset, .unset, .unset] [])) _
    refine XS.iload X26.here hx rfl (hb hby at_99) rfl ?_
    show Steps p.tables e below (T26.setTop (mkF m 101 #[.val (.int x0), .val (.int x1), .val (.int x2), .val (.int x3), .val (.int x4), .val (.int x5), .val (.int sf), .val (.int stt), .val (.int lf1), .val (.int lt1), .val (.int lf2), .val (.int lt2), .val (.int f2), .unset, .unset, .unset, .unset, .unset, .unset, .unset, .unset, .unset] [(.int stt)])) _
    exact kgo
  obtain ⟨T31, lo31, t2, X31, e31, N31, ht2, pre31⟩ : ∃ (T' : State) (lo31 : List Loc) (t2 : Int32), Stand p l e room_1 (s.setVm s.vm) m #[(.int x0), (.int x1), (.int x2), (.int x3), (.int x4), (.int x5)] below meth c T' lo31 0 0 ∧ T'.heap = h0 ∧ Fr n0 lo31 ∧ t2 = (if stt = (0 : Int32) then x3 else x2) ∧ ∀ tgt, Steps p.tables e below (T'.setTop (mkF m 109 #[.val (.int x0), .val (.int x1), .val (.int x2), .val (.int x3), .val (.int x4), .val (.int x5), .val (.int sf), .val (.int stt), .val (.int lf1), .val (.int lt1), .val (.int lf2), .val (.int lt2), .val (.int f2), .unset, .unset, .unset, .unset, .unset, .unset, .unset, .unset, .unset] [(.int t2)])) tgt → Steps p.tables e below (s₁.setTop (entryFrame m #[(.int x0), (.int x1), (.int x2), (.int x3), (.int x4), (.int x5)] maxLocals)) tgt := by
    by_cases hc101_32 : stt = (0 : Int32)
    · have pre33 : ∀ tgt, Steps p.tables e below (T26.setTop (mkF m 109 #[.val (.int x0), .val (.int x1), .val (.int x2), .val (.int x3), .val (.int x4), .val (.int x5), .val (.int sf), .val (.int stt), .val (.int lf1), .val (.int lt1), .val (.int lf2), .val (.int lt2), .val (.int f2), .unset, .unset, .unset, .unset, .unset, .unset, .unset, .unset, .unset] [(.int x3)])) tgt → Steps p.tables e below (s₁.setTop (entryFrame m #[(.int x0), (.int x1), (.int x2), (.int x3), (.int x4), (.int x5)] maxLocals)) tgt := by
        intro tgt kgo
        refine pre30 _ ?_
        refine XS.ifYes X26.here hx rfl (pc0 := 101) (pc' := 108) rfl (hb hby at_101) rfl ((if0 _ _).trans (teq hc101_32).1) (by decide) (by decide) ?_
        show Steps p.tables e below (T26.setTop (mkF m 108 #[.val (.int x0), .val (.int x1), .val (.int x2), .val (.int x3), .val (.int x4), .val (.int x5), .val (.int sf), .val (.int stt), .val (.int lf1), .val (.int lt1), .val (.int lf2), .val (.int lt2), .val (.int f2), .unset, .unset, .unset, .unset, .unset, .unset, .unset, .unset, .unset] [])) _
        refine XS.iloadN X26.here hx rfl (hb hby at_108) rfl ?_
        show Steps p.tables e below (T26.setTop (mkF m 109 #[.val (.int x0), .val (.int x1), .val (.int x2), .val (.int x3), .val (.int x4), .val (.int x5), .val (.int sf), .val (.int stt), .val (.int lf1), .val (.int lt1), .val (.int lf2), .val (.int lt2), .val (.int f2), .unset, .unset, .unset, .unset, .unset, .unset, .unset, .unset, .unset] [(.int x3)])) _
        exact kgo
      exact ⟨T26, _, x3, X26, e26, N26, (by simp only [if_pos hc101_32]), pre33⟩
    · have pre34 : ∀ tgt, Steps p.tables e below (T26.setTop (mkF m 109 #[.val (.int x0), .val (.int x1), .val (.int x2), .val (.int x3), .val (.int x4), .val (.int x5), .val (.int sf), .val (.int stt), .val (.int lf1), .val (.int lt1), .val (.int lf2), .val (.int lt2), .val (.int f2), .unset, .unset, .unset, .unset, .unset, .unset, .unset, .unset, .unset] [(.int x2)])) tgt → Steps p.tables e below (s₁.setTop (entryFrame m #[(.int x0), (.int x1), (.int x2), (.int x3), (.int x4), (.int x5)] maxLocals)) tgt := by
        intro tgt kgo
        refine pre30 _ ?_
        refine XS.ifNo X26.here hx rfl (hb hby at_101) rfl ((if0 _ _).trans (feq hc101_32).1) ?_
        show Steps p.tables e below (T26.setTop (mkF m 104 #[.val (.int x0), .val (.int x1), .val (.int x2), .val (.int x3), .val (.int x4), .val (.int x5), .val (.int sf), .val (.int stt), .val (.int lf1), .val (.int lt1), .val (.int lf2), .val (.int lt2), .val (.int f2), .unset, .unset, .unset, .unset, .unset, .unset, .unset, .unset, .unset] [])) _
        refine XS.iloadN X26.here hx rfl (hb hby at_104) rfl ?_
        show Steps p.tables e below (T26.setTop (mkF m 105 #[.val (.int x0), .val (.int x1), .val (.int x2), .val (.int x3), .val (.int x4), .val (.int x5), .val (.int sf), .val (.int stt), .val (.int lf1), .val (.int lt1), .val (.int lf2), .val (.int lt2), .val (.int f2), .unset, .unset, .unset, .unset, .unset, .unset, .unset, .unset, .unset] [(.int x2)])) _
        refine XS.goto X26.here hx rfl (pc0 := 105) (pc' := 109) rfl (hb hby at_105) (by decide) (by decide) ?_
        show Steps p.tables e below (T26.setTop (mkF m 109 #[.val (.int x0), .val (.int x1), .val (.int x2), .val (.int x3), .val (.int x4), .val (.int x5), .val (.int sf), .val (.int stt), .val (.int lf1), .val (.int lt1), .val (.int lf2), .val (.int lt2), .val (.int f2), .unset, .unset, .unset, .unset, .unset, .unset, .unset, .unset, .unset] [(.int x2)])) _
        exact kgo
      exact ⟨T26, _, x2, X26, e26, N26, (by simp only [if_neg hc101_32]), pre34⟩
  obtain ⟨_, _, ⟨T35, L35, k35, n35⟩, -, Xr35, hSr35, hgr35, ⟨Lc35, hQ35, l35, y35, z35, CR35⟩, st35⟩ := callSS X31 hx (y := (⟨"com/example/verdictd/verdictd/RolePairEqualsPinLaw", "mk", "(II)Ljava/lang/String;"⟩ : MethodName)) hown (mvT hZ (ow0 hw)) (mvT hZ (ow1 hw)) (mvT hZ (ow2 hw)) (mvT hZ (ow3 hw)) (by decide) (backOfSH (W := 0) (rmmk l Z a0 hw [] lf1 x0 G1 h0 n0 O0 O2 P5) hZ (ow3 hw) (ow2 hw) (by decide) (by decide) (own_EW hw) CH0.1) (g := (mkF m 114 #[.val (.int x0), .val (.int x1), .val (.int x2), .val (.int x3), .val (.int x4), .val (.int x5), .val (.int sf), .val (.int stt), .val (.int lf1), .val (.int lt1), .val (.int lf2), .val (.int lt2), .val (.int f2), .val (.int t2), .unset, .unset, .unset, .unset, .unset, .unset, .unset, .unset] [(.int x0), (.int lf1)])) rfl (by rw [hml]; rfl) (argsL := [(.int lf1), (.int x0)]) (rest := []) (lenOf pd3 rfl) rfl (by show 2 * 0 + _ ≤ _; exact Nat.le_of_eq rfl) (hb hby at_114) (fun _ _ => ⟨rfl, e31, (by decide : 0 + 6 ≤ _), (by decide : 0 + 12 ≤ _)⟩)
  dsimp only [Pt.U, Pt.locs, Pt.cells, Pt.slots] at Xr35 hSr35 hgr35 l35 y35 z35 CR35 st35 hQ35
  subst l35 y35 z35
  obtain ⟨X35, hS35, hZ35, hown35⟩ := rebS hS0 (by rw [e31]; exact hk0) Xr35 hSr35 hgr35 hZ hown
  have hk35 : T35.heap.size ≤ T35.heap.size := Nat.le_refl _
  obtain ⟨sb35, rfl, Nq35, kp35, gb35, sE35, sC35, sp35, sl35, sd35, sk35, sV35, sA35⟩ := hQ35
  have N36 := Fr.app N31 Nq35
  have CH37 := CH0.trans CR35
  have O38 := O0.keep kp35 all0
  obtain ⟨_, _, ⟨T39, L39, k39, n39⟩, -, Xr39, hSr39, hgr39, ⟨Lc39, hQ39, l39, y39, z39, CR39⟩, st39⟩ := callSS X35 hx (y := (⟨"com/example/verdictd/verdictd/RolePairEqualsPinLaw", "mk", "(II)Ljava/lang/String;"⟩ : MethodName)) hown35 (mvT hZ35 (ow0 hw)) (mvT hZ35 (ow1 hw)) (mvT hZ35 (ow2 hw)) (mvT hZ35 (ow3 hw)) (by decide) (backOfSH (W := 0) (rmmk l Z a0 hw [] lt1 x2 G1 T35.heap n0 O38 O2 P5) hZ35 (ow3 hw) (ow2 hw) (by decide) (by decide) (own_EW hw) CH37.1) (g := (mkF m 122 #[.val (.int x0), .val (.int x1), .val (.int x2), .val (.int x3), .val (.int x4), .val (.int x5), .val (.int sf), .val (.int stt), .val (.int lf1), .val (.int lt1), .val (.int lf2), .val (.int lt2), .val (.int f2), .val (.int t2), .val (.ref sb35), .unset, .unset, .unset, .unset, .unset, .unset, .unset] [(.int x2), (.int lt1)])) rfl (by rw [hml]; rfl) (argsL := [(.int lt1), (.int x2)]) (rest := []) (lenOf pd3 rfl) rfl (by show 2 * 0 + _ ≤ _; exact Nat.le_of_eq rfl) (hb hby at_122) (fun _ _ => ⟨rfl, rfl, (by decide : 6 + 6 ≤ _), (by decide : 12 + 12 ≤ _)⟩)
  dsimp only [Pt.U, Pt.locs, Pt.cells, Pt.slots] at Xr39 hSr39 hgr39 l39 y39 z39 CR39 st39 hQ39
  subst l39 y39 z39
  obtain ⟨X39, hS39, hZ39, hown39⟩ := rebS hS35 hk35 Xr39 hSr39 hgr39 hZ35 hown35
  have hk39 : T39.heap.size ≤ T39.heap.size := Nat.le_refl _
  obtain ⟨sb39, rfl, Nq39, kp39, gb39, sE39, sC39, sp39, sl39, sd39, sk39, sV39, sA39⟩ := hQ39
  have N40 := Fr.app N36 Nq39
  have CH41 := CH37.trans CR39
  have O42 := O38.keep kp39 all0
  obtain ⟨_, _, ⟨T43, L43, k43, n43⟩, -, Xr43, hSr43, hgr43, ⟨Lc43, hQ43, l43, y43, z43, CR43⟩, st43⟩ := callSS X39 hx (y := (⟨"com/example/verdictd/verdictd/RolePairEqualsPinLaw", "mk", "(II)Ljava/lang/String;"⟩ : MethodName)) hown39 (mvT hZ39 (ow0 hw)) (mvT hZ39 (ow1 hw)) (mvT hZ39 (ow2 hw)) (mvT hZ39 (ow3 hw)) (by decide) (backOfSH (W := 0) (rmmk l Z a0 hw [] lf2 f2 G1 T39.heap n0 O42 O2 P5) hZ39 (ow3 hw) (ow2 hw) (by decide) (by decide) (own_EW hw) CH41.1) (g := (mkF m 131 #[.val (.int x0), .val (.int x1), .val (.int x2), .val (.int x3), .val (.int x4), .val (.int x5), .val (.int sf), .val (.int stt), .val (.int lf1), .val (.int lt1), .val (.int lf2), .val (.int lt2), .val (.int f2), .val (.int t2), .val (.ref sb35), .val (.ref sb39), .unset, .unset, .unset, .unset, .unset, .unset] [(.int f2), (.int lf2)])) rfl (by rw [hml]; rfl) (argsL := [(.int lf2), (.int f2)]) (rest := []) (lenOf pd3 rfl) rfl (by show 2 * 0 + _ ≤ _; exact Nat.le_of_eq rfl) (hb hby at_131) (fun _ _ => ⟨rfl, rfl, (by decide : 12 + 6 ≤ _), (by decide : 24 + 12 ≤ _)⟩)
  dsimp only [Pt.U, Pt.locs, Pt.cells, Pt.slots] at Xr43 hSr43 hgr43 l43 y43 z43 CR43 st43 hQ43
  subst l43 y43 z43
  obtain ⟨X43, hS43, hZ43, hown43⟩ := rebS hS39 hk39 Xr43 hSr43 hgr43 hZ39 hown39
  have hk43 : T43.heap.size ≤ T43.heap.size := Nat.le_refl _
  obtain ⟨sb43, rfl, Nq43, kp43, gb43, sE43, sC43, sp43, sl43, sd43, sk43, sV43, sA43⟩ := hQ43
  have N44 := Fr.app N40 Nq43
  have CH45 := CH41.trans CR43
  have O46 := O42.keep kp43 all0
  obtain ⟨_, _, ⟨T47, L47, k47, n47⟩, -, Xr47, hSr47, hgr47, ⟨Lc47, hQ47, l47, y47, z47, CR47⟩, st47⟩ := callSS X43 hx (y := (⟨"com/example/verdictd/verdictd/RolePairEqualsPinLaw", "mk", "(II)Ljava/lang/String;"⟩ : MethodName)) hown43 (mvT hZ43 (ow0 hw)) (mvT hZ43 (ow1 hw)) (mvT hZ43 (ow2 hw)) (mvT hZ43 (ow3 hw)) (by decide) (backOfSH (W := 0) (rmmk l Z a0 hw [] lt2 t2 G1 T43.heap n0 O46 O2 P5) hZ43 (ow3 hw) (ow2 hw) (by decide) (by decide) (own_EW hw) CH45.1) (g := (mkF m 140 #[.val (.int x0), .val (.int x1), .val (.int x2), .val (.int x3), .val (.int x4), .val (.int x5), .val (.int sf), .val (.int stt), .val (.int lf1), .val (.int lt1), .val (.int lf2), .val (.int lt2), .val (.int f2), .val (.int t2), .val (.ref sb35), .val (.ref sb39), .val (.ref sb43), .unset, .unset, .unset, .unset, .unset] [(.int t2), (.int lt2)])) rfl (by rw [hml]; rfl) (argsL := [(.int lt2), (.int t2)]) (rest := []) (lenOf pd3 rfl) rfl (by show 2 * 0 + _ ≤ _; exact Nat.le_of_eq rfl) (hb hby at_140) (fun _ _ => ⟨rfl, rfl, (by decide : 18 + 6 ≤ _), (by decide : 36 + 12 ≤ _)⟩)
  dsimp only [Pt.U, Pt.locs, Pt.cells, Pt.slots] at Xr47 hSr47 hgr47 l47 y47 z47 CR47 st47 hQ47
  subst l47 y47 z47
  obtain ⟨X47, hS47, hZ47, hown47⟩ := rebS hS43 hk43 Xr47 hSr47 hgr47 hZ43 hown43
  have hk47 : T47.heap.size ≤ T47.heap.size := Nat.le_refl _
  obtain ⟨sb47, rfl, Nq47, kp47, gb47, sE47, sC47, sp47, sl47, sd47, sk47, sV47, sA47⟩ := hQ47
  have N48 := Fr.app N44 Nq47
  have CH49 := CH45.trans CR47
  have O50 := O46.keep kp47 all0
  have f51 := (((sE35.keep kp39).keep kp43).keep kp47)
  have f52 := (((sA35.keep kp39 nin0).keep kp43 nin0).keep kp47 nin0)
  have f53 := ((sE39.keep kp43).keep kp47)
  have f54 := ((sA39.keep kp43 nin0).keep kp47 nin0)
  have f55 := (sE43.keep kp47)
  have f56 := (sA43.keep kp47 nin0)
  obtain ⟨T57, h57, X57, e57, E57, A57, D57, U57, st57⟩ := newO X47 hx hZ47 hown47 (ow26 hw) (ow27 hw) (ow28 hw) rfl (g := (mkF m 145 #[.val (.int x0), .val (.int x1), .val (.int x2), .val (.int x3), .val (.int x4), .val (.int x5), .val (.int sf), .val (.int stt), .val (.int lf1), .val (.int lt1), .val (.int lf2), .val (.int lt2), .val (.int f2), .val (.int t2), .val (.ref sb35), .val (.ref sb39), .val (.ref sb43), .val (.ref sb47), .unset, .unset, .unset, .unset] [])) rfl (hb hby at_145) (by decide) (by decide)
  obtain ⟨b57, g57⟩ : ∃ z, z = T47.heap.size := ⟨_, rfl⟩
  rw [← g57] at A57 D57 U57 st57
  have gn57 : n0 ≤ b57 := Nat.le_trans (own_sz O50) (Nat.le_of_eq g57.symm)
  have nesb35_57 : sb35 ≠ b57 := Nat.ne_of_lt (Nat.lt_of_lt_of_le f51.lt (Nat.le_of_eq g57.symm))
  have nesd35_57 : sd35 ≠ b57 := Nat.ne_of_lt (Nat.lt_of_lt_of_le f52.lt (Nat.le_of_eq g57.symm))
  have nesb39_57 : sb39 ≠ b57 := Nat.ne_of_lt (Nat.lt_of_lt_of_le f53.lt (Nat.le_of_eq g57.symm))
  have nesd39_57 : sd39 ≠ b57 := Nat.ne_of_lt (Nat.lt_of_lt_of_le f54.lt (Nat.le_of_eq g57.symm))
  have nesb43_57 : sb43 ≠ b57 := Nat.ne_of_lt (Nat.lt_of_lt_of_le f55.lt (Nat.le_of_eq g57.symm))
  have nesd43_57 : sd43 ≠ b57 := Nat.ne_of_lt (Nat.lt_of_lt_of_le f56.lt (Nat.le_of_eq g57.symm))
  have nesb47_57 : sb47 ≠ b57 := Nat.ne_of_lt (Nat.lt_of_lt_of_le sE47.lt (Nat.le_of_eq g57.symm))
  have nesd47_57 : sd47 ≠ b57 := Nat.ne_of_lt (Nat.lt_of_lt_of_le sA47.lt (Nat.le_of_eq g57.symm))
  have Y57 := Safe.ext E57 CH49.1 (Safe.new (x := b57) (Nat.le_of_eq g57.symm))
  have CH58 := CH49.trans (CHr.ext E57 CH49.1)
  have hk58 := Nat.le_trans hk47 E57.1
  have O59 := O50.ext E57
  have Ffrom_57 : Fld Z h57 b57 "com/example/verdictd/verdictd/RolePair" "from" "Ljava/lang/String;" .null := D57 (Or.inr (ow34 hw)) (ty := (.object "java/lang/String")) (by decide)
  have Fto_57 : Fld Z h57 b57 "com/example/verdictd/verdictd/RolePair" "to" "Ljava/lang/String;" .null := D57 (Or.inr (ow36 hw)) (ty := (.object "java/lang/String")) (by decide)
  obtain ⟨_, _, ⟨T60, L60, k60, n60⟩, -, X60, ⟨Lc60, hQ60, l60, y60, z60⟩, st60⟩ := X57.specialBack hx (y := (⟨"com/example/verdictd/verdictd/RolePair", "<init>", "(Ljava/lang/String;Ljava/lang/String;)V"⟩ : MethodName)) rfl hown47 (mvT hZ47 (ow29 hw)) (mvT hZ47 (ow30 hw)) (mvT hZ47 (ow31 hw)) (by decide) (backOf (W := 1) (rmini l Z a0 hw [] b57 sb35 sb39  h57 n0 O59 A57 Ffrom_57 Fto_57 gn57) hZ47 (ow31 hw) (ow28 hw) (by decide) (by decide)) (g := (mkF m 153 #[.val (.int x0), .val (.int x1), .val (.int x2), .val (.int x3), .val (.int x4), .val (.int x5), .val (.int sf), .val (.int stt), .val (.int lf1), .val (.int lt1), .val (.int lf2), .val (.int lt2), .val (.int f2), .val (.int t2), .val (.ref sb35), .val (.ref sb39), .val (.ref sb43), .val (.ref sb47), .unset, .unset, .unset, .unset] [(.ref sb39), (.ref sb35), (.ref b57), (.ref b57)])) rfl (by rw [hml]; rfl) (Steps.refl _) (a := b57) (argsL := [(.ref sb35), (.ref sb39)]) (rest := [(.ref b57)]) (lenOf pd4 rfl) rfl (by show 2 * 0 + _ ≤ _; exact Nat.le_of_eq rfl) (hb hby at_153) (fun _ _ => ⟨rfl, e57, (by decide : 25 + 0 ≤ _), (by decide : 50 + 0 ≤ _)⟩)
  dsimp only [Pt.U, Pt.locs, Pt.cells, Pt.slots] at X60 l60 y60 z60 st60 hQ60
  subst l60 y60 z60
  obtain ⟨rfl, Nq60, kp60, Ff60, Ft60⟩ := hQ60
  have N61 := Fr.app N48 Nq60
  have CH62 := CH58.trans (CHr.keep kp60 (sfS Y57 sf0) CH58.1)
  have hk62 := Nat.le_trans hk58 kp60.1
  have O63 := O59.keep kp60 (allS gn57 all0)
  have f64 := ((f51.ext E57).keep kp60)
  have f65 := ((f52.ext E57).keep kp60 (ninS nesd35_57 nin0))
  have f66 := ((f53.ext E57).keep kp60)
  have f67 := ((f54.ext E57).keep kp60 (ninS nesd39_57 nin0))
  have f68 := ((f55.ext E57).keep kp60)
  have f69 := ((f56.ext E57).keep kp60 (ninS nesd43_57 nin0))
  have f70 := ((sE47.ext E57).keep kp60)
  have f71 := ((sA47.ext E57).keep kp60 (ninS nesd47_57 nin0))
  have f72 := (A57.keep kp60)
  obtain ⟨T73, h73, X73, e73, E73, A73, D73, U73, st73⟩ := newO X60 hx hZ47 hown47 (ow26 hw) (ow27 hw) (ow28 hw) rfl (g := (mkF m 158 #[.val (.int x0), .val (.int x1), .val (.int x2), .val (.int x3), .val (.int x4), .val (.int x5), .val (.int sf), .val (.int stt), .val (.int lf1), .val (.int lt1), .val (.int lf2), .val (.int lt2), .val (.int f2), .val (.int t2), .val (.ref sb35), .val (.ref sb39), .val (.ref sb43), .val (.ref sb47), .val (.ref b57), .unset, .unset, .unset] [])) rfl (hb hby at_158) (by decide) (by decide)
  obtain ⟨b73, g73⟩ : ∃ z, z = T60.heap.size := ⟨_, rfl⟩
  rw [← g73] at A73 D73 U73 st73
  have gn73 : n0 ≤ b73 := Nat.le_trans (own_sz O63) (Nat.le_of_eq g73.symm)
  have nesb35_73 : sb35 ≠ b73 := Nat.ne_of_lt (Nat.lt_of_lt_of_le f64.lt (Nat.le_of_eq g73.symm))
  have nesd35_73 : sd35 ≠ b73 := Nat.ne_of_lt (Nat.lt_of_lt_of_le f65.lt (Nat.le_of_eq g73.symm))
  have nesb39_73 : sb39 ≠ b73 := Nat.ne_of_lt (Nat.lt_of_lt_of_le f66.lt (Nat.le_of_eq g73.symm))
  have nesd39_73 : sd39 ≠ b73 := Nat.ne_of_lt (Nat.lt_of_lt_of_le f67.lt (Nat.le_of_eq g73.symm))
  have nesb43_73 : sb43 ≠ b73 := Nat.ne_of_lt (Nat.lt_of_lt_of_le f68.lt (Nat.le_of_eq g73.symm))
  have nesd43_73 : sd43 ≠ b73 := Nat.ne_of_lt (Nat.lt_of_lt_of_le f69.lt (Nat.le_of_eq g73.symm))
  have nesb47_73 : sb47 ≠ b73 := Nat.ne_of_lt (Nat.lt_of_lt_of_le f70.lt (Nat.le_of_eq g73.symm))
  have nesd47_73 : sd47 ≠ b73 := Nat.ne_of_lt (Nat.lt_of_lt_of_le f71.lt (Nat.le_of_eq g73.symm))
  have neb57_73 : b57 ≠ b73 := Nat.ne_of_lt (Nat.lt_of_lt_of_le f72.lt (Nat.le_of_eq g73.symm))
  have Y73 := Safe.ext E73 CH62.1 (Safe.new (x := b73) (Nat.le_of_eq g73.symm))
  have CH74 := CH62.trans (CHr.ext E73 CH62.1)
  have hk74 := Nat.le_trans hk62 E73.1
  have O75 := O63.ext E73
  have Ffrom_73 : Fld Z h73 b73 "com/example/verdictd/verdictd/RolePair" "from" "Ljava/lang/String;" .null := D73 (Or.inr (ow34 hw)) (ty := (.object "java/lang/String")) (by decide)
  have Fto_73 : Fld Z h73 b73 "com/example/verdictd/verdictd/RolePair" "to" "Ljava/lang/String;" .null := D73 (Or.inr (ow36 hw)) (ty := (.object "java/lang/String")) (by decide)
  obtain ⟨_, _, ⟨T76, L76, k76, n76⟩, -, X76, ⟨Lc76, hQ76, l76, y76, z76⟩, st76⟩ := X73.specialBack hx (y := (⟨"com/example/verdictd/verdictd/RolePair", "<init>", "(Ljava/lang/String;Ljava/lang/String;)V"⟩ : MethodName)) rfl hown47 (mvT hZ47 (ow29 hw)) (mvT hZ47 (ow30 hw)) (mvT hZ47 (ow31 hw)) (by decide) (backOf (W := 1) (rmini l Z a0 hw [] b73 sb43 sb47  h73 n0 O75 A73 Ffrom_73 Fto_73 gn73) hZ47 (ow31 hw) (ow28 hw) (by decide) (by decide)) (g := (mkF m 166 #[.val (.int x0), .val (.int x1), .val (.int x2), .val (.int x3), .val (.int x4), .val (.int x5), .val (.int sf), .val (.int stt), .val (.int lf1), .val (.int lt1), .val (.int lf2), .val (.int lt2), .val (.int f2), .val (.int t2), .val (.ref sb35), .val (.ref sb39), .val (.ref sb43), .val (.ref sb47), .val (.ref b57), .unset, .unset, .unset] [(.ref sb47), (.ref sb43), (.ref b73), (.ref b73)])) rfl (by rw [hml]; rfl) (Steps.refl _) (a := b73) (argsL := [(.ref sb43), (.ref sb47)]) (rest := [(.ref b73)]) (lenOf pd4 rfl) rfl (by show 2 * 0 + _ ≤ _; exact Nat.le_of_eq rfl) (hb hby at_166) (fun _ _ => ⟨rfl, e73, (by decide : 26 + 0 ≤ _), (by decide : 52 + 0 ≤ _)⟩)
  dsimp only [Pt.U, Pt.locs, Pt.cells, Pt.slots] at X76 l76 y76 z76 st76 hQ76
  subst l76 y76 z76
  obtain ⟨rfl, Nq76, kp76, Ff76, Ft76⟩ := hQ76
  have N77 := Fr.app N61 Nq76
  have CH78 := CH74.trans (CHr.keep kp76 (sfS Y73 sf0) CH74.1)
  have hk78 := Nat.le_trans hk74 kp76.1
  have O79 := O75.keep kp76 (allS gn73 all0)
  have pre80 : ∀ tgt, Steps p.tables e below (T76.setTop (mkF m 179 #[.val (.int x0), .val (.int x1), .val (.int x2), .val (.int x3), .val (.int x4), .val (.int x5), .val (.int sf), .val (.int stt), .val (.int lf1), .val (.int lt1), .val (.int lf2), .val (.int lt2), .val (.int f2), .val (.int t2), .val (.ref sb35), .val (.ref sb39), .val (.ref sb43), .val (.ref sb47), .val (.ref b57), .val (.ref b73), .val (.int (((x5.toUInt32 >>> ((2 : Int32) &&& 31).toUInt32).toInt32) &&& (3 : Int32))), .unset] [])) tgt → Steps p.tables e below (s₁.setTop (entryFrame m #[(.int x0), (.int x1), (.int x2), (.int x3), (.int x4), (.int x5)] maxLocals)) tgt := by
    intro tgt kgo
    refine pre31 _ ?_
    refine XS.istore X31.here hx rfl (hb hby at_109) rfl (l' := #[.val (.int x0), .val (.int x1), .val (.int x2), .val (.int x3), .val (.int x4), .val (.int x5), .val (.int sf), .val (.int stt), .val (.int lf1), .val (.int lt1), .val (.int lf2), .val (.int lt2), .val (.int f2), .val (.int t2), .unset, .unset, .unset, .unset, .unset, .unset, .unset, .unset]) rfl ?_
    show Steps p.tables e below (T31.setTop (mkF m 111 #[.val (.int x0), .val (.int x1), .val (.int x2), .val (.int x3), .val (.int x4), .val (.int x5), .val (.int sf), .val (.int stt), .val (.int lf1), .val (.int lt1), .val (.int lf2), .val (.int lt2), .val (.int f2), .val (.int t2), .unset, .unset, .unset, .unset, .unset, .unset, .unset, .unset] [])) _
    refine XS.iload X31.here hx rfl (hb hby at_111) rfl ?_
    show Steps p.tables e below (T31.setTop (mkF m 113 #[.val (.int x0), .val (.int x1), .val (.int x2), .val (.int x3), .val (.int x4), .val (.int x5), .val (.int sf), .val (.int stt), .val (.int lf1), .val (.int lt1), .val (.int lf2), .val (.int lt2), .val (.int f2), .val (.int t2), .unset, .unset, .unset, .unset, .unset, .unset, .unset, .unset] [(.int lf1)])) _
    refine XS.iloadN X31.here hx rfl (hb hby at_113) rfl ?_
    show Steps p.tables e below (T31.setTop (mkF m 114 #[.val (.int x0), .val (.int x1), .val (.int x2), .val (.int x3), .val (.int x4), .val (.int x5), .val (.int sf), .val (.int stt), .val (.int lf1), .val (.int lt1), .val (.int lf2), .val (.int lt2), .val (.int f2), .val (.int t2), .unset, .unset, .unset, .unset, .unset, .unset, .unset, .unset] [(.int x0), (.int lf1)])) _
    refine st35.trans ?_
    show Steps p.tables e below (T35.setTop (mkF m 117 #[.val (.int x0), .val (.int x1), .val (.int x2), .val (.int x3), .val (.int x4), .val (.int x5), .val (.int sf), .val (.int stt), .val (.int lf1), .val (.int lt1), .val (.int lf2), .val (.int lt2), .val (.int f2), .val (.int t2), .unset, .unset, .unset, .unset, .unset, .unset, .unset, .unset] [(.ref sb35)])) _
    refine XS.astore X35.here hx rfl (hb hby at_117) rfl rfl (l' := #[.val (.int x0), .val (.int x1), .val (.int x2), .val (.int x3), .val (.int x4), .val (.int x5), .val (.int sf), .val (.int stt), .val (.int lf1), .val (.int lt1), .val (.int lf2), .val (.int lt2), .val (.int f2), .val (.int t2), .val (.ref sb35), .unset, .unset, .unset, .unset, .unset, .unset, .unset]) rfl ?_
    show Steps p.tables e below (T35.setTop (mkF m 119 #[.val (.int x0), .val (.int x1), .val (.int x2), .val (.int x3), .val (.int x4), .val (.int x5), .val (.int sf), .val (.int stt), .val (.int lf1), .val (.int lt1), .val (.int lf2), .val (.int lt2), .val (.int f2), .val (.int t2), .val (.ref sb35), .unset, .unset, .unset, .unset, .unset, .unset, .unset] [])) _
    refine XS.iload X35.here hx rfl (hb hby at_119) rfl ?_
    show Steps p.tables e below (T35.setTop (mkF m 121 #[.val (.int x0), .val (.int x1), .val (.int x2), .val (.int x3), .val (.int x4), .val (.int x5), .val (.int sf), .val (.int stt), .val (.int lf1), .val (.int lt1), .val (.int lf2), .val (.int lt2), .val (.int f2), .val (.int t2), .val (.ref sb35), .unset, .unset, .unset, .unset, .unset, .unset, .unset] [(.int lt1)])) _
    refine XS.iloadN X35.here hx rfl (hb hby at_121) rfl ?_
    show Steps p.tables e below (T35.setTop (mkF m 122 #[.val (.int x0), .val (.int x1), .val (.int x2), .val (.int x3), .val (.int x4), .val (.int x5), .val (.int sf), .val (.int stt), .val (.int lf1), .val (.int lt1), .val (.int lf2), .val (.int lt2), .val (.int f2), .val (.int t2), .val (.ref sb35), .unset, .unset, .unset, .unset, .unset, .unset, .unset] [(.int x2), (.int lt1)])) _
    refine st39.trans ?_
    show Steps p.tables e below (T39.setTop (mkF m 125 #[.val (.int x0), .val (.int x1), .val (.int x2), .val (.int x3), .val (.int x4), .val (.int x5), .val (.int sf), .val (.int stt), .val (.int lf1), .val (.int lt1), .val (.int lf2), .val (.int lt2), .val (.int f2), .val (.int t2), .val (.ref sb35), .unset, .unset, .unset, .unset, .unset, .unset, .unset] [(.ref sb39)])) _
    refine XS.astore X39.here hx rfl (hb hby at_125) rfl rfl (l' := #[.val (.int x0), .val (.int x1), .val (.int x2), .val (.int x3), .val (.int x4), .val (.int x5), .val (.int sf), .val (.int stt), .val (.int lf1), .val (.int lt1), .val (.int lf2), .val (.int lt2), .val (.int f2), .val (.int t2), .val (.ref sb35), .val (.ref sb39), .unset, .unset, .unset, .unset, .unset, .unset]) rfl ?_
    show Steps p.tables e below (T39.setTop (mkF m 127 #[.val (.int x0), .val (.int x1), .val (.int x2), .val (.int x3), .val (.int x4), .val (.int x5), .val (.int sf), .val (.int stt), .val (.int lf1), .val (.int lt1), .val (.int lf2), .val (.int lt2), .val (.int f2), .val (.int t2), .val (.ref sb35), .val (.ref sb39), .unset, .unset, .unset, .unset, .unset, .unset] [])) _
    refine XS.iload X39.here hx rfl (hb hby at_127) rfl ?_
    show Steps p.tables e below (T39.setTop (mkF m 129 #[.val (.int x0), .val (.int x1), .val (.int x2), .val (.int x3), .val (.int x4), .val (.int x5), .val (.int sf), .val (.int stt), .val (.int lf1), .val (.int lt1), .val (.int lf2), .val (.int lt2), .val (.int f2), .val (.int t2), .val (.ref sb35), .val (.ref sb39), .unset, .unset, .unset, .unset, .unset, .unset] [(.int lf2)])) _
    refine XS.iload X39.here hx rfl (hb hby at_129) rfl ?_
    show Steps p.tables e below (T39.setTop (mkF m 131 #[.val (.int x0), .val (.int x1), .val (.int x2), .val (.int x3), .val (.int x4), .val (.int x5), .val (.int sf), .val (.int stt), .val (.int lf1), .val (.int lt1), .val (.int lf2), .val (.int lt2), .val (.int f2), .val (.int t2), .val (.ref sb35), .val (.ref sb39), .unset, .unset, .unset, .unset, .unset, .unset] [(.int f2), (.int lf2)])) _
    refine st43.trans ?_
    show Steps p.tables e below (T43.setTop (mkF m 134 #[.val (.int x0), .val (.int x1), .val (.int x2), .val (.int x3), .val (.int x4), .val (.int x5), .val (.int sf), .val (.int stt), .val (.int lf1), .val (.int lt1), .val (.int lf2), .val (.int lt2), .val (.int f2), .val (.int t2), .val (.ref sb35), .val (.ref sb39), .unset, .unset, .unset, .unset, .unset, .unset] [(.ref sb43)])) _
    refine XS.astore X43.here hx rfl (hb hby at_134) rfl rfl (l' := #[.val (.int x0), .val (.int x1), .val (.int x2), .val (.int x3), .val (.int x4), .val (.int x5), .val (.int sf), .val (.int stt), .val (.int lf1), .val (.int lt1), .val (.int lf2), .val (.int lt2), .val (.int f2), .val (.int t2), .val (.ref sb35), .val (.ref sb39), .val (.ref sb43), .unset, .unset, .unset, .unset, .unset]) rfl ?_
    show Steps p.tables e below (T43.setTop (mkF m 136 #[.val (.int x0), .val (.int x1), .val (.int x2), .val (.int x3), .val (.int x4), .val (.int x5), .val (.int sf), .val (.int stt), .val (.int lf1), .val (.int lt1), .val (.int lf2), .val (.int lt2), .val (.int f2), .val (.int t2), .val (.ref sb35), .val (.ref sb39), .val (.ref sb43), .unset, .unset, .unset, .unset, .unset] [])) _
    refine XS.iload X43.here hx rfl (hb hby at_136) rfl ?_
    show Steps p.tables e below (T43.setTop (mkF m 138 #[.val (.int x0), .val (.int x1), .val (.int x2), .val (.int x3), .val (.int x4), .val (.int x5), .val (.int sf), .val (.int stt), .val (.int lf1), .val (.int lt1), .val (.int lf2), .val (.int lt2), .val (.int f2), .val (.int t2), .val (.ref sb35), .val (.ref sb39), .val (.ref sb43), .unset, .unset, .unset, .unset, .unset] [(.int lt2)])) _
    refine XS.iload X43.here hx rfl (hb hby at_138) rfl ?_
    show Steps p.tables e below (T43.setTop (mkF m 140 #[.val (.int x0), .val (.int x1), .val (.int x2), .val (.int x3), .val (.int x4), .val (.int x5), .val (.int sf), .val (.int stt), .val (.int lf1), .val (.int lt1), .val (.int lf2), .val (.int lt2), .val (.int f2), .val (.int t2), .val (.ref sb35), .val (.ref sb39), .val (.ref sb43), .unset, .unset, .unset, .unset, .unset] [(.int t2), (.int lt2)])) _
    refine st47.trans ?_
    show Steps p.tables e below (T47.setTop (mkF m 143 #[.val (.int x0), .val (.int x1), .val (.int x2), .val (.int x3), .val (.int x4), .val (.int x5), .val (.int sf), .val (.int stt), .val (.int lf1), .val (.int lt1), .val (.int lf2), .val (.int lt2), .val (.int f2), .val (.int t2), .val (.ref sb35), .val (.ref sb39), .val (.ref sb43), .unset, .unset, .unset, .unset, .unset] [(.ref sb47)])) _
    refine XS.astore X47.here hx rfl (hb hby at_143) rfl rfl (l' := #[.val (.int x0), .val (.int x1), .val (.int x2), .val (.int x3), .val (.int x4), .val (.int x5), .val (.int sf), .val (.int stt), .val (.int lf1), .val (.int lt1), .val (.int lf2), .val (.int lt2), .val (.int f2), .val (.int t2), .val (.ref sb35), .val (.ref sb39), .val (.ref sb43), .val (.ref sb47), .unset, .unset, .unset, .unset]) rfl ?_
    show Steps p.tables e below (T47.setTop (mkF m 145 #[.val (.int x0), .val (.int x1), .val (.int x2), .val (.int x3), .val (.int x4), .val (.int x5), .val (.int sf), .val (.int stt), .val (.int lf1), .val (.int lt1), .val (.int lf2), .val (.int lt2), .val (.int f2), .val (.int t2), .val (.ref sb35), .val (.ref sb39), .val (.ref sb43), .val (.ref sb47), .unset, .unset, .unset, .unset] [])) _
    refine st57 _ ?_
    show Steps p.tables e below (T57.setTop (mkF m 148 #[.val (.int x0), .val (.int x1), .val (.int x2), .val (.int x3), .val (.int x4), .val (.int x5), .val (.int sf), .val (.int stt), .val (.int lf1), .val (.int lt1), .val (.int lf2), .val (.int lt2), .val (.int f2), .val (.int t2), .val (.ref sb35), .val (.ref sb39), .val (.ref sb43), .val (.ref sb47), .unset, .unset, .unset, .unset] [(.ref b57)])) _
    refine XS.dup X57.here hx rfl (hb hby at_148) rfl rfl ?_
    show Steps p.tables e below (T57.setTop (mkF m 149 #[.val (.int x0), .val (.int x1), .val (.int x2), .val (.int x3), .val (.int x4), .val (.int x5), .val (.int sf), .val (.int stt), .val (.int lf1), .val (.int lt1), .val (.int lf2), .val (.int lt2), .val (.int f2), .val (.int t2), .val (.ref sb35), .val (.ref sb39), .val (.ref sb43), .val (.ref sb47), .unset, .unset, .unset, .unset] [(.ref b57), (.ref b57)])) _
    refine XS.aload X57.here hx rfl (hb hby at_149) rfl rfl ?_
    show Steps p.tables e below (T57.setTop (mkF m 151 #[.val (.int x0), .val (.int x1), .val (.int x2), .val (.int x3), .val (.int x4), .val (.int x5), .val (.int sf), .val (.int stt), .val (.int lf1), .val (.int lt1), .val (.int lf2), .val (.int lt2), .val (.int f2), .val (.int t2), .val (.ref sb35), .val (.ref sb39), .val (.ref sb43), .val (.ref sb47), .unset, .unset, .unset, .unset] [(.ref sb35), (.ref b57), (.ref b57)])) _
    refine XS.aload X57.here hx rfl (hb hby at_151) rfl rfl ?_
    show Steps p.tables e below (T57.setTop (mkF m 153 #[.val (.int x0), .val (.int x1), .val (.int x2), .val (.int x3), .val (.int x4), .val (.int x5), .val (.int sf), .val (.int stt), .val (.int lf1), .val (.int lt1), .val (.int lf2), .val (.int lt2), .val (.int f2), .val (.int t2), .val (.ref sb35), .val (.ref sb39), .val (.ref sb43), .val (.ref sb47), .unset, .unset, .unset, .unset] [(.ref sb39), (.ref sb35), (.ref b57), (.ref b57)])) _
    refine st60.trans ?_
    show Steps p.tables e below (T60.setTop (mkF m 156 #[.val (.int x0), .val (.int x1), .val (.int x2), .val (.int x3), .val (.int x4), .val (.int x5), .val (.int sf), .val (.int stt), .val (.int lf1), .val (.int lt1), .val (.int lf2), .val (.int lt2), .val (.int f2), .val (.int t2), .val (.ref sb35), .val (.ref sb39), .val (.ref sb43), .val (.ref sb47), .unset, .unset, .unset, .unset] [(.ref b57)])) _
    refine XS.astore X60.here hx rfl (hb hby at_156) rfl rfl (l' := #[.val (.int x0), .val (.int x1), .val (.int x2), .val (.int x3), .val (.int x4), .val (.int x5), .val (.int sf), .val (.int stt), .val (.int lf1), .val (.int lt1), .val (.int lf2), .val (.int lt2), .val (.int f2), .val (.int t2), .val (.ref sb35), .val (.ref sb39), .val (.ref sb43), .val (.ref sb47), .val (.ref b57), .unset, .unset, .unset]) rfl ?_
    show Steps p.tables e below (T60.setTop (mkF m 158 #[.val (.int x0), .val (.int x1), .val (.int x2), .val (.int x3), .val (.int x4), .val (.int x5), .val (.int sf), .val (.int stt), .val (.int lf1), .val (.int lt1), .val (.int lf2), .val (.int lt2), .val (.int f2), .val (.int t2), .val (.ref sb35), .val (.ref sb39), .val (.ref sb43), .val (.ref sb47), .val (.ref b57), .unset, .unset, .unset] [])) _
    refine st73 _ ?_
    show Steps p.tables e below (T73.setTop (mkF m 161 #[.val (.int x0), .val (.int x1), .val (.int x2), .val (.int x3), .val (.int x4), .val (.int x5), .val (.int sf), .val (.int stt), .val (.int lf1), .val (.int lt1), .val (.int lf2), .val (.int lt2), .val (.int f2), .val (.int t2), .val (.ref sb35), .val (.ref sb39), .val (.ref sb43), .val (.ref sb47), .val (.ref b57), .unset, .unset, .unset] [(.ref b73)])) _
    refine XS.dup X73.here hx rfl (hb hby at_161) rfl rfl ?_
    show Steps p.tables e below (T73.setTop (mkF m 162 #[.val (.int x0), .val (.int x1), .val (.int x2), .val (.int x3), .val (.int x4), .val (.int x5), .val (.int sf), .val (.int stt), .val (.int lf1), .val (.int lt1), .val (.int lf2), .val (.int lt2), .val (.int f2), .val (.int t2), .val (.ref sb35), .val (.ref sb39), .val (.ref sb43), .val (.ref sb47), .val (.ref b57), .unset, .unset, .unset] [(.ref b73), (.ref b73)])) _
    refine XS.aload X73.here hx rfl (hb hby at_162) rfl rfl ?_
    show Steps p.tables e below (T73.setTop (mkF m 164 #[.val (.int x0), .val (.int x1), .val (.int x2), .val (.int x3), .val (.int x4), .val (.int x5), .val (.int sf), .val (.int stt), .val (.int lf1), .val (.int lt1), .val (.int lf2), .val (.int lt2), .val (.int f2), .val (.int t2), .val (.ref sb35), .val (.ref sb39), .val (.ref sb43), .val (.ref sb47), .val (.ref b57), .unset, .unset, .unset] [(.ref sb43), (.ref b73), (.ref b73)])) _
    refine XS.aload X73.here hx rfl (hb hby at_164) rfl rfl ?_
    show Steps p.tables e below (T73.setTop (mkF m 166 #[.val (.int x0), .val (.int x1), .val (.int x2), .val (.int x3), .val (.int x4), .val (.int x5), .val (.int sf), .val (.int stt), .val (.int lf1), .val (.int lt1), .val (.int lf2), .val (.int lt2), .val (.int f2), .val (.int t2), .val (.ref sb35), .val (.ref sb39), .val (.ref sb43), .val (.ref sb47), .val (.ref b57), .unset, .unset, .unset] [(.ref sb47), (.ref sb43), (.ref b73), (.ref b73)])) _
    refine st76.trans ?_
    show Steps p.tables e below (T76.setTop (mkF m 169 #[.val (.int x0), .val (.int x1), .val (.int x2), .val (.int x3), .val (.int x4), .val (.int x5), .val (.int sf), .val (.int stt), .val (.int lf1), .val (.int lt1), .val (.int lf2), .val (.int lt2), .val (.int f2), .val (.int t2), .val (.ref sb35), .val (.ref sb39), .val (.ref sb43), .val (.ref sb47), .val (.ref b57), .unset, .unset, .unset] [(.ref b73)])) _
    refine XS.astore X76.here hx rfl (hb hby at_169) rfl rfl (l' := #[.val (.int x0), .val (.int x1), .val (.int x2), .val (.int x3), .val (.int x4), .val (.int x5), .val (.int sf), .val (.int stt), .val (.int lf1), .val (.int lt1), .val (.int lf2), .val (.int lt2), .val (.int f2), .val (.int t2), .val (.ref sb35), .val (.ref sb39), .val (.ref sb43), .val (.ref sb47), .val (.ref b57), .val (.ref b73), .unset, .unset]) rfl ?_
    show Steps p.tables e below (T76.setTop (mkF m 171 #[.val (.int x0), .val (.int x1), .val (.int x2), .val (.int x3), .val (.int x4), .val (.int x5), .val (.int sf), .val (.int stt), .val (.int lf1), .val (.int lt1), .val (.int lf2), .val (.int lt2), .val (.int f2), .val (.int t2), .val (.ref sb35), .val (.ref sb39), .val (.ref sb43), .val (.ref sb47), .val (.ref b57), .val (.ref b73), .unset, .unset] [])) _
    refine XS.iload X76.here hx rfl (hb hby at_171) rfl ?_
    show Steps p.tables e below (T76.setTop (mkF m 173 #[.val (.int x0), .val (.int x1), .val (.int x2), .val (.int x3), .val (.int x4), .val (.int x5), .val (.int sf), .val (.int stt), .val (.int lf1), .val (.int lt1), .val (.int lf2), .val (.int lt2), .val (.int f2), .val (.int t2), .val (.ref sb35), .val (.ref sb39), .val (.ref sb43), .val (.ref sb47), .val (.ref b57), .val (.ref b73), .unset, .unset] [(.int x5)])) _
    refine XS.iconst X76.here hx rfl (hb hby at_173) ?_
    show Steps p.tables e below (T76.setTop (mkF m 174 #[.val (.int x0), .val (.int x1), .val (.int x2), .val (.int x3), .val (.int x4), .val (.int x5), .val (.int sf), .val (.int stt), .val (.int lf1), .val (.int lt1), .val (.int lf2), .val (.int lt2), .val (.int f2), .val (.int t2), .val (.ref sb35), .val (.ref sb39), .val (.ref sb43), .val (.ref sb47), .val (.ref b57), .val (.ref b73), .unset, .unset] [(.int (2 : Int32)), (.int x5)])) _
    refine XS.iushr X76.here hx rfl (hb hby at_174) rfl ?_
    show Steps p.tables e below (T76.setTop (mkF m 175 #[.val (.int x0), .val (.int x1), .val (.int x2), .val (.int x3), .val (.int x4), .val (.int x5), .val (.int sf), .val (.int stt), .val (.int lf1), .val (.int lt1), .val (.int lf2), .val (.int lt2), .val (.int f2), .val (.int t2), .val (.ref sb35), .val (.ref sb39), .val (.ref sb43), .val (.ref sb47), .val (.ref b57), .val (.ref b73), .unset, .unset] [(.int ((x5.toUInt32 >>> ((2 : Int32) &&& 31).toUInt32).toInt32))])) _
    refine XS.iconst X76.here hx rfl (hb hby at_175) ?_
    show Steps p.tables e below (T76.setTop (mkF m 176 #[.val (.int x0), .val (.int x1), .val (.int x2), .val (.int x3), .val (.int x4), .val (.int x5), .val (.int sf), .val (.int stt), .val (.int lf1), .val (.int lt1), .val (.int lf2), .val (.int lt2), .val (.int f2), .val (.int t2), .val (.ref sb35), .val (.ref sb39), .val (.ref sb43), .val (.ref sb47), .val (.ref b57), .val (.ref b73), .unset, .unset] [(.int (3 : Int32)), (.int ((x5.toUInt32 >>> ((2 : Int32) &&& 31).toUInt32).toInt32))])) _
    refine XS.iand X76.here hx rfl (hb hby at_176) rfl ?_
    show Steps p.tables e below (T76.setTop (mkF m 177 #[.val (.int x0), .val (.int x1), .val (.int x2), .val (.int x3), .val (.int x4), .val (.int x5), .val (.int sf), .val (.int stt), .val (.int lf1), .val (.int lt1), .val (.int lf2), .val (.int lt2), .val (.int f2), .val (.int t2), .val (.ref sb35), .val (.ref sb39), .val (.ref sb43), .val (.ref sb47), .val (.ref b57), .val (.ref b73), .unset, .unset] [(.int (((x5.toUInt32 >>> ((2 : Int32) &&& 31).toUInt32).toInt32) &&& (3 : Int32)))])) _
    refine XS.istore X76.here hx rfl (hb hby at_177) rfl (l' := #[.val (.int x0), .val (.int x1), .val (.int x2), .val (.int x3), .val (.int x4), .val (.int x5), .val (.int sf), .val (.int stt), .val (.int lf1), .val (.int lt1), .val (.int lf2), .val (.int lt2), .val (.int f2), .val (.int t2), .val (.ref sb35), .val (.ref sb39), .val (.ref sb43), .val (.ref sb47), .val (.ref b57), .val (.ref b73), .val (.int (((x5.toUInt32 >>> ((2 : Int32) &&& 31).toUInt32).toInt32) &&& (3 : Int32))), .unset]) rfl ?_
    show Steps p.tables e below (T76.setTop (mkF m 179 #[.val (.int x0), .val (.int x1), .val (.int x2), .val (.int x3), .val (.int x4), .val (.int x5), .val (.int sf), .val (.int stt), .val (.int lf1), .val (.int lt1), .val (.int lf2), .val (.int lt2), .val (.int f2), .val (.int t2), .val (.ref sb35), .val (.ref sb39), .val (.ref sb43), .val (.ref sb47), .val (.ref b57), .val (.ref b73), .val (.int (((x5.toUInt32 >>> ((2 : Int32) &&& 31).toUInt32).toInt32) &&& (3 : Int32))), .unset] [])) _
    exact kgo
  obtain ⟨kd, hkd⟩ : ∃ z, z = (((x5.toUInt32 >>> ((2 : Int32) &&& 31).toUInt32).toInt32) &&& (3 : Int32)) := ⟨_, rfl⟩
  have pre81 : ∀ tgt, Steps p.tables e below (T76.setTop (mkF m 179 #[.val (.int x0), .val (.int x1), .val (.int x2), .val (.int x3), .val (.int x4), .val (.int x5), .val (.int sf), .val (.int stt), .val (.int lf1), .val (.int lt1), .val (.int lf2), .val (.int lt2), .val (.int f2), .val (.int t2), .val (.ref sb35), .val (.ref sb39), .val (.ref sb43), .val (.ref sb47), .val (.ref b57), .val (.ref b73), .val (.int kd), .unset] [])) tgt → Steps p.tables e below (s₁.setTop (entryFrame m #[(.int x0), (.int x1), (.int x2), (.int x3), (.int x4), (.int x5)] maxLocals)) tgt := by
    rw [hkd]; exact pre80
  have pre82 : ∀ tgt, Steps p.tables e below (T76.setTop (mkF m 182 #[.val (.int x0), .val (.int x1), .val (.int x2), .val (.int x3), .val (.int x4), .val (.int x5), .val (.int sf), .val (.int stt), .val (.int lf1), .val (.int lt1), .val (.int lf2), .val (.int lt2), .val (.int f2), .val (.int t2), .val (.ref sb35), .val (.ref sb39), .val (.ref sb43), .val (.ref sb47), .val (.ref b57), .val (.ref b73), .val (.int kd), .unset] [(.int (2 : Int32)), (.int kd)])) tgt → Steps p.tables e below (s₁.setTop (entryFrame m #[(.int x0), (.int x1), (.int x2), (.int x3), (.int x4), (.int x5)] maxLocals)) tgt := by
    intro tgt kgo
    refine pre81 _ ?_
    refine XS.iload X76.here hx rfl (hb hby at_179) rfl ?_
    show Steps p.tables e below (T76.setTop (mkF m 181 #[.val (.int x0), .val (.int x1), .val (.int x2), .val (.int x3), .val (.int x4), .val (.int x5), .val (.int sf), .val (.int stt), .val (.int lf1), .val (.int lt1), .val (.int lf2), .val (.int lt2), .val (.int f2), .val (.int t2), .val (.ref sb35), .val (.ref sb39), .val (.ref sb43), .val (.ref sb47), .val (.ref b57), .val (.ref b73), .val (.int kd), .unset] [(.int kd)])) _
    refine XS.iconst X76.here hx rfl (hb hby at_181) ?_
    show Steps p.tables e below (T76.setTop (mkF m 182 #[.val (.int x0), .val (.int x1), .val (.int x2), .val (.int x3), .val (.int x4), .val (.int x5), .val (.int sf), .val (.int stt), .val (.int lf1), .val (.int lt1), .val (.int lf2), .val (.int lt2), .val (.int f2), .val (.int t2), .val (.ref sb35), .val (.ref sb39), .val (.ref sb43), .val (.ref sb47), .val (.ref b57), .val (.ref b73), .val (.int kd), .unset] [(.int (2 : Int32)), (.int kd)])) _
    exact kgo
  by_cases hc182_83 : kd = (2 : Int32)
  · have f85 := ((f72.ext E73).keep kp76)
    obtain ⟨cq84, kq84, q84a, q84b, q84c⟩ := isOf hZ47 rfl f85
    obtain ⟨_, _, ⟨T84, L84, k84, n84⟩, -, X84, ⟨Lc84, hQ84, l84, y84, z84⟩, st84⟩ := X76.virtualBack hx (y := (⟨"com/example/verdictd/verdictd/RolePair", "equals", "(Ljava/lang/Object;)Z"⟩ : MethodName)) (z := (⟨"com/example/verdictd/verdictd/RolePair", "equals", "(Ljava/lang/Object;)Z"⟩ : MethodName)) hown47 (mvT hZ47 (ow40 hw)) (mvT hZ47 (ow41 hw)) (notFace_of_selects (args := #[]) (mvT hZ47 (ow43 hw))) (mvT hZ47 (ow43 hw)) (mvT hZ47 (ow42 hw)) (by decide) (backOf (W := 0) (rmeqn l Z a0 hw [] b57  T76.heap n0 O79 ) hZ47 (ow44 hw) (ow28 hw) (by decide) (by decide)) q84a q84c (g := (mkF m 188 #[.val (.int x0), .val (.int x1), .val (.int x2), .val (.int x3), .val (.int x4), .val (.int x5), .val (.int sf), .val (.int stt), .val (.int lf1), .val (.int lt1), .val (.int lf2), .val (.int lt2), .val (.int f2), .val (.int t2), .val (.ref sb35), .val (.ref sb39), .val (.ref sb43), .val (.ref sb47), .val (.ref b57), .val (.ref b73), .val (.int kd), .unset] [.null, (.ref b57)])) rfl (by rw [hml]; rfl) (Steps.refl _) (argsL := [.null]) (rest := []) (lenOf pd2 rfl) rfl (by show 2 * 0 + _ ≤ _; exact Nat.le_of_eq rfl) (hb hby at_188) (fun _ _ => ⟨rfl, rfl, (by decide : 26 + 0 ≤ _), (by decide : 52 + 0 ≤ _)⟩)
    dsimp only [Pt.U, Pt.locs, Pt.cells, Pt.slots] at X84 l84 y84 z84 st84 hQ84
    subst l84 y84 z84
    obtain ⟨rfl, Nq84, eq84⟩ := hQ84
    have N86 := Fr.app N77 Nq84
    obtain ⟨fs, hretL, hrun, hended, hEnd⟩ := Stand.leaveW X84 hS47 (by rw [eq84]; exact hk78) (v := some (.int (1 : Int32))) (fun h => by rw [Bd.returns] at h; cases h)
    have hCf : CHr Z EL0 s.vm s.heap T84.vm T84.heap := by rw [hh, eq84]; exact CH78.trans (CHv.at X84 hZ47 (own_EW hw) CH78.1)
    refine ⟨_, _, pre82 _ ?_, hrun, hended, _, _, rfl, ?_, hCf, hEnd.1, hEnd.2.1, hEnd.2.2.1, hEnd.2.2.2.mono (by decide) (by decide)⟩
    · refine XS.icmpNo X76.here hx rfl (hb hby at_182) rfl (teq hc182_83).2 ?_
      show Steps p.tables e below (T76.setTop (mkF m 185 #[.val (.int x0), .val (.int x1), .val (.int x2), .val (.int x3), .val (.int x4), .val (.int x5), .val (.int sf), .val (.int stt), .val (.int lf1), .val (.int lt1), .val (.int lf2), .val (.int lt2), .val (.int f2), .val (.int t2), .val (.ref sb35), .val (.ref sb39), .val (.ref sb43), .val (.ref sb47), .val (.ref b57), .val (.ref b73), .val (.int kd), .unset] [])) _
      refine XS.aload X76.here hx rfl (hb hby at_185) rfl rfl ?_
      show Steps p.tables e below (T76.setTop (mkF m 187 #[.val (.int x0), .val (.int x1), .val (.int x2), .val (.int x3), .val (.int x4), .val (.int x5), .val (.int sf), .val (.int stt), .val (.int lf1), .val (.int lt1), .val (.int lf2), .val (.int lt2), .val (.int f2), .val (.int t2), .val (.ref sb35), .val (.ref sb39), .val (.ref sb43), .val (.ref sb47), .val (.ref b57), .val (.ref b73), .val (.int kd), .unset] [(.ref b57)])) _
      refine XS.aconstNull X76.here hx rfl (hb hby at_187) ?_
      show Steps p.tables e below (T76.setTop (mkF m 188 #[.val (.int x0), .val (.int x1), .val (.int x2), .val (.int x3), .val (.int x4), .val (.int x5), .val (.int sf), .val (.int stt), .val (.int lf1), .val (.int lt1), .val (.int lf2), .val (.int lt2), .val (.int f2), .val (.int t2), .val (.ref sb35), .val (.ref sb39), .val (.ref sb43), .val (.ref sb47), .val (.ref b57), .val (.ref b73), .val (.int kd), .unset] [.null, (.ref b57)])) _
      refine st84.trans ?_
      show Steps p.tables e below (T84.setTop (mkF m 191 #[.val (.int x0), .val (.int x1), .val (.int x2), .val (.int x3), .val (.int x4), .val (.int x5), .val (.int sf), .val (.int stt), .val (.int lf1), .val (.int lt1), .val (.int lf2), .val (.int lt2), .val (.int f2), .val (.int t2), .val (.ref sb35), .val (.ref sb39), .val (.ref sb43), .val (.ref sb47), .val (.ref b57), .val (.ref b73), .val (.int kd), .unset] [(.int (0 : Int32))])) _
      refine XS.ifNo X84.here hx rfl (hb hby at_191) rfl ((if0 _ _).trans (teq (by decide : (0 : Int32) = (0 : Int32))).2) ?_
      show Steps p.tables e below (T84.setTop (mkF m 194 #[.val (.int x0), .val (.int x1), .val (.int x2), .val (.int x3), .val (.int x4), .val (.int x5), .val (.int sf), .val (.int stt), .val (.int lf1), .val (.int lt1), .val (.int lf2), .val (.int lt2), .val (.int f2), .val (.int t2), .val (.ref sb35), .val (.ref sb39), .val (.ref sb43), .val (.ref sb47), .val (.ref b57), .val (.ref b73), .val (.int kd), .unset] [])) _
      refine XS.iconst X84.here hx rfl (hb hby at_194) ?_
      show Steps p.tables e below (T84.setTop (mkF m 195 #[.val (.int x0), .val (.int x1), .val (.int x2), .val (.int x3), .val (.int x4), .val (.int x5), .val (.int sf), .val (.int stt), .val (.int lf1), .val (.int lt1), .val (.int lf2), .val (.int lt2), .val (.int f2), .val (.int t2), .val (.ref sb35), .val (.ref sb39), .val (.ref sb43), .val (.ref sb47), .val (.ref b57), .val (.ref b73), .val (.int kd), .unset] [(.int (1 : Int32))])) _
      refine XS.goto X84.here hx rfl (pc0 := 195) (pc' := 199) rfl (hb hby at_195) (by decide) (by decide) ?_
      show Steps p.tables e below (T84.setTop (mkF m 199 #[.val (.int x0), .val (.int x1), .val (.int x2), .val (.int x3), .val (.int x4), .val (.int x5), .val (.int sf), .val (.int stt), .val (.int lf1), .val (.int lt1), .val (.int lf2), .val (.int lt2), .val (.int f2), .val (.int t2), .val (.ref sb35), .val (.ref sb39), .val (.ref sb43), .val (.ref sb47), .val (.ref b57), .val (.ref b73), .val (.int kd), .unset] [(.int (1 : Int32))])) _
      exact retOut X84 hx Bd.returns rfl (Or.inl ⟨rfl, Or.inr (Or.inl rfl), _, rfl⟩) (hb hby at_199) hretL
    · show Q_rm0 Z x0 x1 x2 x3 x4 x5 G1 h0 n0 _ T84.heap _
      rw [eq84]
      exact ⟨rfl, N86⟩
  · have pre87 : ∀ tgt, Steps p.tables e below (T76.setTop (mkF m 203 #[.val (.int x0), .val (.int x1), .val (.int x2), .val (.int x3), .val (.int x4), .val (.int x5), .val (.int sf), .val (.int stt), .val (.int lf1), .val (.int lt1), .val (.int lf2), .val (.int lt2), .val (.int f2), .val (.int t2), .val (.ref sb35), .val (.ref sb39), .val (.ref sb43), .val (.ref sb47), .val (.ref b57), .val (.ref b73), .val (.int kd), .unset] [(.int (3 : Int32)), (.int kd)])) tgt → Steps p.tables e below (s₁.setTop (entryFrame m #[(.int x0), (.int x1), (.int x2), (.int x3), (.int x4), (.int x5)] maxLocals)) tgt := by
      intro tgt kgo
      refine pre82 _ ?_
      refine XS.icmpYes X76.here hx rfl (pc0 := 182) (pc' := 200) rfl (hb hby at_182) rfl (feq hc182_83).2 (by decide) (by decide) ?_
      show Steps p.tables e below (T76.setTop (mkF m 200 #[.val (.int x0), .val (.int x1), .val (.int x2), .val (.int x3), .val (.int x4), .val (.int x5), .val (.int sf), .val (.int stt), .val (.int lf1), .val (.int lt1), .val (.int lf2), .val (.int lt2), .val (.int f2), .val (.int t2), .val (.ref sb35), .val (.ref sb39), .val (.ref sb43), .val (.ref sb47), .val (.ref b57), .val (.ref b73), .val (.int kd), .unset] [])) _
      refine XS.iload X76.here hx rfl (hb hby at_200) rfl ?_
      show Steps p.tables e below (T76.setTop (mkF m 202 #[.val (.int x0), .val (.int x1), .val (.int x2), .val (.int x3), .val (.int x4), .val (.int x5), .val (.int sf), .val (.int stt), .val (.int lf1), .val (.int lt1), .val (.int lf2), .val (.int lt2), .val (.int f2), .val (.int t2), .val (.ref sb35), .val (.ref sb39), .val (.ref sb43), .val (.ref sb47), .val (.ref b57), .val (.ref b73), .val (.int kd), .unset] [(.int kd)])) _
      refine XS.iconst X76.here hx rfl (hb hby at_202) ?_
      show Steps p.tables e below (T76.setTop (mkF m 203 #[.val (.int x0), .val (.int x1), .val (.int x2), .val (.int x3), .val (.int x4), .val (.int x5), .val (.int sf), .val (.int stt), .val (.int lf1), .val (.int lt1), .val (.int lf2), .val (.int lt2), .val (.int f2), .val (.int t2), .val (.ref sb35), .val (.ref sb39), .val (.ref sb43), .val (.ref sb47), .val (.ref b57), .val (.ref b73), .val (.int kd), .unset] [(.int (3 : Int32)), (.int kd)])) _
      exact kgo
    by_cases hc203_88 : kd = (3 : Int32)
    · have f89 := ((f64.ext E73).keep kp76)
      have f91 := ((f72.ext E73).keep kp76)
      obtain ⟨cq90, kq90, q90a, q90b, q90c⟩ := isOf hZ47 rfl f91
      obtain ⟨_, _, ⟨T90, L90, k90, n90⟩, -, X90, ⟨Lc90, hQ90, l90, y90, z90⟩, st90⟩ := X76.virtualBack hx (y := (⟨"com/example/verdictd/verdictd/RolePair", "equals", "(Ljava/lang/Object;)Z"⟩ : MethodName)) (z := (⟨"com/example/verdictd/verdictd/RolePair", "equals", "(Ljava/lang/Object;)Z"⟩ : MethodName)) hown47 (mvT hZ47 (ow40 hw)) (mvT hZ47 (ow41 hw)) (notFace_of_selects (args := #[]) (mvT hZ47 (ow43 hw))) (mvT hZ47 (ow43 hw)) (mvT hZ47 (ow42 hw)) (by decide) (backOf (W := 0) (rmeqs l Z a0 hw [] b57 sb35  T76.heap n0 O79 f89) hZ47 (ow44 hw) (ow28 hw) (by decide) (by decide)) q90a q90c (g := (mkF m 210 #[.val (.int x0), .val (.int x1), .val (.int x2), .val (.int x3), .val (.int x4), .val (.int x5), .val (.int sf), .val (.int stt), .val (.int lf1), .val (.int lt1), .val (.int lf2), .val (.int lt2), .val (.int f2), .val (.int t2), .val (.ref sb35), .val (.ref sb39), .val (.ref sb43), .val (.ref sb47), .val (.ref b57), .val (.ref b73), .val (.int kd), .unset] [(.ref sb35), (.ref b57)])) rfl (by rw [hml]; rfl) (Steps.refl _) (argsL := [(.ref sb35)]) (rest := []) (lenOf pd2 rfl) rfl (by show 2 * 0 + _ ≤ _; exact Nat.le_of_eq rfl) (hb hby at_210) (fun _ _ => ⟨rfl, rfl, (by decide : 26 + 0 ≤ _), (by decide : 52 + 0 ≤ _)⟩)
      dsimp only [Pt.U, Pt.locs, Pt.cells, Pt.slots] at X90 l90 y90 z90 st90 hQ90
      subst l90 y90 z90
      obtain ⟨rfl, Nq90, eq90⟩ := hQ90
      have N92 := Fr.app N77 Nq90
      obtain ⟨fs, hretL, hrun, hended, hEnd⟩ := Stand.leaveW X90 hS47 (by rw [eq90]; exact hk78) (v := some (.int (1 : Int32))) (fun h => by rw [Bd.returns] at h; cases h)
      have hCf : CHr Z EL0 s.vm s.heap T90.vm T90.heap := by rw [hh, eq90]; exact CH78.trans (CHv.at X90 hZ47 (own_EW hw) CH78.1)
      refine ⟨_, _, pre87 _ ?_, hrun, hended, _, _, rfl, ?_, hCf, hEnd.1, hEnd.2.1, hEnd.2.2.1, hEnd.2.2.2.mono (by decide) (by decide)⟩
      · refine XS.icmpNo X76.here hx rfl (hb hby at_203) rfl (teq hc203_88).2 ?_
        show Steps p.tables e below (T76.setTop (mkF m 206 #[.val (.int x0), .val (.int x1), .val (.int x2), .val (.int x3), .val (.int x4), .val (.int x5), .val (.int sf), .val (.int stt), .val (.int lf1), .val (.int lt1), .val (.int lf2), .val (.int lt2), .val (.int f2), .val (.int t2), .val (.ref sb35), .val (.ref sb39), .val (.ref sb43), .val (.ref sb47), .val (.ref b57), .val (.ref b73), .val (.int kd), .unset] [])) _
        refine XS.aload X76.here hx rfl (hb hby at_206) rfl rfl ?_
        show Steps p.tables e below (T76.setTop (mkF m 208 #[.val (.int x0), .val (.int x1), .val (.int x2), .val (.int x3), .val (.int x4), .val (.int x5), .val (.int sf), .val (.int stt), .val (.int lf1), .val (.int lt1), .val (.int lf2), .val (.int lt2), .val (.int f2), .val (.int t2), .val (.ref sb35), .val (.ref sb39), .val (.ref sb43), .val (.ref sb47), .val (.ref b57), .val (.ref b73), .val (.int kd), .unset] [(.ref b57)])) _
        refine XS.aload X76.here hx rfl (hb hby at_208) rfl rfl ?_
        show Steps p.tables e below (T76.setTop (mkF m 210 #[.val (.int x0), .val (.int x1), .val (.int x2), .val (.int x3), .val (.int x4), .val (.int x5), .val (.int sf), .val (.int stt), .val (.int lf1), .val (.int lt1), .val (.int lf2), .val (.int lt2), .val (.int f2), .val (.int t2), .val (.ref sb35), .val (.ref sb39), .val (.ref sb43), .val (.ref sb47), .val (.ref b57), .val (.ref b73), .val (.int kd), .unset] [(.ref sb35), (.ref b57)])) _
        refine st90.trans ?_
        show Steps p.tables e below (T90.setTop (mkF m 213 #[.val (.int x0), .val (.int x1), .val (.int x2), .val (.int x3), .val (.int x4), .val (.int x5), .val (.int sf), .val (.int stt), .val (.int lf1), .val (.int lt1), .val (.int lf2), .val (.int lt2), .val (.int f2), .val (.int t2), .val (.ref sb35), .val (.ref sb39), .val (.ref sb43), .val (.ref sb47), .val (.ref b57), .val (.ref b73), .val (.int kd), .unset] [(.int (0 : Int32))])) _
        refine XS.ifNo X90.here hx rfl (hb hby at_213) rfl ((if0 _ _).trans (teq (by decide : (0 : Int32) = (0 : Int32))).2) ?_
        show Steps p.tables e below (T90.setTop (mkF m 216 #[.val (.int x0), .val (.int x1), .val (.int x2), .val (.int x3), .val (.int x4), .val (.int x5), .val (.int sf), .val (.int stt), .val (.int lf1), .val (.int lt1), .val (.int lf2), .val (.int lt2), .val (.int f2), .val (.int t2), .val (.ref sb35), .val (.ref sb39), .val (.ref sb43), .val (.ref sb47), .val (.ref b57), .val (.ref b73), .val (.int kd), .unset] [])) _
        refine XS.iconst X90.here hx rfl (hb hby at_216) ?_
        show Steps p.tables e below (T90.setTop (mkF m 217 #[.val (.int x0), .val (.int x1), .val (.int x2), .val (.int x3), .val (.int x4), .val (.int x5), .val (.int sf), .val (.int stt), .val (.int lf1), .val (.int lt1), .val (.int lf2), .val (.int lt2), .val (.int f2), .val (.int t2), .val (.ref sb35), .val (.ref sb39), .val (.ref sb43), .val (.ref sb47), .val (.ref b57), .val (.ref b73), .val (.int kd), .unset] [(.int (1 : Int32))])) _
        refine XS.goto X90.here hx rfl (pc0 := 217) (pc' := 221) rfl (hb hby at_217) (by decide) (by decide) ?_
        show Steps p.tables e below (T90.setTop (mkF m 221 #[.val (.int x0), .val (.int x1), .val (.int x2), .val (.int x3), .val (.int x4), .val (.int x5), .val (.int sf), .val (.int stt), .val (.int lf1), .val (.int lt1), .val (.int lf2), .val (.int lt2), .val (.int f2), .val (.int t2), .val (.ref sb35), .val (.ref sb39), .val (.ref sb43), .val (.ref sb47), .val (.ref b57), .val (.ref b73), .val (.int kd), .unset] [(.int (1 : Int32))])) _
        exact retOut X90 hx Bd.returns rfl (Or.inl ⟨rfl, Or.inr (Or.inl rfl), _, rfl⟩) (hb hby at_221) hretL
      · show Q_rm0 Z x0 x1 x2 x3 x4 x5 G1 h0 n0 _ T90.heap _
        rw [eq90]
        exact ⟨rfl, N92⟩
    · obtain ⟨_, _, ⟨T93, L93, k93, n93⟩, -, X93, ⟨Lc93, hQ93, l93, y93, z93⟩, st93⟩ := Jvm.LawKit.callS X76 hx (y := (⟨"com/example/verdictd/verdictd/RolePairEqualsPinLaw", "same", "(IIII)Z"⟩ : MethodName)) hown47 (mvT hZ47 (ow37 hw)) (mvT hZ47 (ow38 hw)) (mvT hZ47 (ow2 hw)) (mvT hZ47 (ow39 hw)) (by decide) (backOf (W := 0) (rmsm l Z a0 hw [] lf1 x0 lf2 f2  T76.heap n0 O79 ) hZ47 (ow39 hw) (ow2 hw) (by decide) (by decide)) (g := (mkF m 229 #[.val (.int x0), .val (.int x1), .val (.int x2), .val (.int x3), .val (.int x4), .val (.int x5), .val (.int sf), .val (.int stt), .val (.int lf1), .val (.int lt1), .val (.int lf2), .val (.int lt2), .val (.int f2), .val (.int t2), .val (.ref sb35), .val (.ref sb39), .val (.ref sb43), .val (.ref sb47), .val (.ref b57), .val (.ref b73), .val (.int kd), .unset] [(.int f2), (.int lf2), (.int x0), (.int lf1)])) rfl (by rw [hml]; rfl) (argsL := [(.int lf1), (.int x0), (.int lf2), (.int f2)]) (rest := []) (lenOf pd5 rfl) rfl (by show 2 * 0 + _ ≤ _; exact Nat.le_of_eq rfl) (hb hby at_229) (fun _ _ => ⟨rfl, rfl, (by decide : 26 + 0 ≤ _), (by decide : 52 + 0 ≤ _)⟩)
      dsimp only [Pt.U, Pt.locs, Pt.cells, Pt.slots] at X93 l93 y93 z93 st93 hQ93
      subst l93 y93 z93
      obtain ⟨rfl, Nq93, eq93⟩ := hQ93
      have N94 := Fr.app N77 Nq93
      have pre95 : ∀ tgt, Steps p.tables e below (T93.setTop (mkF m 232 #[.val (.int x0), .val (.int x1), .val (.int x2), .val (.int x3), .val (.int x4), .val (.int x5), .val (.int sf), .val (.int stt), .val (.int lf1), .val (.int lt1), .val (.int lf2), .val (.int lt2), .val (.int f2), .val (.int t2), .val (.ref sb35), .val (.ref sb39), .val (.ref sb43), .val (.ref sb47), .val (.ref b57), .val (.ref b73), .val (.int kd), .unset] [(.int (sm lf1 x0 lf2 f2))])) tgt → Steps p.tables e below (s₁.setTop (entryFrame m #[(.int x0), (.int x1), (.int x2), (.int x3), (.int x4), (.int x5)] maxLocals)) tgt := by
        intro tgt kgo
        refine pre87 _ ?_
        refine XS.icmpYes X76.here hx rfl (pc0 := 203) (pc' := 222) rfl (hb hby at_203) rfl (feq hc203_88).2 (by decide) (by decide) ?_
        show Steps p.tables e below (T76.setTop (mkF m 222 #[.val (.int x0), .val (.int x1), .val (.int x2), .val (.int x3), .val (.int x4), .val (.int x5), .val (.int sf), .val (.int stt), .val (.int lf1), .val (.int lt1), .val (.int lf2), .val (.int lt2), .val (.int f2), .val (.int t2), .val (.ref sb35), .val (.ref sb39), .val (.ref sb43), .val (.ref sb47), .val (.ref b57), .val (.ref b73), .val (.int kd), .unset] [])) _
        refine XS.iload X76.here hx rfl (hb hby at_222) rfl ?_
        show Steps p.tables e below (T76.setTop (mkF m 224 #[.val (.int x0), .val (.int x1), .val (.int x2), .val (.int x3), .val (.int x4), .val (.int x5), .val (.int sf), .val (.int stt), .val (.int lf1), .val (.int lt1), .val (.int lf2), .val (.int lt2), .val (.int f2), .val (.int t2), .val (.ref sb35), .val (.ref sb39), .val (.ref sb43), .val (.ref sb47), .val (.ref b57), .val (.ref b73), .val (.int kd), .unset] [(.int lf1)])) _
        refine XS.iloadN X76.here hx rfl (hb hby at_224) rfl ?_
        show Steps p.tables e below (T76.setTop (mkF m 225 #[.val (.int x0), .val (.int x1), .val (.int x2), .val (.int x3), .val (.int x4), .val (.int x5), .val (.int sf), .val (.int stt), .val (.int lf1), .val (.int lt1), .val (.int lf2), .val (.int lt2), .val (.int f2), .val (.int t2), .val (.ref sb35), .val (.ref sb39), .val (.ref sb43), .val (.ref sb47), .val (.ref b57), .val (.ref b73), .val (.int kd), .unset] [(.int x0), (.int lf1)])) _
        refine XS.iload X76.here hx rfl (hb hby at_225) rfl ?_
        show Steps p.tables e below (T76.setTop (mkF m 227 #[.val (.int x0), .val (.int x1), .val (.int x2), .val (.int x3), .val (.int x4), .val (.int x5), .val (.int sf), .val (.int stt), .val (.int lf1), .val (.int lt1), .val (.int lf2), .val (.int lt2), .val (.int f2), .val (.int t2), .val (.ref sb35), .val (.ref sb39), .val (.ref sb43), .val (.ref sb47), .val (.ref b57), .val (.ref b73), .val (.int kd), .unset] [(.int lf2), (.int x0), (.int lf1)])) _
        refine XS.iload X76.here hx rfl (hb hby at_227) rfl ?_
        show Steps p.tables e below (T76.setTop (mkF m 229 #[.val (.int x0), .val (.int x1), .val (.int x2), .val (.int x3), .val (.int x4), .val (.int x5), .val (.int sf), .val (.int stt), .val (.int lf1), .val (.int lt1), .val (.int lf2), .val (.int lt2), .val (.int f2), .val (.int t2), .val (.ref sb35), .val (.ref sb39), .val (.ref sb43), .val (.ref sb47), .val (.ref b57), .val (.ref b73), .val (.int kd), .unset] [(.int f2), (.int lf2), (.int x0), (.int lf1)])) _
        refine st93 _ ?_
        show Steps p.tables e below (T93.setTop (mkF m 232 #[.val (.int x0), .val (.int x1), .val (.int x2), .val (.int x3), .val (.int x4), .val (.int x5), .val (.int sf), .val (.int stt), .val (.int lf1), .val (.int lt1), .val (.int lf2), .val (.int lt2), .val (.int f2), .val (.int t2), .val (.ref sb35), .val (.ref sb39), .val (.ref sb43), .val (.ref sb47), .val (.ref b57), .val (.ref b73), .val (.int kd), .unset] [(.int (sm lf1 x0 lf2 f2))])) _
        exact kgo
      by_cases hc232_96 : (sm lf1 x0 lf2 f2) = (0 : Int32)
      · have f97 := ((Ff60.ext E73).keep kp76 (ninS neb57_73 nin0))
        have f98 := ((Ft60.ext E73).keep kp76 (ninS neb57_73 nin0))
        have f99 := (A73.keep kp76)
        have f100 := ((f64.ext E73).keep kp76)
        have f101 := (((((((sC35.keep kp39 nin0).keep kp43 nin0).keep kp47 nin0).ext E57).keep kp60 (ninS nesb35_57 nin0)).ext E73).keep kp76 (ninS nesb35_73 nin0))
        have f102 := (((((((sV35.keep kp39 nin0).keep kp43 nin0).keep kp47 nin0).ext E57).keep kp60 (ninS nesb35_57 nin0)).ext E73).keep kp76 (ninS nesb35_73 nin0))
        have f103 := ((f65.ext E73).keep kp76 (ninS nesd35_73 nin0))
        have f104 := ((f66.ext E73).keep kp76)
        have f105 := ((((((sC39.keep kp43 nin0).keep kp47 nin0).ext E57).keep kp60 (ninS nesb39_57 nin0)).ext E73).keep kp76 (ninS nesb39_73 nin0))
        have f106 := ((((((sV39.keep kp43 nin0).keep kp47 nin0).ext E57).keep kp60 (ninS nesb39_57 nin0)).ext E73).keep kp76 (ninS nesb39_73 nin0))
        have f107 := ((f67.ext E73).keep kp76 (ninS nesd39_73 nin0))
        have f108 := ((f68.ext E73).keep kp76)
        have f109 := (((((sC43.keep kp47 nin0).ext E57).keep kp60 (ninS nesb43_57 nin0)).ext E73).keep kp76 (ninS nesb43_73 nin0))
        have f110 := (((((sV43.keep kp47 nin0).ext E57).keep kp60 (ninS nesb43_57 nin0)).ext E73).keep kp76 (ninS nesb43_73 nin0))
        have f111 := ((f69.ext E73).keep kp76 (ninS nesd43_73 nin0))
        have f112 := ((f70.ext E73).keep kp76)
        have f113 := ((((sC47.ext E57).keep kp60 (ninS nesb47_57 nin0)).ext E73).keep kp76 (ninS nesb47_73 nin0))
        have f114 := ((((sV47.ext E57).keep kp60 (ninS nesb47_57 nin0)).ext E73).keep kp76 (ninS nesb47_73 nin0))
        have f115 := ((f71.ext E73).keep kp76 (ninS nesd47_73 nin0))
        have f117 := ((f72.ext E73).keep kp76)
        obtain ⟨cq116, kq116, q116a, q116b, q116c⟩ := isOf hZ47 eq93 f117
        obtain ⟨_, _, ⟨T116, L116, k116, n116⟩, -, X116, ⟨Lc116, hQ116, l116, y116, z116⟩, st116⟩ := X93.virtualBack hx (y := (⟨"com/example/verdictd/verdictd/RolePair", "equals", "(Ljava/lang/Object;)Z"⟩ : MethodName)) (z := (⟨"com/example/verdictd/verdictd/RolePair", "equals", "(Ljava/lang/Object;)Z"⟩ : MethodName)) hown47 (mvT hZ47 (ow40 hw)) (mvT hZ47 (ow41 hw)) (notFace_of_selects (args := #[]) (mvT hZ47 (ow43 hw))) (mvT hZ47 (ow43 hw)) (mvT hZ47 (ow42 hw)) (by decide) (backOf (W := 0) (rmeqr l Z a0 hw [] b57 b73 sb35 sb39 sb43 sb47 (chs lf1 x0) (chs lt1 x2) (chs lf2 f2) (chs lt2 t2) G1 T76.heap n0 O79 O2 P5 f99 f97 f98 Ff76 Ft76 ⟨f100, f101, sp35, sl35, sd35, sk35, f102, f103⟩ ⟨f104, f105, sp39, sl39, sd39, sk39, f106, f107⟩ ⟨f108, f109, sp43, sl43, sd43, sk43, f110, f111⟩ ⟨f112, f113, sp47, sl47, sd47, sk47, f114, f115⟩) hZ47 (ow44 hw) (ow28 hw) (by decide) (by decide)) q116a q116c (g := (mkF m 259 #[.val (.int x0), .val (.int x1), .val (.int x2), .val (.int x3), .val (.int x4), .val (.int x5), .val (.int sf), .val (.int stt), .val (.int lf1), .val (.int lt1), .val (.int lf2), .val (.int lt2), .val (.int f2), .val (.int t2), .val (.ref sb35), .val (.ref sb39), .val (.ref sb43), .val (.ref sb47), .val (.ref b57), .val (.ref b73), .val (.int kd), .val (.int (0 : Int32))] [(.ref b73), (.ref b57)])) rfl (by rw [hml]; rfl) (Steps.refl _) (argsL := [(.ref b73)]) (rest := []) (lenOf pd2 rfl) rfl (by show 2 * 0 + _ ≤ _; exact Nat.le_of_eq rfl) (hb hby at_259) (fun _ _ => ⟨rfl, eq93, (by decide : 26 + 0 ≤ _), (by decide : 52 + 0 ≤ _)⟩)
        dsimp only [Pt.U, Pt.locs, Pt.cells, Pt.slots] at X116 l116 y116 z116 st116 hQ116
        subst l116 y116 z116
        obtain ⟨rfl, Nq116, eq116⟩ := hQ116
        have N118 := Fr.app N94 Nq116
        obtain ⟨cq119, kq119, q119a, q119b, q119c⟩ := isOf hZ47 eq116 f99
        obtain ⟨_, _, ⟨T119, L119, k119, n119⟩, -, X119, ⟨Lc119, hQ119, l119, y119, z119⟩, st119⟩ := X116.virtualBack hx (y := (⟨"com/example/verdictd/verdictd/RolePair", "equals", "(Ljava/lang/Object;)Z"⟩ : MethodName)) (z := (⟨"com/example/verdictd/verdictd/RolePair", "equals", "(Ljava/lang/Object;)Z"⟩ : MethodName)) hown47 (mvT hZ47 (ow40 hw)) (mvT hZ47 (ow41 hw)) (notFace_of_selects (args := #[]) (mvT hZ47 (ow43 hw))) (mvT hZ47 (ow43 hw)) (mvT hZ47 (ow42 hw)) (by decide) (backOf (W := 0) (rmeqr l Z a0 hw [] b73 b57 sb43 sb47 sb35 sb39 (chs lf2 f2) (chs lt2 t2) (chs lf1 x0) (chs lt1 x2) G1 T76.heap n0 O79 O2 P5 f117 Ff76 Ft76 f97 f98 ⟨f108, f109, sp43, sl43, sd43, sk43, f110, f111⟩ ⟨f112, f113, sp47, sl47, sd47, sk47, f114, f115⟩ ⟨f100, f101, sp35, sl35, sd35, sk35, f102, f103⟩ ⟨f104, f105, sp39, sl39, sd39, sk39, f106, f107⟩) hZ47 (ow44 hw) (ow28 hw) (by decide) (by decide)) q119a q119c (g := (mkF m 271 #[.val (.int x0), .val (.int x1), .val (.int x2), .val (.int x3), .val (.int x4), .val (.int x5), .val (.int sf), .val (.int stt), .val (.int lf1), .val (.int lt1), .val (.int lf2), .val (.int lt2), .val (.int f2), .val (.int t2), .val (.ref sb35), .val (.ref sb39), .val (.ref sb43), .val (.ref sb47), .val (.ref b57), .val (.ref b73), .val (.int kd), .val (.int (0 : Int32))] [(.ref b57), (.ref b73)])) rfl (by rw [hml]; rfl) (Steps.refl _) (argsL := [(.ref b57)]) (rest := []) (lenOf pd2 rfl) rfl (by show 2 * 0 + _ ≤ _; exact Nat.le_of_eq rfl) (hb hby at_271) (fun _ _ => ⟨rfl, eq116, (by decide : 26 + 0 ≤ _), (by decide : 52 + 0 ≤ _)⟩)
        dsimp only [Pt.U, Pt.locs, Pt.cells, Pt.slots] at X119 l119 y119 z119 st119 hQ119
        subst l119 y119 z119
        obtain ⟨rfl, Nq119, eq119⟩ := hQ119
        have N120 := Fr.app N118 Nq119
        obtain ⟨fs, hretL, hrun, hended, hEnd⟩ := Stand.leaveW X119 hS47 (by rw [eq119]; exact hk78) (v := some (.int (1 : Int32))) (fun h => by rw [Bd.returns] at h; cases h)
        have hCf : CHr Z EL0 s.vm s.heap T119.vm T119.heap := by rw [hh, eq119]; exact CH78.trans (CHv.at X119 hZ47 (own_EW hw) CH78.1)
        refine ⟨_, _, pre95 _ ?_, hrun, hended, _, _, rfl, ?_, hCf, hEnd.1, hEnd.2.1, hEnd.2.2.1, hEnd.2.2.2.mono (by decide) (by decide)⟩
        · refine XS.ifYes X93.here hx rfl (pc0 := 232) (pc' := 252) rfl (hb hby at_232) rfl ((if0 _ _).trans (teq hc232_96).1) (by decide) (by decide) ?_
          show Steps p.tables e below (T93.setTop (mkF m 252 #[.val (.int x0), .val (.int x1), .val (.int x2), .val (.int x3), .val (.int x4), .val (.int x5), .val (.int sf), .val (.int stt), .val (.int lf1), .val (.int lt1), .val (.int lf2), .val (.int lt2), .val (.int f2), .val (.int t2), .val (.ref sb35), .val (.ref sb39), .val (.ref sb43), .val (.ref sb47), .val (.ref b57), .val (.ref b73), .val (.int kd), .unset] [])) _
          refine XS.iconst X93.here hx rfl (hb hby at_252) ?_
          show Steps p.tables e below (T93.setTop (mkF m 253 #[.val (.int x0), .val (.int x1), .val (.int x2), .val (.int x3), .val (.int x4), .val (.int x5), .val (.int sf), .val (.int stt), .val (.int lf1), .val (.int lt1), .val (.int lf2), .val (.int lt2), .val (.int f2), .val (.int t2), .val (.ref sb35), .val (.ref sb39), .val (.ref sb43), .val (.ref sb47), .val (.ref b57), .val (.ref b73), .val (.int kd), .unset] [(.int (0 : Int32))])) _
          refine XS.istore X93.here hx rfl (hb hby at_253) rfl (l' := #[.val (.int x0), .val (.int x1), .val (.int x2), .val (.int x3), .val (.int x4), .val (.int x5), .val (.int sf), .val (.int stt), .val (.int lf1), .val (.int lt1), .val (.int lf2), .val (.int lt2), .val (.int f2), .val (.int t2), .val (.ref sb35), .val (.ref sb39), .val (.ref sb43), .val (.ref sb47), .val (.ref b57), .val (.ref b73), .val (.int kd), .val (.int (0 : Int32))]) rfl ?_
          show Steps p.tables e below (T93.setTop (mkF m 255 #[.val (.int x0), .val (.int x1), .val (.int x2), .val (.int x3), .val (.int x4), .val (.int x5), .val (.int sf), .val (.int stt), .val (.int lf1), .val (.int lt1), .val (.int lf2), .val (.int lt2), .val (.int f2), .val (.int t2), .val (.ref sb35), .val (.ref sb39), .val (.ref sb43), .val (.ref sb47), .val (.ref b57), .val (.ref b73), .val (.int kd), .val (.int (0 : Int32))] [])) _
          refine XS.aload X93.here hx rfl (hb hby at_255) rfl rfl ?_
          show Steps p.tables e below (T93.setTop (mkF m 257 #[.val (.int x0), .val (.int x1), .val (.int x2), .val (.int x3), .val (.int x4), .val (.int x5), .val (.int sf), .val (.int stt), .val (.int lf1), .val (.int lt1), .val (.int lf2), .val (.int lt2), .val (.int f2), .val (.int t2), .val (.ref sb35), .val (.ref sb39), .val (.ref sb43), .val (.ref sb47), .val (.ref b57), .val (.ref b73), .val (.int kd), .val (.int (0 : Int32))] [(.ref b57)])) _
          refine XS.aload X93.here hx rfl (hb hby at_257) rfl rfl ?_
          show Steps p.tables e below (T93.setTop (mkF m 259 #[.val (.int x0), .val (.int x1), .val (.int x2), .val (.int x3), .val (.int x4), .val (.int x5), .val (.int sf), .val (.int stt), .val (.int lf1), .val (.int lt1), .val (.int lf2), .val (.int lt2), .val (.int f2), .val (.int t2), .val (.ref sb35), .val (.ref sb39), .val (.ref sb43), .val (.ref sb47), .val (.ref b57), .val (.ref b73), .val (.int kd), .val (.int (0 : Int32))] [(.ref b73), (.ref b57)])) _
          refine st116.trans ?_
          show Steps p.tables e below (T116.setTop (mkF m 262 #[.val (.int x0), .val (.int x1), .val (.int x2), .val (.int x3), .val (.int x4), .val (.int x5), .val (.int sf), .val (.int stt), .val (.int lf1), .val (.int lt1), .val (.int lf2), .val (.int lt2), .val (.int f2), .val (.int t2), .val (.ref sb35), .val (.ref sb39), .val (.ref sb43), .val (.ref sb47), .val (.ref b57), .val (.ref b73), .val (.int kd), .val (.int (0 : Int32))] [(.int (eqv (chs lf1 x0) (chs lt1 x2) (chs lf2 f2) (chs lt2 t2)))])) _
          refine XS.iload X116.here hx rfl (hb hby at_262) rfl ?_
          show Steps p.tables e below (T116.setTop (mkF m 264 #[.val (.int x0), .val (.int x1), .val (.int x2), .val (.int x3), .val (.int x4), .val (.int x5), .val (.int sf), .val (.int stt), .val (.int lf1), .val (.int lt1), .val (.int lf2), .val (.int lt2), .val (.int f2), .val (.int t2), .val (.ref sb35), .val (.ref sb39), .val (.ref sb43), .val (.ref sb47), .val (.ref b57), .val (.ref b73), .val (.int kd), .val (.int (0 : Int32))] [(.int (0 : Int32)), (.int (eqv (chs lf1 x0) (chs lt1 x2) (chs lf2 f2) (chs lt2 t2)))])) _
          refine XS.icmpNo X116.here hx rfl (hb hby at_264) rfl (teq (own_e0 (own_r3 hlf1) (own_r3b hlf2 (own_r3 hlf1)) hc232_96)).2 ?_
          show Steps p.tables e below (T116.setTop (mkF m 267 #[.val (.int x0), .val (.int x1), .val (.int x2), .val (.int x3), .val (.int x4), .val (.int x5), .val (.int sf), .val (.int stt), .val (.int lf1), .val (.int lt1), .val (.int lf2), .val (.int lt2), .val (.int f2), .val (.int t2), .val (.ref sb35), .val (.ref sb39), .val (.ref sb43), .val (.ref sb47), .val (.ref b57), .val (.ref b73), .val (.int kd), .val (.int (0 : Int32))] [])) _
          refine XS.aload X116.here hx rfl (hb hby at_267) rfl rfl ?_
          show Steps p.tables e below (T116.setTop (mkF m 269 #[.val (.int x0), .val (.int x1), .val (.int x2), .val (.int x3), .val (.int x4), .val (.int x5), .val (.int sf), .val (.int stt), .val (.int lf1), .val (.int lt1), .val (.int lf2), .val (.int lt2), .val (.int f2), .val (.int t2), .val (.ref sb35), .val (.ref sb39), .val (.ref sb43), .val (.ref sb47), .val (.ref b57), .val (.ref b73), .val (.int kd), .val (.int (0 : Int32))] [(.ref b73)])) _
          refine XS.aload X116.here hx rfl (hb hby at_269) rfl rfl ?_
          show Steps p.tables e below (T116.setTop (mkF m 271 #[.val (.int x0), .val (.int x1), .val (.int x2), .val (.int x3), .val (.int x4), .val (.int x5), .val (.int sf), .val (.int stt), .val (.int lf1), .val (.int lt1), .val (.int lf2), .val (.int lt2), .val (.int f2), .val (.int t2), .val (.ref sb35), .val (.ref sb39), .val (.ref sb43), .val (.ref sb47), .val (.ref b57), .val (.ref b73), .val (.int kd), .val (.int (0 : Int32))] [(.ref b57), (.ref b73)])) _
          refine st119.trans ?_
          show Steps p.tables e below (T119.setTop (mkF m 274 #[.val (.int x0), .val (.int x1), .val (.int x2), .val (.int x3), .val (.int x4), .val (.int x5), .val (.int sf), .val (.int stt), .val (.int lf1), .val (.int lt1), .val (.int lf2), .val (.int lt2), .val (.int f2), .val (.int t2), .val (.ref sb35), .val (.ref sb39), .val (.ref sb43), .val (.ref sb47), .val (.ref b57), .val (.ref b73), .val (.int kd), .val (.int (0 : Int32))] [(.int (eqv (chs lf2 f2) (chs lt2 t2) (chs lf1 x0) (chs lt1 x2)))])) _
          refine XS.iload X119.here hx rfl (hb hby at_274) rfl ?_
          show Steps p.tables e below (T119.setTop (mkF m 276 #[.val (.int x0), .val (.int x1), .val (.int x2), .val (.int x3), .val (.int x4), .val (.int x5), .val (.int sf), .val (.int stt), .val (.int lf1), .val (.int lt1), .val (.int lf2), .val (.int lt2), .val (.int f2), .val (.int t2), .val (.ref sb35), .val (.ref sb39), .val (.ref sb43), .val (.ref sb47), .val (.ref b57), .val (.ref b73), .val (.int kd), .val (.int (0 : Int32))] [(.int (0 : Int32)), (.int (eqv (chs lf2 f2) (chs lt2 t2) (chs lf1 x0) (chs lt1 x2)))])) _
          refine XS.icmpNo X119.here hx rfl (hb hby at_276) rfl (teq (own_e0s (own_r3 hlf1) (own_r3b hlf2 (own_r3 hlf1)) hc232_96)).2 ?_
          show Steps p.tables e below (T119.setTop (mkF m 279 #[.val (.int x0), .val (.int x1), .val (.int x2), .val (.int x3), .val (.int x4), .val (.int x5), .val (.int sf), .val (.int stt), .val (.int lf1), .val (.int lt1), .val (.int lf2), .val (.int lt2), .val (.int f2), .val (.int t2), .val (.ref sb35), .val (.ref sb39), .val (.ref sb43), .val (.ref sb47), .val (.ref b57), .val (.ref b73), .val (.int kd), .val (.int (0 : Int32))] [])) _
          refine XS.iconst X119.here hx rfl (hb hby at_279) ?_
          show Steps p.tables e below (T119.setTop (mkF m 280 #[.val (.int x0), .val (.int x1), .val (.int x2), .val (.int x3), .val (.int x4), .val (.int x5), .val (.int sf), .val (.int stt), .val (.int lf1), .val (.int lt1), .val (.int lf2), .val (.int lt2), .val (.int f2), .val (.int t2), .val (.ref sb35), .val (.ref sb39), .val (.ref sb43), .val (.ref sb47), .val (.ref b57), .val (.ref b73), .val (.int kd), .val (.int (0 : Int32))] [(.int (1 : Int32))])) _
          refine XS.goto X119.here hx rfl (pc0 := 280) (pc' := 284) rfl (hb hby at_280) (by decide) (by decide) ?_
          show Steps p.tables e below (T119.setTop (mkF m 284 #[.val (.int x0), .val (.int x1), .val (.int x2), .val (.int x3), .val (.int x4), .val (.int x5), .val (.int sf), .val (.int stt), .val (.int lf1), .val (.int lt1), .val (.int lf2), .val (.int lt2), .val (.int f2), .val (.int t2), .val (.ref sb35), .val (.ref sb39), .val (.ref sb43), .val (.ref sb47), .val (.ref b57), .val (.ref b73), .val (.int kd), .val (.int (0 : Int32))] [(.int (1 : Int32))])) _
          exact retOut X119 hx Bd.returns rfl (Or.inl ⟨rfl, Or.inr (Or.inl rfl), _, rfl⟩) (hb hby at_284) hretL
        · show Q_rm0 Z x0 x1 x2 x3 x4 x5 G1 h0 n0 _ T119.heap _
          rw [eq119]
          exact ⟨rfl, N120⟩
      · obtain ⟨_, _, ⟨T121, L121, k121, n121⟩, -, X121, ⟨Lc121, hQ121, l121, y121, z121⟩, st121⟩ := Jvm.LawKit.callS X93 hx (y := (⟨"com/example/verdictd/verdictd/RolePairEqualsPinLaw", "same", "(IIII)Z"⟩ : MethodName)) hown47 (mvT hZ47 (ow37 hw)) (mvT hZ47 (ow38 hw)) (mvT hZ47 (ow2 hw)) (mvT hZ47 (ow39 hw)) (by decide) (backOf (W := 0) (rmsm l Z a0 hw [] lt1 x2 lt2 t2  T76.heap n0 O79 ) hZ47 (ow39 hw) (ow2 hw) (by decide) (by decide)) (g := (mkF m 242 #[.val (.int x0), .val (.int x1), .val (.int x2), .val (.int x3), .val (.int x4), .val (.int x5), .val (.int sf), .val (.int stt), .val (.int lf1), .val (.int lt1), .val (.int lf2), .val (.int lt2), .val (.int f2), .val (.int t2), .val (.ref sb35), .val (.ref sb39), .val (.ref sb43), .val (.ref sb47), .val (.ref b57), .val (.ref b73), .val (.int kd), .unset] [(.int t2), (.int lt2), (.int x2), (.int lt1)])) rfl (by rw [hml]; rfl) (argsL := [(.int lt1), (.int x2), (.int lt2), (.int t2)]) (rest := []) (lenOf pd5 rfl) rfl (by show 2 * 0 + _ ≤ _; exact Nat.le_of_eq rfl) (hb hby at_242) (fun _ _ => ⟨rfl, eq93, (by decide : 26 + 0 ≤ _), (by decide : 52 + 0 ≤ _)⟩)
        dsimp only [Pt.U, Pt.locs, Pt.cells, Pt.slots] at X121 l121 y121 z121 st121 hQ121
        subst l121 y121 z121
        obtain ⟨rfl, Nq121, eq121⟩ := hQ121
        have N122 := Fr.app N94 Nq121
        have pre123 : ∀ tgt, Steps p.tables e below (T121.setTop (mkF m 245 #[.val (.int x0), .val (.int x1), .val (.int x2), .val (.int x3), .val (.int x4), .val (.int x5), .val (.int sf), .val (.int stt), .val (.int lf1), .val (.int lt1), .val (.int lf2), .val (.int lt2), .val (.int f2), .val (.int t2), .val (.ref sb35), .val (.ref sb39), .val (.ref sb43), .val (.ref sb47), .val (.ref b57), .val (.ref b73), .val (.int kd), .unset] [(.int (sm lt1 x2 lt2 t2))])) tgt → Steps p.tables e below (s₁.setTop (entryFrame m #[(.int x0), (.int x1), (.int x2), (.int x3), (.int x4), (.int x5)] maxLocals)) tgt := by
          intro tgt kgo
          refine pre95 _ ?_
          refine XS.ifNo X93.here hx rfl (hb hby at_232) rfl ((if0 _ _).trans (feq hc232_96).1) ?_
          show Steps p.tables e below (T93.setTop (mkF m 235 #[.val (.int x0), .val (.int x1), .val (.int x2), .val (.int x3), .val (.int x4), .val (.int x5), .val (.int sf), .val (.int stt), .val (.int lf1), .val (.int lt1), .val (.int lf2), .val (.int lt2), .val (.int f2), .val (.int t2), .val (.ref sb35), .val (.ref sb39), .val (.ref sb43), .val (.ref sb47), .val (.ref b57), .val (.ref b73), .val (.int kd), .unset] [])) _
          refine XS.iload X93.here hx rfl (hb hby at_235) rfl ?_
          show Steps p.tables e below (T93.setTop (mkF m 237 #[.val (.int x0), .val (.int x1), .val (.int x2), .val (.int x3), .val (.int x4), .val (.int x5), .val (.int sf), .val (.int stt), .val (.int lf1), .val (.int lt1), .val (.int lf2), .val (.int lt2), .val (.int f2), .val (.int t2), .val (.ref sb35), .val (.ref sb39), .val (.ref sb43), .val (.ref sb47), .val (.ref b57), .val (.ref b73), .val (.int kd), .unset] [(.int lt1)])) _
          refine XS.iloadN X93.here hx rfl (hb hby at_237) rfl ?_
          show Steps p.tables e below (T93.setTop (mkF m 238 #[.val (.int x0), .val (.int x1), .val (.int x2), .val (.int x3), .val (.int x4), .val (.int x5), .val (.int sf), .val (.int stt), .val (.int lf1), .val (.int lt1), .val (.int lf2), .val (.int lt2), .val (.int f2), .val (.int t2), .val (.ref sb35), .val (.ref sb39), .val (.ref sb43), .val (.ref sb47), .val (.ref b57), .val (.ref b73), .val (.int kd), .unset] [(.int x2), (.int lt1)])) _
          refine XS.iload X93.here hx rfl (hb hby at_238) rfl ?_
          show Steps p.tables e below (T93.setTop (mkF m 240 #[.val (.int x0), .val (.int x1), .val (.int x2), .val (.int x3), .val (.int x4), .val (.int x5), .val (.int sf), .val (.int stt), .val (.int lf1), .val (.int lt1), .val (.int lf2), .val (.int lt2), .val (.int f2), .val (.int t2), .val (.ref sb35), .val (.ref sb39), .val (.ref sb43), .val (.ref sb47), .val (.ref b57), .val (.ref b73), .val (.int kd), .unset] [(.int lt2), (.int x2), (.int lt1)])) _
          refine XS.iload X93.here hx rfl (hb hby at_240) rfl ?_
          show Steps p.tables e below (T93.setTop (mkF m 242 #[.val (.int x0), .val (.int x1), .val (.int x2), .val (.int x3), .val (.int x4), .val (.int x5), .val (.int sf), .val (.int stt), .val (.int lf1), .val (.int lt1), .val (.int lf2), .val (.int lt2), .val (.int f2), .val (.int t2), .val (.ref sb35), .val (.ref sb39), .val (.ref sb43), .val (.ref sb47), .val (.ref b57), .val (.ref b73), .val (.int kd), .unset] [(.int t2), (.int lt2), (.int x2), (.int lt1)])) _
          refine st121 _ ?_
          show Steps p.tables e below (T121.setTop (mkF m 245 #[.val (.int x0), .val (.int x1), .val (.int x2), .val (.int x3), .val (.int x4), .val (.int x5), .val (.int sf), .val (.int stt), .val (.int lf1), .val (.int lt1), .val (.int lf2), .val (.int lt2), .val (.int f2), .val (.int t2), .val (.ref sb35), .val (.ref sb39), .val (.ref sb43), .val (.ref sb47), .val (.ref b57), .val (.ref b73), .val (.int kd), .unset] [(.int (sm lt1 x2 lt2 t2))])) _
          exact kgo
        by_cases hc245_124 : (sm lt1 x2 lt2 t2) = (0 : Int32)
        · have f125 := ((Ff60.ext E73).keep kp76 (ninS neb57_73 nin0))
          have f126 := ((Ft60.ext E73).keep kp76 (ninS neb57_73 nin0))
          have f127 := (A73.keep kp76)
          have f128 := ((f64.ext E73).keep kp76)
          have f129 := (((((((sC35.keep kp39 nin0).keep kp43 nin0).keep kp47 nin0).ext E57).keep kp60 (ninS nesb35_57 nin0)).ext E73).keep kp76 (ninS nesb35_73 nin0))
          have f130 := (((((((sV35.keep kp39 nin0).keep kp43 nin0).keep kp47 nin0).ext E57).keep kp60 (ninS nesb35_57 nin0)).ext E73).keep kp76 (ninS nesb35_73 nin0))
          have f131 := ((f65.ext E73).keep kp76 (ninS nesd35_73 nin0))
          have f132 := ((f66.ext E73).keep kp76)
          have f133 := ((((((sC39.keep kp43 nin0).keep kp47 nin0).ext E57).keep kp60 (ninS nesb39_57 nin0)).ext E73).keep kp76 (ninS nesb39_73 nin0))
          have f134 := ((((((sV39.keep kp43 nin0).keep kp47 nin0).ext E57).keep kp60 (ninS nesb39_57 nin0)).ext E73).keep kp76 (ninS nesb39_73 nin0))
          have f135 := ((f67.ext E73).keep kp76 (ninS nesd39_73 nin0))
          have f136 := ((f68.ext E73).keep kp76)
          have f137 := (((((sC43.keep kp47 nin0).ext E57).keep kp60 (ninS nesb43_57 nin0)).ext E73).keep kp76 (ninS nesb43_73 nin0))
          have f138 := (((((sV43.keep kp47 nin0).ext E57).keep kp60 (ninS nesb43_57 nin0)).ext E73).keep kp76 (ninS nesb43_73 nin0))
          have f139 := ((f69.ext E73).keep kp76 (ninS nesd43_73 nin0))
          have f140 := ((f70.ext E73).keep kp76)
          have f141 := ((((sC47.ext E57).keep kp60 (ninS nesb47_57 nin0)).ext E73).keep kp76 (ninS nesb47_73 nin0))
          have f142 := ((((sV47.ext E57).keep kp60 (ninS nesb47_57 nin0)).ext E73).keep kp76 (ninS nesb47_73 nin0))
          have f143 := ((f71.ext E73).keep kp76 (ninS nesd47_73 nin0))
          have f145 := ((f72.ext E73).keep kp76)
          obtain ⟨cq144, kq144, q144a, q144b, q144c⟩ := isOf hZ47 eq121 f145
          obtain ⟨_, _, ⟨T144, L144, k144, n144⟩, -, X144, ⟨Lc144, hQ144, l144, y144, z144⟩, st144⟩ := X121.virtualBack hx (y := (⟨"com/example/verdictd/verdictd/RolePair", "equals", "(Ljava/lang/Object;)Z"⟩ : MethodName)) (z := (⟨"com/example/verdictd/verdictd/RolePair", "equals", "(Ljava/lang/Object;)Z"⟩ : MethodName)) hown47 (mvT hZ47 (ow40 hw)) (mvT hZ47 (ow41 hw)) (notFace_of_selects (args := #[]) (mvT hZ47 (ow43 hw))) (mvT hZ47 (ow43 hw)) (mvT hZ47 (ow42 hw)) (by decide) (backOf (W := 0) (rmeqr l Z a0 hw [] b57 b73 sb35 sb39 sb43 sb47 (chs lf1 x0) (chs lt1 x2) (chs lf2 f2) (chs lt2 t2) G1 T76.heap n0 O79 O2 P5 f127 f125 f126 Ff76 Ft76 ⟨f128, f129, sp35, sl35, sd35, sk35, f130, f131⟩ ⟨f132, f133, sp39, sl39, sd39, sk39, f134, f135⟩ ⟨f136, f137, sp43, sl43, sd43, sk43, f138, f139⟩ ⟨f140, f141, sp47, sl47, sd47, sk47, f142, f143⟩) hZ47 (ow44 hw) (ow28 hw) (by decide) (by decide)) q144a q144c (g := (mkF m 259 #[.val (.int x0), .val (.int x1), .val (.int x2), .val (.int x3), .val (.int x4), .val (.int x5), .val (.int sf), .val (.int stt), .val (.int lf1), .val (.int lt1), .val (.int lf2), .val (.int lt2), .val (.int f2), .val (.int t2), .val (.ref sb35), .val (.ref sb39), .val (.ref sb43), .val (.ref sb47), .val (.ref b57), .val (.ref b73), .val (.int kd), .val (.int (0 : Int32))] [(.ref b73), (.ref b57)])) rfl (by rw [hml]; rfl) (Steps.refl _) (argsL := [(.ref b73)]) (rest := []) (lenOf pd2 rfl) rfl (by show 2 * 0 + _ ≤ _; exact Nat.le_of_eq rfl) (hb hby at_259) (fun _ _ => ⟨rfl, eq121, (by decide : 26 + 0 ≤ _), (by decide : 52 + 0 ≤ _)⟩)
          dsimp only [Pt.U, Pt.locs, Pt.cells, Pt.slots] at X144 l144 y144 z144 st144 hQ144
          subst l144 y144 z144
          obtain ⟨rfl, Nq144, eq144⟩ := hQ144
          have N146 := Fr.app N122 Nq144
          obtain ⟨cq147, kq147, q147a, q147b, q147c⟩ := isOf hZ47 eq144 f127
          obtain ⟨_, _, ⟨T147, L147, k147, n147⟩, -, X147, ⟨Lc147, hQ147, l147, y147, z147⟩, st147⟩ := X144.virtualBack hx (y := (⟨"com/example/verdictd/verdictd/RolePair", "equals", "(Ljava/lang/Object;)Z"⟩ : MethodName)) (z := (⟨"com/example/verdictd/verdictd/RolePair", "equals", "(Ljava/lang/Object;)Z"⟩ : MethodName)) hown47 (mvT hZ47 (ow40 hw)) (mvT hZ47 (ow41 hw)) (notFace_of_selects (args := #[]) (mvT hZ47 (ow43 hw))) (mvT hZ47 (ow43 hw)) (mvT hZ47 (ow42 hw)) (by decide) (backOf (W := 0) (rmeqr l Z a0 hw [] b73 b57 sb43 sb47 sb35 sb39 (chs lf2 f2) (chs lt2 t2) (chs lf1 x0) (chs lt1 x2) G1 T76.heap n0 O79 O2 P5 f145 Ff76 Ft76 f125 f126 ⟨f136, f137, sp43, sl43, sd43, sk43, f138, f139⟩ ⟨f140, f141, sp47, sl47, sd47, sk47, f142, f143⟩ ⟨f128, f129, sp35, sl35, sd35, sk35, f130, f131⟩ ⟨f132, f133, sp39, sl39, sd39, sk39, f134, f135⟩) hZ47 (ow44 hw) (ow28 hw) (by decide) (by decide)) q147a q147c (g := (mkF m 271 #[.val (.int x0), .val (.int x1), .val (.int x2), .val (.int x3), .val (.int x4), .val (.int x5), .val (.int sf), .val (.int stt), .val (.int lf1), .val (.int lt1), .val (.int lf2), .val (.int lt2), .val (.int f2), .val (.int t2), .val (.ref sb35), .val (.ref sb39), .val (.ref sb43), .val (.ref sb47), .val (.ref b57), .val (.ref b73), .val (.int kd), .val (.int (0 : Int32))] [(.ref b57), (.ref b73)])) rfl (by rw [hml]; rfl) (Steps.refl _) (argsL := [(.ref b57)]) (rest := []) (lenOf pd2 rfl) rfl (by show 2 * 0 + _ ≤ _; exact Nat.le_of_eq rfl) (hb hby at_271) (fun _ _ => ⟨rfl, eq144, (by decide : 26 + 0 ≤ _), (by decide : 52 + 0 ≤ _)⟩)
          dsimp only [Pt.U, Pt.locs, Pt.cells, Pt.slots] at X147 l147 y147 z147 st147 hQ147
          subst l147 y147 z147
          obtain ⟨rfl, Nq147, eq147⟩ := hQ147
          have N148 := Fr.app N146 Nq147
          obtain ⟨fs, hretL, hrun, hended, hEnd⟩ := Stand.leaveW X147 hS47 (by rw [eq147]; exact hk78) (v := some (.int (1 : Int32))) (fun h => by rw [Bd.returns] at h; cases h)
          have hCf : CHr Z EL0 s.vm s.heap T147.vm T147.heap := by rw [hh, eq147]; exact CH78.trans (CHv.at X147 hZ47 (own_EW hw) CH78.1)
          refine ⟨_, _, pre123 _ ?_, hrun, hended, _, _, rfl, ?_, hCf, hEnd.1, hEnd.2.1, hEnd.2.2.1, hEnd.2.2.2.mono (by decide) (by decide)⟩
          · refine XS.ifYes X121.here hx rfl (pc0 := 245) (pc' := 252) rfl (hb hby at_245) rfl ((if0 _ _).trans (teq hc245_124).1) (by decide) (by decide) ?_
            show Steps p.tables e below (T121.setTop (mkF m 252 #[.val (.int x0), .val (.int x1), .val (.int x2), .val (.int x3), .val (.int x4), .val (.int x5), .val (.int sf), .val (.int stt), .val (.int lf1), .val (.int lt1), .val (.int lf2), .val (.int lt2), .val (.int f2), .val (.int t2), .val (.ref sb35), .val (.ref sb39), .val (.ref sb43), .val (.ref sb47), .val (.ref b57), .val (.ref b73), .val (.int kd), .unset] [])) _
            refine XS.iconst X121.here hx rfl (hb hby at_252) ?_
            show Steps p.tables e below (T121.setTop (mkF m 253 #[.val (.int x0), .val (.int x1), .val (.int x2), .val (.int x3), .val (.int x4), .val (.int x5), .val (.int sf), .val (.int stt), .val (.int lf1), .val (.int lt1), .val (.int lf2), .val (.int lt2), .val (.int f2), .val (.int t2), .val (.ref sb35), .val (.ref sb39), .val (.ref sb43), .val (.ref sb47), .val (.ref b57), .val (.ref b73), .val (.int kd), .unset] [(.int (0 : Int32))])) _
            refine XS.istore X121.here hx rfl (hb hby at_253) rfl (l' := #[.val (.int x0), .val (.int x1), .val (.int x2), .val (.int x3), .val (.int x4), .val (.int x5), .val (.int sf), .val (.int stt), .val (.int lf1), .val (.int lt1), .val (.int lf2), .val (.int lt2), .val (.int f2), .val (.int t2), .val (.ref sb35), .val (.ref sb39), .val (.ref sb43), .val (.ref sb47), .val (.ref b57), .val (.ref b73), .val (.int kd), .val (.int (0 : Int32))]) rfl ?_
            show Steps p.tables e below (T121.setTop (mkF m 255 #[.val (.int x0), .val (.int x1), .val (.int x2), .val (.int x3), .val (.int x4), .val (.int x5), .val (.int sf), .val (.int stt), .val (.int lf1), .val (.int lt1), .val (.int lf2), .val (.int lt2), .val (.int f2), .val (.int t2), .val (.ref sb35), .val (.ref sb39), .val (.ref sb43), .val (.ref sb47), .val (.ref b57), .val (.ref b73), .val (.int kd), .val (.int (0 : Int32))] [])) _
            refine XS.aload X121.here hx rfl (hb hby at_255) rfl rfl ?_
            show Steps p.tables e below (T121.setTop (mkF m 257 #[.val (.int x0), .val (.int x1), .val (.int x2), .val (.int x3), .val (.int x4), .val (.int x5), .val (.int sf), .val (.int stt), .val (.int lf1), .val (.int lt1), .val (.int lf2), .val (.int lt2), .val (.int f2), .val (.int t2), .val (.ref sb35), .val (.ref sb39), .val (.ref sb43), .val (.ref sb47), .val (.ref b57), .val (.ref b73), .val (.int kd), .val (.int (0 : Int32))] [(.ref b57)])) _
            refine XS.aload X121.here hx rfl (hb hby at_257) rfl rfl ?_
            show Steps p.tables e below (T121.setTop (mkF m 259 #[.val (.int x0), .val (.int x1), .val (.int x2), .val (.int x3), .val (.int x4), .val (.int x5), .val (.int sf), .val (.int stt), .val (.int lf1), .val (.int lt1), .val (.int lf2), .val (.int lt2), .val (.int f2), .val (.int t2), .val (.ref sb35), .val (.ref sb39), .val (.ref sb43), .val (.ref sb47), .val (.ref b57), .val (.ref b73), .val (.int kd), .val (.int (0 : Int32))] [(.ref b73), (.ref b57)])) _
            refine st144.trans ?_
            show Steps p.tables e below (T144.setTop (mkF m 262 #[.val (.int x0), .val (.int x1), .val (.int x2), .val (.int x3), .val (.int x4), .val (.int x5), .val (.int sf), .val (.int stt), .val (.int lf1), .val (.int lt1), .val (.int lf2), .val (.int lt2), .val (.int f2), .val (.int t2), .val (.ref sb35), .val (.ref sb39), .val (.ref sb43), .val (.ref sb47), .val (.ref b57), .val (.ref b73), .val (.int kd), .val (.int (0 : Int32))] [(.int (eqv (chs lf1 x0) (chs lt1 x2) (chs lf2 f2) (chs lt2 t2)))])) _
            refine XS.iload X144.here hx rfl (hb hby at_262) rfl ?_
            show Steps p.tables e below (T144.setTop (mkF m 264 #[.val (.int x0), .val (.int x1), .val (.int x2), .val (.int x3), .val (.int x4), .val (.int x5), .val (.int sf), .val (.int stt), .val (.int lf1), .val (.int lt1), .val (.int lf2), .val (.int lt2), .val (.int f2), .val (.int t2), .val (.ref sb35), .val (.ref sb39), .val (.ref sb43), .val (.ref sb47), .val (.ref b57), .val (.ref b73), .val (.int kd), .val (.int (0 : Int32))] [(.int (0 : Int32)), (.int (eqv (chs lf1 x0) (chs lt1 x2) (chs lf2 f2) (chs lt2 t2)))])) _
            refine XS.icmpNo X144.here hx rfl (hb hby at_264) rfl (teq (own_e1 (own_r3 hlt1) (own_r3b hlt2 (own_r3 hlt1)) hc245_124 )).2 ?_
            show Steps p.tables e below (T144.setTop (mkF m 267 #[.val (.int x0), .val (.int x1), .val (.int x2), .val (.int x3), .val (.int x4), .val (.int x5), .val (.int sf), .val (.int stt), .val (.int lf1), .val (.int lt1), .val (.int lf2), .val (.int lt2), .val (.int f2), .val (.int t2), .val (.ref sb35), .val (.ref sb39), .val (.ref sb43), .val (.ref sb47), .val (.ref b57), .val (.ref b73), .val (.int kd), .val (.int (0 : Int32))] [])) _
            refine XS.aload X144.here hx rfl (hb hby at_267) rfl rfl ?_
            show Steps p.tables e below (T144.setTop (mkF m 269 #[.val (.int x0), .val (.int x1), .val (.int x2), .val (.int x3), .val (.int x4), .val (.int x5), .val (.int sf), .val (.int stt), .val (.int lf1), .val (.int lt1), .val (.int lf2), .val (.int lt2), .val (.int f2), .val (.int t2), .val (.ref sb35), .val (.ref sb39), .val (.ref sb43), .val (.ref sb47), .val (.ref b57), .val (.ref b73), .val (.int kd), .val (.int (0 : Int32))] [(.ref b73)])) _
            refine XS.aload X144.here hx rfl (hb hby at_269) rfl rfl ?_
            show Steps p.tables e below (T144.setTop (mkF m 271 #[.val (.int x0), .val (.int x1), .val (.int x2), .val (.int x3), .val (.int x4), .val (.int x5), .val (.int sf), .val (.int stt), .val (.int lf1), .val (.int lt1), .val (.int lf2), .val (.int lt2), .val (.int f2), .val (.int t2), .val (.ref sb35), .val (.ref sb39), .val (.ref sb43), .val (.ref sb47), .val (.ref b57), .val (.ref b73), .val (.int kd), .val (.int (0 : Int32))] [(.ref b57), (.ref b73)])) _
            refine st147.trans ?_
            show Steps p.tables e below (T147.setTop (mkF m 274 #[.val (.int x0), .val (.int x1), .val (.int x2), .val (.int x3), .val (.int x4), .val (.int x5), .val (.int sf), .val (.int stt), .val (.int lf1), .val (.int lt1), .val (.int lf2), .val (.int lt2), .val (.int f2), .val (.int t2), .val (.ref sb35), .val (.ref sb39), .val (.ref sb43), .val (.ref sb47), .val (.ref b57), .val (.ref b73), .val (.int kd), .val (.int (0 : Int32))] [(.int (eqv (chs lf2 f2) (chs lt2 t2) (chs lf1 x0) (chs lt1 x2)))])) _
            refine XS.iload X147.here hx rfl (hb hby at_274) rfl ?_
            show Steps p.tables e below (T147.setTop (mkF m 276 #[.val (.int x0), .val (.int x1), .val (.int x2), .val (.int x3), .val (.int x4), .val (.int x5), .val (.int sf), .val (.int stt), .val (.int lf1), .val (.int lt1), .val (.int lf2), .val (.int lt2), .val (.int f2), .val (.int t2), .val (.ref sb35), .val (.ref sb39), .val (.ref sb43), .val (.ref sb47), .val (.ref b57), .val (.ref b73), .val (.int kd), .val (.int (0 : Int32))] [(.int (0 : Int32)), (.int (eqv (chs lf2 f2) (chs lt2 t2) (chs lf1 x0) (chs lt1 x2)))])) _
            refine XS.icmpNo X147.here hx rfl (hb hby at_276) rfl (teq (own_e1s (own_r3 hlt1) (own_r3b hlt2 (own_r3 hlt1)) hc245_124 )).2 ?_
            show Steps p.tables e below (T147.setTop (mkF m 279 #[.val (.int x0), .val (.int x1), .val (.int x2), .val (.int x3), .val (.int x4), .val (.int x5), .val (.int sf), .val (.int stt), .val (.int lf1), .val (.int lt1), .val (.int lf2), .val (.int lt2), .val (.int f2), .val (.int t2), .val (.ref sb35), .val (.ref sb39), .val (.ref sb43), .val (.ref sb47), .val (.ref b57), .val (.ref b73), .val (.int kd), .val (.int (0 : Int32))] [])) _
            refine XS.iconst X147.here hx rfl (hb hby at_279) ?_
            show Steps p.tables e below (T147.setTop (mkF m 280 #[.val (.int x0), .val (.int x1), .val (.int x2), .val (.int x3), .val (.int x4), .val (.int x5), .val (.int sf), .val (.int stt), .val (.int lf1), .val (.int lt1), .val (.int lf2), .val (.int lt2), .val (.int f2), .val (.int t2), .val (.ref sb35), .val (.ref sb39), .val (.ref sb43), .val (.ref sb47), .val (.ref b57), .val (.ref b73), .val (.int kd), .val (.int (0 : Int32))] [(.int (1 : Int32))])) _
            refine XS.goto X147.here hx rfl (pc0 := 280) (pc' := 284) rfl (hb hby at_280) (by decide) (by decide) ?_
            show Steps p.tables e below (T147.setTop (mkF m 284 #[.val (.int x0), .val (.int x1), .val (.int x2), .val (.int x3), .val (.int x4), .val (.int x5), .val (.int sf), .val (.int stt), .val (.int lf1), .val (.int lt1), .val (.int lf2), .val (.int lt2), .val (.int f2), .val (.int t2), .val (.ref sb35), .val (.ref sb39), .val (.ref sb43), .val (.ref sb47), .val (.ref b57), .val (.ref b73), .val (.int kd), .val (.int (0 : Int32))] [(.int (1 : Int32))])) _
            exact retOut X147 hx Bd.returns rfl (Or.inl ⟨rfl, Or.inr (Or.inl rfl), _, rfl⟩) (hb hby at_284) hretL
          · show Q_rm0 Z x0 x1 x2 x3 x4 x5 G1 h0 n0 _ T147.heap _
            rw [eq147]
            exact ⟨rfl, N148⟩
        · have f149 := ((Ff60.ext E73).keep kp76 (ninS neb57_73 nin0))
          have f150 := ((Ft60.ext E73).keep kp76 (ninS neb57_73 nin0))
          have f151 := (A73.keep kp76)
          have f152 := ((f64.ext E73).keep kp76)
          have f153 := (((((((sC35.keep kp39 nin0).keep kp43 nin0).keep kp47 nin0).ext E57).keep kp60 (ninS nesb35_57 nin0)).ext E73).keep kp76 (ninS nesb35_73 nin0))
          have f154 := (((((((sV35.keep kp39 nin0).keep kp43 nin0).keep kp47 nin0).ext E57).keep kp60 (ninS nesb35_57 nin0)).ext E73).keep kp76 (ninS nesb35_73 nin0))
          have f155 := ((f65.ext E73).keep kp76 (ninS nesd35_73 nin0))
          have f156 := ((f66.ext E73).keep kp76)
          have f157 := ((((((sC39.keep kp43 nin0).keep kp47 nin0).ext E57).keep kp60 (ninS nesb39_57 nin0)).ext E73).keep kp76 (ninS nesb39_73 nin0))
          have f158 := ((((((sV39.keep kp43 nin0).keep kp47 nin0).ext E57).keep kp60 (ninS nesb39_57 nin0)).ext E73).keep kp76 (ninS nesb39_73 nin0))
          have f159 := ((f67.ext E73).keep kp76 (ninS nesd39_73 nin0))
          have f160 := ((f68.ext E73).keep kp76)
          have f161 := (((((sC43.keep kp47 nin0).ext E57).keep kp60 (ninS nesb43_57 nin0)).ext E73).keep kp76 (ninS nesb43_73 nin0))
          have f162 := (((((sV43.keep kp47 nin0).ext E57).keep kp60 (ninS nesb43_57 nin0)).ext E73).keep kp76 (ninS nesb43_73 nin0))
          have f163 := ((f69.ext E73).keep kp76 (ninS nesd43_73 nin0))
          have f164 := ((f70.ext E73).keep kp76)
          have f165 := ((((sC47.ext E57).keep kp60 (ninS nesb47_57 nin0)).ext E73).keep kp76 (ninS nesb47_73 nin0))
          have f166 := ((((sV47.ext E57).keep kp60 (ninS nesb47_57 nin0)).ext E73).keep kp76 (ninS nesb47_73 nin0))
          have f167 := ((f71.ext E73).keep kp76 (ninS nesd47_73 nin0))
          have f169 := ((f72.ext E73).keep kp76)
          obtain ⟨cq168, kq168, q168a, q168b, q168c⟩ := isOf hZ47 eq121 f169
          obtain ⟨_, _, ⟨T168, L168, k168, n168⟩, -, X168, ⟨Lc168, hQ168, l168, y168, z168⟩, st168⟩ := X121.virtualBack hx (y := (⟨"com/example/verdictd/verdictd/RolePair", "equals", "(Ljava/lang/Object;)Z"⟩ : MethodName)) (z := (⟨"com/example/verdictd/verdictd/RolePair", "equals", "(Ljava/lang/Object;)Z"⟩ : MethodName)) hown47 (mvT hZ47 (ow40 hw)) (mvT hZ47 (ow41 hw)) (notFace_of_selects (args := #[]) (mvT hZ47 (ow43 hw))) (mvT hZ47 (ow43 hw)) (mvT hZ47 (ow42 hw)) (by decide) (backOf (W := 0) (rmeqr l Z a0 hw [] b57 b73 sb35 sb39 sb43 sb47 (chs lf1 x0) (chs lt1 x2) (chs lf2 f2) (chs lt2 t2) G1 T76.heap n0 O79 O2 P5 f151 f149 f150 Ff76 Ft76 ⟨f152, f153, sp35, sl35, sd35, sk35, f154, f155⟩ ⟨f156, f157, sp39, sl39, sd39, sk39, f158, f159⟩ ⟨f160, f161, sp43, sl43, sd43, sk43, f162, f163⟩ ⟨f164, f165, sp47, sl47, sd47, sk47, f166, f167⟩) hZ47 (ow44 hw) (ow28 hw) (by decide) (by decide)) q168a q168c (g := (mkF m 259 #[.val (.int x0), .val (.int x1), .val (.int x2), .val (.int x3), .val (.int x4), .val (.int x5), .val (.int sf), .val (.int stt), .val (.int lf1), .val (.int lt1), .val (.int lf2), .val (.int lt2), .val (.int f2), .val (.int t2), .val (.ref sb35), .val (.ref sb39), .val (.ref sb43), .val (.ref sb47), .val (.ref b57), .val (.ref b73), .val (.int kd), .val (.int (1 : Int32))] [(.ref b73), (.ref b57)])) rfl (by rw [hml]; rfl) (Steps.refl _) (argsL := [(.ref b73)]) (rest := []) (lenOf pd2 rfl) rfl (by show 2 * 0 + _ ≤ _; exact Nat.le_of_eq rfl) (hb hby at_259) (fun _ _ => ⟨rfl, eq121, (by decide : 26 + 0 ≤ _), (by decide : 52 + 0 ≤ _)⟩)
          dsimp only [Pt.U, Pt.locs, Pt.cells, Pt.slots] at X168 l168 y168 z168 st168 hQ168
          subst l168 y168 z168
          obtain ⟨rfl, Nq168, eq168⟩ := hQ168
          have N170 := Fr.app N122 Nq168
          obtain ⟨cq171, kq171, q171a, q171b, q171c⟩ := isOf hZ47 eq168 f151
          obtain ⟨_, _, ⟨T171, L171, k171, n171⟩, -, X171, ⟨Lc171, hQ171, l171, y171, z171⟩, st171⟩ := X168.virtualBack hx (y := (⟨"com/example/verdictd/verdictd/RolePair", "equals", "(Ljava/lang/Object;)Z"⟩ : MethodName)) (z := (⟨"com/example/verdictd/verdictd/RolePair", "equals", "(Ljava/lang/Object;)Z"⟩ : MethodName)) hown47 (mvT hZ47 (ow40 hw)) (mvT hZ47 (ow41 hw)) (notFace_of_selects (args := #[]) (mvT hZ47 (ow43 hw))) (mvT hZ47 (ow43 hw)) (mvT hZ47 (ow42 hw)) (by decide) (backOf (W := 0) (rmeqr l Z a0 hw [] b73 b57 sb43 sb47 sb35 sb39 (chs lf2 f2) (chs lt2 t2) (chs lf1 x0) (chs lt1 x2) G1 T76.heap n0 O79 O2 P5 f169 Ff76 Ft76 f149 f150 ⟨f160, f161, sp43, sl43, sd43, sk43, f162, f163⟩ ⟨f164, f165, sp47, sl47, sd47, sk47, f166, f167⟩ ⟨f152, f153, sp35, sl35, sd35, sk35, f154, f155⟩ ⟨f156, f157, sp39, sl39, sd39, sk39, f158, f159⟩) hZ47 (ow44 hw) (ow28 hw) (by decide) (by decide)) q171a q171c (g := (mkF m 271 #[.val (.int x0), .val (.int x1), .val (.int x2), .val (.int x3), .val (.int x4), .val (.int x5), .val (.int sf), .val (.int stt), .val (.int lf1), .val (.int lt1), .val (.int lf2), .val (.int lt2), .val (.int f2), .val (.int t2), .val (.ref sb35), .val (.ref sb39), .val (.ref sb43), .val (.ref sb47), .val (.ref b57), .val (.ref b73), .val (.int kd), .val (.int (1 : Int32))] [(.ref b57), (.ref b73)])) rfl (by rw [hml]; rfl) (Steps.refl _) (argsL := [(.ref b57)]) (rest := []) (lenOf pd2 rfl) rfl (by show 2 * 0 + _ ≤ _; exact Nat.le_of_eq rfl) (hb hby at_271) (fun _ _ => ⟨rfl, eq168, (by decide : 26 + 0 ≤ _), (by decide : 52 + 0 ≤ _)⟩)
          dsimp only [Pt.U, Pt.locs, Pt.cells, Pt.slots] at X171 l171 y171 z171 st171 hQ171
          subst l171 y171 z171
          obtain ⟨rfl, Nq171, eq171⟩ := hQ171
          have N172 := Fr.app N170 Nq171
          obtain ⟨fs, hretL, hrun, hended, hEnd⟩ := Stand.leaveW X171 hS47 (by rw [eq171]; exact hk78) (v := some (.int (1 : Int32))) (fun h => by rw [Bd.returns] at h; cases h)
          have hCf : CHr Z EL0 s.vm s.heap T171.vm T171.heap := by rw [hh, eq171]; exact CH78.trans (CHv.at X171 hZ47 (own_EW hw) CH78.1)
          refine ⟨_, _, pre123 _ ?_, hrun, hended, _, _, rfl, ?_, hCf, hEnd.1, hEnd.2.1, hEnd.2.2.1, hEnd.2.2.2.mono (by decide) (by decide)⟩
          · refine XS.ifNo X121.here hx rfl (hb hby at_245) rfl ((if0 _ _).trans (feq hc245_124).1) ?_
            show Steps p.tables e below (T121.setTop (mkF m 248 #[.val (.int x0), .val (.int x1), .val (.int x2), .val (.int x3), .val (.int x4), .val (.int x5), .val (.int sf), .val (.int stt), .val (.int lf1), .val (.int lt1), .val (.int lf2), .val (.int lt2), .val (.int f2), .val (.int t2), .val (.ref sb35), .val (.ref sb39), .val (.ref sb43), .val (.ref sb47), .val (.ref b57), .val (.ref b73), .val (.int kd), .unset] [])) _
            refine XS.iconst X121.here hx rfl (hb hby at_248) ?_
            show Steps p.tables e below (T121.setTop (mkF m 249 #[.val (.int x0), .val (.int x1), .val (.int x2), .val (.int x3), .val (.int x4), .val (.int x5), .val (.int sf), .val (.int stt), .val (.int lf1), .val (.int lt1), .val (.int lf2), .val (.int lt2), .val (.int f2), .val (.int t2), .val (.ref sb35), .val (.ref sb39), .val (.ref sb43), .val (.ref sb47), .val (.ref b57), .val (.ref b73), .val (.int kd), .unset] [(.int (1 : Int32))])) _
            refine XS.goto X121.here hx rfl (pc0 := 249) (pc' := 253) rfl (hb hby at_249) (by decide) (by decide) ?_
            show Steps p.tables e below (T121.setTop (mkF m 253 #[.val (.int x0), .val (.int x1), .val (.int x2), .val (.int x3), .val (.int x4), .val (.int x5), .val (.int sf), .val (.int stt), .val (.int lf1), .val (.int lt1), .val (.int lf2), .val (.int lt2), .val (.int f2), .val (.int t2), .val (.ref sb35), .val (.ref sb39), .val (.ref sb43), .val (.ref sb47), .val (.ref b57), .val (.ref b73), .val (.int kd), .unset] [(.int (1 : Int32))])) _
            refine XS.istore X121.here hx rfl (hb hby at_253) rfl (l' := #[.val (.int x0), .val (.int x1), .val (.int x2), .val (.int x3), .val (.int x4), .val (.int x5), .val (.int sf), .val (.int stt), .val (.int lf1), .val (.int lt1), .val (.int lf2), .val (.int lt2), .val (.int f2), .val (.int t2), .val (.ref sb35), .val (.ref sb39), .val (.ref sb43), .val (.ref sb47), .val (.ref b57), .val (.ref b73), .val (.int kd), .val (.int (1 : Int32))]) rfl ?_
            show Steps p.tables e below (T121.setTop (mkF m 255 #[.val (.int x0), .val (.int x1), .val (.int x2), .val (.int x3), .val (.int x4), .val (.int x5), .val (.int sf), .val (.int stt), .val (.int lf1), .val (.int lt1), .val (.int lf2), .val (.int lt2), .val (.int f2), .val (.int t2), .val (.ref sb35), .val (.ref sb39), .val (.ref sb43), .val (.ref sb47), .val (.ref b57), .val (.ref b73), .val (.int kd), .val (.int (1 : Int32))] [])) _
            refine XS.aload X121.here hx rfl (hb hby at_255) rfl rfl ?_
            show Steps p.tables e below (T121.setTop (mkF m 257 #[.val (.int x0), .val (.int x1), .val (.int x2), .val (.int x3), .val (.int x4), .val (.int x5), .val (.int sf), .val (.int stt), .val (.int lf1), .val (.int lt1), .val (.int lf2), .val (.int lt2), .val (.int f2), .val (.int t2), .val (.ref sb35), .val (.ref sb39), .val (.ref sb43), .val (.ref sb47), .val (.ref b57), .val (.ref b73), .val (.int kd), .val (.int (1 : Int32))] [(.ref b57)])) _
            refine XS.aload X121.here hx rfl (hb hby at_257) rfl rfl ?_
            show Steps p.tables e below (T121.setTop (mkF m 259 #[.val (.int x0), .val (.int x1), .val (.int x2), .val (.int x3), .val (.int x4), .val (.int x5), .val (.int sf), .val (.int stt), .val (.int lf1), .val (.int lt1), .val (.int lf2), .val (.int lt2), .val (.int f2), .val (.int t2), .val (.ref sb35), .val (.ref sb39), .val (.ref sb43), .val (.ref sb47), .val (.ref b57), .val (.ref b73), .val (.int kd), .val (.int (1 : Int32))] [(.ref b73), (.ref b57)])) _
            refine st168.trans ?_
            show Steps p.tables e below (T168.setTop (mkF m 262 #[.val (.int x0), .val (.int x1), .val (.int x2), .val (.int x3), .val (.int x4), .val (.int x5), .val (.int sf), .val (.int stt), .val (.int lf1), .val (.int lt1), .val (.int lf2), .val (.int lt2), .val (.int f2), .val (.int t2), .val (.ref sb35), .val (.ref sb39), .val (.ref sb43), .val (.ref sb47), .val (.ref b57), .val (.ref b73), .val (.int kd), .val (.int (1 : Int32))] [(.int (eqv (chs lf1 x0) (chs lt1 x2) (chs lf2 f2) (chs lt2 t2)))])) _
            refine XS.iload X168.here hx rfl (hb hby at_262) rfl ?_
            show Steps p.tables e below (T168.setTop (mkF m 264 #[.val (.int x0), .val (.int x1), .val (.int x2), .val (.int x3), .val (.int x4), .val (.int x5), .val (.int sf), .val (.int stt), .val (.int lf1), .val (.int lt1), .val (.int lf2), .val (.int lt2), .val (.int f2), .val (.int t2), .val (.ref sb35), .val (.ref sb39), .val (.ref sb43), .val (.ref sb47), .val (.ref b57), .val (.ref b73), .val (.int kd), .val (.int (1 : Int32))] [(.int (1 : Int32)), (.int (eqv (chs lf1 x0) (chs lt1 x2) (chs lf2 f2) (chs lt2 t2)))])) _
            refine XS.icmpNo X168.here hx rfl (hb hby at_264) rfl (teq (own_e2 (own_r3 hlf1) (own_r3b hlf2 (own_r3 hlf1)) (own_r3 hlt1) (own_r3b hlt2 (own_r3 hlt1)) hc232_96 hc245_124)).2 ?_
            show Steps p.tables e below (T168.setTop (mkF m 267 #[.val (.int x0), .val (.int x1), .val (.int x2), .val (.int x3), .val (.int x4), .val (.int x5), .val (.int sf), .val (.int stt), .val (.int lf1), .val (.int lt1), .val (.int lf2), .val (.int lt2), .val (.int f2), .val (.int t2), .val (.ref sb35), .val (.ref sb39), .val (.ref sb43), .val (.ref sb47), .val (.ref b57), .val (.ref b73), .val (.int kd), .val (.int (1 : Int32))] [])) _
            refine XS.aload X168.here hx rfl (hb hby at_267) rfl rfl ?_
            show Steps p.tables e below (T168.setTop (mkF m 269 #[.val (.int x0), .val (.int x1), .val (.int x2), .val (.int x3), .val (.int x4), .val (.int x5), .val (.int sf), .val (.int stt), .val (.int lf1), .val (.int lt1), .val (.int lf2), .val (.int lt2), .val (.int f2), .val (.int t2), .val (.ref sb35), .val (.ref sb39), .val (.ref sb43), .val (.ref sb47), .val (.ref b57), .val (.ref b73), .val (.int kd), .val (.int (1 : Int32))] [(.ref b73)])) _
            refine XS.aload X168.here hx rfl (hb hby at_269) rfl rfl ?_
            show Steps p.tables e below (T168.setTop (mkF m 271 #[.val (.int x0), .val (.int x1), .val (.int x2), .val (.int x3), .val (.int x4), .val (.int x5), .val (.int sf), .val (.int stt), .val (.int lf1), .val (.int lt1), .val (.int lf2), .val (.int lt2), .val (.int f2), .val (.int t2), .val (.ref sb35), .val (.ref sb39), .val (.ref sb43), .val (.ref sb47), .val (.ref b57), .val (.ref b73), .val (.int kd), .val (.int (1 : Int32))] [(.ref b57), (.ref b73)])) _
            refine st171.trans ?_
            show Steps p.tables e below (T171.setTop (mkF m 274 #[.val (.int x0), .val (.int x1), .val (.int x2), .val (.int x3), .val (.int x4), .val (.int x5), .val (.int sf), .val (.int stt), .val (.int lf1), .val (.int lt1), .val (.int lf2), .val (.int lt2), .val (.int f2), .val (.int t2), .val (.ref sb35), .val (.ref sb39), .val (.ref sb43), .val (.ref sb47), .val (.ref b57), .val (.ref b73), .val (.int kd), .val (.int (1 : Int32))] [(.int (eqv (chs lf2 f2) (chs lt2 t2) (chs lf1 x0) (chs lt1 x2)))])) _
            refine XS.iload X171.here hx rfl (hb hby at_274) rfl ?_
            show Steps p.tables e below (T171.setTop (mkF m 276 #[.val (.int x0), .val (.int x1), .val (.int x2), .val (.int x3), .val (.int x4), .val (.int x5), .val (.int sf), .val (.int stt), .val (.int lf1), .val (.int lt1), .val (.int lf2), .val (.int lt2), .val (.int f2), .val (.int t2), .val (.ref sb35), .val (.ref sb39), .val (.ref sb43), .val (.ref sb47), .val (.ref b57), .val (.ref b73), .val (.int kd), .val (.int (1 : Int32))] [(.int (1 : Int32)), (.int (eqv (chs lf2 f2) (chs lt2 t2) (chs lf1 x0) (chs lt1 x2)))])) _
            refine XS.icmpNo X171.here hx rfl (hb hby at_276) rfl (teq (own_e2s (own_r3 hlf1) (own_r3b hlf2 (own_r3 hlf1)) (own_r3 hlt1) (own_r3b hlt2 (own_r3 hlt1)) hc232_96 hc245_124)).2 ?_
            show Steps p.tables e below (T171.setTop (mkF m 279 #[.val (.int x0), .val (.int x1), .val (.int x2), .val (.int x3), .val (.int x4), .val (.int x5), .val (.int sf), .val (.int stt), .val (.int lf1), .val (.int lt1), .val (.int lf2), .val (.int lt2), .val (.int f2), .val (.int t2), .val (.ref sb35), .val (.ref sb39), .val (.ref sb43), .val (.ref sb47), .val (.ref b57), .val (.ref b73), .val (.int kd), .val (.int (1 : Int32))] [])) _
            refine XS.iconst X171.here hx rfl (hb hby at_279) ?_
            show Steps p.tables e below (T171.setTop (mkF m 280 #[.val (.int x0), .val (.int x1), .val (.int x2), .val (.int x3), .val (.int x4), .val (.int x5), .val (.int sf), .val (.int stt), .val (.int lf1), .val (.int lt1), .val (.int lf2), .val (.int lt2), .val (.int f2), .val (.int t2), .val (.ref sb35), .val (.ref sb39), .val (.ref sb43), .val (.ref sb47), .val (.ref b57), .val (.ref b73), .val (.int kd), .val (.int (1 : Int32))] [(.int (1 : Int32))])) _
            refine XS.goto X171.here hx rfl (pc0 := 280) (pc' := 284) rfl (hb hby at_280) (by decide) (by decide) ?_
            show Steps p.tables e below (T171.setTop (mkF m 284 #[.val (.int x0), .val (.int x1), .val (.int x2), .val (.int x3), .val (.int x4), .val (.int x5), .val (.int sf), .val (.int stt), .val (.int lf1), .val (.int lt1), .val (.int lf2), .val (.int lt2), .val (.int f2), .val (.int t2), .val (.ref sb35), .val (.ref sb39), .val (.ref sb43), .val (.ref sb47), .val (.ref b57), .val (.ref b73), .val (.int kd), .val (.int (1 : Int32))] [(.int (1 : Int32))])) _
            exact retOut X171 hx Bd.returns rfl (Or.inl ⟨rfl, Or.inr (Or.inl rfl), _, rfl⟩) (hb hby at_284) hretL
          · show Q_rm0 Z x0 x1 x2 x3 x4 x5 G1 h0 n0 _ T171.heap _
            rw [eq171]
            exact ⟨rfl, N172⟩
set_option maxRecDepth 65536 in
set_option maxHeartbeats 40000000 in
theorem comes_1 {Post : Tables → Env → Array Value → State → Outcome → State → Prop} (hpost : ∀ tb e args s v u, (limb_1_1.after args s (.returned v) u = true ∧ limb_1_2.after args s (.returned v) u = true ∧ True) → ReturnedEndW s (.returned v) u (Jvm.fieldLocs frame_1_writes args s ++ Jvm.arrayLocs frame_1_arrays args s ++ Jvm.staticLocs frame_1_statics s) 40 1216 → Post tb e args s (.returned v) u) :
    ArmFor flags0 classFile x code maxLocals ret World_1 tables_1 room_1 Calls_1 rest_1 Pre_1 Post := by
  intro l hfl _ _ p e ha hc hk s m args below hf hA hF happ hP
  obtain ⟨hcalls, hrest, hpre⟩ := hP
  obtain ⟨-, -, -, hnamed, -, -, -, hat⟩ := (Spec.applies_iff hf).mp happ
  obtain ⟨hg, hn⟩ := and_e (Cond.before_iff.mp (show (Jvm.Cond.and given_1 narrow_1).before args s = true from hpre))
  obtain ⟨u1, v1⟩ := and_e hg
  obtain ⟨u2, v2⟩ := and_e v1
  obtain ⟨u3, v3⟩ := and_e v2
  obtain ⟨u4, v4⟩ := and_e v3
  obtain ⟨u5, v5⟩ := and_e v4
  obtain ⟨u6, v6⟩ := and_e v5
  obtain ⟨w0, w1, w2, w3, w4, w5, rfl⟩ : ∃ w0 w1 w2 w3 w4 w5 : Value, args = #[w0, w1, w2, w3, w4, w5] := by
    have hs : args.size = 6 := by simpa [Cond.value, given_1] using u1
    obtain ⟨L⟩ := args
    match L, hs with
    | [w0, w1, w2, w3, w4, w5], _ => exact ⟨w0, w1, w2, w3, w4, w5, rfl⟩
  have hw := fun d (hd : d ∈ tables_1) => atoms_spec (ws := Jvm.Cond.code x code maxLocals ret :: tables_1) hat d (List.mem_cons_of_mem _ hd)
  have hfit : Fit s := fun {y c} hc i hi => by
    obtain ⟨ha, rfl⟩ := Array.getElem?_eq_some_iff.mp hc
    have q := List.all_eq_true.mp ((Array.all_eq_true_iff_forall_mem.mp hF) _ (Array.getElem_mem ha)) i (List.mem_range.mpr hi)
    simpa [Array.getElem?_eq_getElem hi] using q
  obtain ⟨i0, ei0⟩ := is_v u2
  obtain rfl : w0 = (.int i0) := Option.some.inj ei0
  obtain ⟨i1, ei1⟩ := is_v u3
  obtain rfl : w1 = (.int i1) := Option.some.inj ei1
  obtain ⟨i2, ei2⟩ := is_v u4
  obtain rfl : w2 = (.int i2) := Option.some.inj ei2
  obtain ⟨i3, ei3⟩ := is_v u5
  obtain rfl : w3 = (.int i3) := Option.some.inj ei3
  obtain ⟨i4, ei4⟩ := is_v u6
  obtain rfl : w4 = (.int i4) := Option.some.inj ei4
  obtain ⟨i5, ei5⟩ := is_v v6
  obtain rfl : w5 = (.int i5) := Option.some.inj ei5
  obtain ⟨hsets, hown0⟩ := atoms_of _ (rest_1_c_eq ▸ (show rest_1_c.before _ s = true from hrest))
  have hci := hsets _ (List.mem_of_getElem? (i := 0) rfl)
  obtain ⟨G1, evG⟩ := is_v (Cond.before_iff.mp (hsets _ (List.mem_of_getElem? (i := 1) rfl)))
  have O2 := Sta.start evG (Or.inl hci)
  have P5 : ¬ (G1 = (0 : Int32)) := fun q => by
    have hq := not_v (Cond.before_iff.mp (hsets _ (List.mem_of_getElem? (i := 2) rfl)))
    subst q
    rw [Cond.value, evG, Term.int_eval] at hq
    simp at hq
  have hCH : CHv s EL0 s.vm s.heap := CHv.start (own_EW hw) hcalls.1 (own_cw hsets) (ow19 hw) (ow5 hw)
  obtain ⟨n, o, h1, h2, h3, _, L, rfl, ⟨rfl, N⟩, -, hq⟩ := rm0 l s _ hw tables_1 i0 i1 i2 i3 i4 i5 G1 s.heap s.heap.size (Old.start s) O2 P5 p e ha hc hk s m _ below hf ((Spec.applies_iff_loose hf).mp happ).1 ⟨rfl, State.Warmed39.refl s, rfl, hCH⟩ trivial
  refine ⟨n, _, h1, h2, h3, hpost _ _ _ _ _ _ ⟨Cond.after_iff.mpr rfl, Cond.after_iff.mpr (eq_i res_at (Term.int_eval (1)) rfl), trivial⟩ ⟨hq.1, hq.2.1, hq.2.2.1, (hq.2.2.2.sift fun y hy => Or.inr (N y hy)).mono (by decide) (by decide)⟩⟩
theorem main_1_1 : Claimed_1_1 := comes_1 fun _ _ _ _ _ _ h hF => ⟨h.1, hF⟩
theorem main_1_2 : Claimed_1_2 := comes_1 fun _ _ _ _ _ _ h hF => ⟨h.2.1, hF⟩
end Jvm.Pilot.@@N@@
namespace Jvm.Pilot.@@N@@
open Jvm Jvm.ClassFile Sem Op Lib Jvm.Free Jvm.Stand Jvm.Pilot.@@N@@.Jvm.D
/-! MADE BY PROGRAM (witnessworld.py) out of the Statement's table words and the real class files: 20 classes; the members and pool entries that the words name. The judged class is class 1, her method 1. -/
namespace start1
open Jvm.ClassFile
def u (s : String) : CpInfo := .utf8 (stringToUtf16 s)
/-- a pool by its gaps: so many unusable entries, then the entry; so many at the end -/
def gap : Nat → List CpInfo → List CpInfo
  | 0, r => r
  | n + 1, r => .unusable :: gap n r
def poolList (es : List (Nat × CpInfo)) (last : Nat) : List CpInfo := es.foldr (fun e r => gap e.1 (e.2 :: r)) (gap last [])
def pool (es : List (Nat × CpInfo)) (last : Nat) : Array CpInfo := ⟨poolList es last⟩
def fileOf (pool : Array CpInfo) (this : Nat) (attrs : Array Attribute := #[]) (ms : Array MethodInfo := #[]) (fl : Nat := 33) (sup : Nat := 0) (ifs : Array Nat := #[]) (fds : Array FieldInfo := #[]) : ClassFile where
  minorVersion := 0
  majorVersion := 65
  constantPool := pool
  accessFlags := fl
  thisClass := this
  superClass := sup
  interfaces := ifs
  fields := fds
  methods := ms
  attributes := attrs
def plain (name : String) (sup : Option ClassId) : Class where
  name := name
  kind := .ordinary
  loader := none
  accessFlags := 33
  super := sup
  interfaces := #[]
  cf := none
  fields := #[]
  methods := #[]
  instanceTypes := #[]
  staticTypes := #[]
  resolved := #[]
  callSites := []
  init := .initialized
  statics := none
  mirror := none

def pool0 : Array CpInfo := pool [(5, u "<init>"), (0, u "()V"), (1, .class_ 10), (1, u "java/lang/Object")] 113

def k0c0 : Code := { maxStack := 0, maxLocals := 1, code := object_method_1_code, exceptionTable := #[], attributes := #[] }
def k0m0 : Method := { name := "<init>", desc := "()V", sig := { parameters := [], returnType := none }, accessFlags := 1, code := some k0c0 }
/-- java/lang/Object -/
def k0 : Class := { plain "java/lang/Object" none with
  accessFlags := 33
  interfaces := #[]
  cf := some (fileOf pool0 8 #[] #[{ accessFlags := 1, nameIndex := 5, descriptorIndex := 6, attributes := #[] }] 33 0 #[] #[])
  fields := #[]
  methods := #[k0m0]
  instanceTypes := #[]
  staticTypes := #[]
  resolved := Array.replicate 124 none
  statics := none }

def pool1 : Array CpInfo := pool [(2, .class_ 4), (1, u "java/lang/Object"), (0, u "<init>"), (0, u "()V"), (0, .methodref 8 9), (0, .class_ 10), (0, .nameAndType 11 12), (0, u "com/example/verdictd/verdictd/RolePairEqualsPinLaw"), (0, u "mk"), (0, u "(II)Ljava/lang/String;"), (0, .class_ 14), (0, u "com/example/verdictd/verdictd/RolePair"), (0, .methodref 13 16), (0, .nameAndType 5 17), (0, u "(Ljava/lang/String;Ljava/lang/String;)V"), (0, .methodref 13 19), (0, .nameAndType 20 21), (0, u "equals"), (0, u "(Ljava/lang/Object;)Z"), (0, .methodref 8 23), (0, .nameAndType 24 25), (0, u "same"), (0, u "(IIII)Z"), (0, .class_ 27), (0, u "java/lang/String"), (0, .methodref 26 29), (0, .nameAndType 5 30), (0, u "([C)V"), (2, u "law"), (0, u "(IIIIII)Z")] 3

def k1m0 : Method := { name := "<init>", desc := "()V", sig := { parameters := [], returnType := none }, accessFlags := 1, code := none }
def k1c1 : Code := { maxStack := 4, maxLocals := 22, code := code, exceptionTable := #[], attributes := #[] }
def k1m1 : Method := { name := "law", desc := "(IIIIII)Z", sig := { parameters := [.int, .int, .int, .int, .int, .int], returnType := some .boolean }, accessFlags := 9, code := some k1c1 }
def k1c2 : Code := { maxStack := 6, maxLocals := 4, code := method_3_code, exceptionTable := #[], attributes := #[] }
def k1m2 : Method := { name := "mk", desc := "(II)Ljava/lang/String;", sig := { parameters := [.int, .int], returnType := some (.object "java/lang/String") }, accessFlags := 10, code := some k1c2 }
def k1c3 : Code := { maxStack := 3, maxLocals := 4, code := method_4_code, exceptionTable := #[], attributes := #[] }
def k1m3 : Method := { name := "same", desc := "(IIII)Z", sig := { parameters := [.int, .int, .int, .int], returnType := some .boolean }, accessFlags := 10, code := some k1c3 }
/-- com/example/verdictd/verdictd/RolePairEqualsPinLaw -/
def k1 : Class := { plain "com/example/verdictd/verdictd/RolePairEqualsPinLaw" (some 0) with
  accessFlags := 49
  interfaces := #[]
  cf := some (fileOf pool1 8 #[] #[{ accessFlags := 1, nameIndex := 5, descriptorIndex := 6, attributes := #[] }, { accessFlags := 9, nameIndex := 33, descriptorIndex := 34, attributes := #[] }, { accessFlags := 10, nameIndex := 11, descriptorIndex := 12, attributes := #[] }, { accessFlags := 10, nameIndex := 24, descriptorIndex := 25, attributes := #[] }] 49 2 #[] #[])
  fields := #[]
  methods := #[k1m0, k1m1, k1m2, k1m3]
  instanceTypes := #[]
  staticTypes := #[]
  resolved := Array.replicate 38 none
  statics := none }

def pool2 : Array CpInfo := pool [(1, .class_ 2), (0, u "java/io/Serializable"), (0, .class_ 4), (0, u "java/lang/Object")] 2

/-- java/io/Serializable -/
def k2 : Class := { plain "java/io/Serializable" (some 0) with
  accessFlags := 1537
  interfaces := #[]
  cf := some (fileOf pool2 1 #[] #[] 1537 3 #[] #[])
  fields := #[]
  methods := #[]
  instanceTypes := #[]
  staticTypes := #[]
  resolved := Array.replicate 7 none
  statics := none }

def pool3 : Array CpInfo := pool [(1, .class_ 2), (0, u "java/lang/Comparable"), (0, .class_ 4), (0, u "java/lang/Object")] 7

/-- java/lang/Comparable -/
def k3 : Class := { plain "java/lang/Comparable" (some 0) with
  accessFlags := 1537
  interfaces := #[]
  cf := some (fileOf pool3 1 #[] #[] 1537 3 #[] #[])
  fields := #[]
  methods := #[]
  instanceTypes := #[]
  staticTypes := #[]
  resolved := Array.replicate 12 none
  statics := none }

def pool4 : Array CpInfo := pool [(2, .class_ 4), (1, u "java/lang/CharSequence"), (42, .class_ 48), (0, u "java/lang/CharSequence$1CodePointIterator"), (10, .class_ 60), (0, u "java/lang/CharSequence$1CharIterator"), (5, .class_ 67), (0, u "java/lang/Object")] 63

/-- java/lang/CharSequence -/
def k4 : Class := { plain "java/lang/CharSequence" (some 0) with
  accessFlags := 1537
  interfaces := #[]
  cf := some (fileOf pool4 2 #[.nestMembers #[47, 59]] #[] 1537 66 #[] #[])
  fields := #[]
  methods := #[]
  instanceTypes := #[]
  staticTypes := #[]
  resolved := Array.replicate 131 none
  statics := none }

def pool5 : Array CpInfo := pool [(1, .class_ 2), (0, u "java/lang/constant/Constable"), (0, .class_ 4), (0, u "java/lang/Object")] 6

/-- java/lang/constant/Constable -/
def k5 : Class := { plain "java/lang/constant/Constable" (some 0) with
  accessFlags := 1537
  interfaces := #[]
  cf := some (fileOf pool5 1 #[] #[] 1537 3 #[] #[])
  fields := #[]
  methods := #[]
  instanceTypes := #[]
  staticTypes := #[]
  resolved := Array.replicate 11 none
  statics := none }

def pool6 : Array CpInfo := pool [(1, .class_ 2), (0, u "java/lang/constant/ConstantDesc"), (0, .class_ 4), (0, u "java/lang/Object")] 32

/-- java/lang/constant/ConstantDesc -/
def k6 : Class := { plain "java/lang/constant/ConstantDesc" (some 0) with
  accessFlags := 1537
  interfaces := #[]
  cf := some (fileOf pool6 1 #[] #[] 1537 3 #[] #[])
  fields := #[]
  methods := #[]
  instanceTypes := #[]
  staticTypes := #[]
  resolved := Array.replicate 37 none
  statics := none }

def pool7 : Array CpInfo := pool [(1, .methodref 2 3), (0, .class_ 4), (0, .nameAndType 5 6), (0, u "java/lang/Object"), (0, u "<init>"), (0, u "()V"), (0, .string 8), (0, u ""), (0, .fieldref 10 11), (0, .class_ 12), (0, .nameAndType 13 14), (0, u "java/lang/String"), (0, u "value"), (0, u "[B"), (0, .fieldref 10 16), (0, .nameAndType 17 18), (0, u "coder"), (0, u "B"), (2, u "hash"), (0, u "I"), (2, u "hashIsZero"), (0, u "Z"), (0, .methodref 10 28), (0, .nameAndType 5 29), (0, u "([CIILjava/lang/Void;)V"), (8, .fieldref 10 39), (0, .nameAndType 40 26), (0, u "COMPACT_STRINGS"), (1, .class_ 44), (1, u "java/lang/StringUTF16"), (0, u "compress"), (1, .methodref 42 48), (0, .nameAndType 49 50), (0, u "coderFromArrayLen"), (0, u "([BI)B"), (56, .class_ 109), (1, u "java/lang/StringLatin1"), (67, .methodref 42 178), (0, .nameAndType 45 179), (0, u "([CII)[B"), (361, .methodref 107 542), (0, .nameAndType 543 544), (0, u "equals"), (0, u "([B[B)Z"), (28, u "(Ljava/lang/Object;)Z"), (1, .class_ 576), (0, u "java/lang/CharSequence"), (22, u "CASE_INSENSITIVE_ORDER"), (0, u "Ljava/util/Comparator;"), (409, u "([C)V"), (90, u "serialPersistentFields"), (0, u "[Ljava/io/ObjectStreamField;"), (0, .class_ 1104), (0, u "java/lang/String$CaseInsensitiveComparator"), (1, .class_ 1107), (0, u "java/io/Serializable"), (0, .class_ 1109), (0, u "java/lang/Comparable"), (0, .class_ 1111), (0, u "java/lang/constant/Constable"), (0, .class_ 1113), (0, u "java/lang/constant/ConstantDesc"), (2, u "serialVersionUID"), (0, u "J"), (3, u "REPL"), (0, u "C"), (2, u "LATIN1"), (1, u "UTF16")] 323

def k7m0 : Method := { name := "<init>", desc := "()V", sig := { parameters := [], returnType := none }, accessFlags := 1, code := none }
def k7c1 : Code := { maxStack := 5, maxLocals := 2, code := jdk_42_method_3_code, exceptionTable := #[], attributes := #[] }
def k7m1 : Method := { name := "<init>", desc := "([C)V", sig := { parameters := [(.array .char)], returnType := none }, accessFlags := 1, code := some k7c1 }
def k7c2 : Code := { maxStack := 2, maxLocals := 3, code := jdk_42_method_66_code, exceptionTable := #[], attributes := #[] }
def k7m2 : Method := { name := "equals", desc := "(Ljava/lang/Object;)Z", sig := { parameters := [(.object "java/lang/Object")], returnType := some .boolean }, accessFlags := 1, code := some k7c2 }
def k7c3 : Code := { maxStack := 4, maxLocals := 6, code := jdk_42_method_149_code, exceptionTable := #[], attributes := #[] }
def k7m3 : Method := { name := "<init>", desc := "([CIILjava/lang/Void;)V", sig := { parameters := [(.array .char), .int, .int, (.object "java/lang/Void")], returnType := none }, accessFlags := 2, code := some k7c3 }
/-- java/lang/String -/
def k7 : Class := { plain "java/lang/String" (some 0) with
  accessFlags := 49
  interfaces := #[2, 3, 4, 5, 6]
  cf := some (fileOf pool7 10 #[.nestMembers #[1103]] #[{ accessFlags := 1, nameIndex := 5, descriptorIndex := 6, attributes := #[] }, { accessFlags := 1, nameIndex := 5, descriptorIndex := 1010, attributes := #[] }, { accessFlags := 1, nameIndex := 543, descriptorIndex := 573, attributes := #[] }, { accessFlags := 2, nameIndex := 5, descriptorIndex := 29, attributes := #[] }] 49 2 #[1106, 1108, 575, 1110, 1112] #[{ accessFlags := 18, nameIndex := 13, descriptorIndex := 14, attributes := #[] }, { accessFlags := 18, nameIndex := 17, descriptorIndex := 18, attributes := #[] }, { accessFlags := 2, nameIndex := 21, descriptorIndex := 22, attributes := #[] }, { accessFlags := 2, nameIndex := 25, descriptorIndex := 26, attributes := #[] }, { accessFlags := 26, nameIndex := 1116, descriptorIndex := 1117, attributes := #[] }, { accessFlags := 24, nameIndex := 40, descriptorIndex := 26, attributes := #[] }, { accessFlags := 26, nameIndex := 1101, descriptorIndex := 1102, attributes := #[] }, { accessFlags := 26, nameIndex := 1121, descriptorIndex := 1122, attributes := #[] }, { accessFlags := 25, nameIndex := 599, descriptorIndex := 600, attributes := #[] }, { accessFlags := 24, nameIndex := 1125, descriptorIndex := 18, attributes := #[] }, { accessFlags := 24, nameIndex := 1127, descriptorIndex := 18, attributes := #[] }])
  fields := #[{ name := "value", type := (.array .byte), accessFlags := 18, slot := 0, constantValue := 0 }, { name := "coder", type := .byte, accessFlags := 18, slot := 1, constantValue := 0 }, { name := "hash", type := .int, accessFlags := 2, slot := 2, constantValue := 0 }, { name := "hashIsZero", type := .boolean, accessFlags := 2, slot := 3, constantValue := 0 }, { name := "serialVersionUID", type := .long, accessFlags := 26, slot := 0, constantValue := 0 }, { name := "COMPACT_STRINGS", type := .boolean, accessFlags := 24, slot := 1, constantValue := 0 }, { name := "serialPersistentFields", type := (.array (.object "java/io/ObjectStreamField")), accessFlags := 26, slot := 2, constantValue := 0 }, { name := "REPL", type := .char, accessFlags := 26, slot := 3, constantValue := 0 }, { name := "CASE_INSENSITIVE_ORDER", type := (.object "java/util/Comparator"), accessFlags := 25, slot := 4, constantValue := 0 }, { name := "LATIN1", type := .byte, accessFlags := 24, slot := 5, constantValue := 0 }, { name := "UTF16", type := .byte, accessFlags := 24, slot := 6, constantValue := 0 }]
  methods := #[k7m0, k7m1, k7m2, k7m3]
  instanceTypes := #[(.array .byte), .byte, .int, .boolean]
  staticTypes := #[.long, .boolean, (.array (.object "java/io/ObjectStreamField")), .char, (.object "java/util/Comparator"), .byte, .byte]
  resolved := Array.replicate 1451 none
  statics := some 0 }

def pool8 : Array CpInfo := pool [(1, .methodref 2 3), (0, .class_ 4), (0, .nameAndType 5 6), (0, u "java/lang/Object"), (0, u "<init>"), (0, u "()V"), (0, .fieldref 8 9), (0, .class_ 10), (0, .nameAndType 11 12), (0, u "com/example/verdictd/verdictd/RolePair"), (0, u "from"), (0, u "Ljava/lang/String;"), (0, .fieldref 8 14), (0, .nameAndType 15 12), (0, u "to"), (0, .methodref 17 18), (0, .class_ 19), (0, .nameAndType 20 21), (0, u "java/lang/String"), (0, u "equals"), (0, u "(Ljava/lang/Object;)Z"), (16, u "(Ljava/lang/String;Ljava/lang/String;)V")] 24

def k8c0 : Code := { maxStack := 2, maxLocals := 3, code := prog_28_method_1_code, exceptionTable := #[], attributes := #[] }
def k8m0 : Method := { name := "<init>", desc := "(Ljava/lang/String;Ljava/lang/String;)V", sig := { parameters := [(.object "java/lang/String"), (.object "java/lang/String")], returnType := none }, accessFlags := 0, code := some k8c0 }
def k8c1 : Code := { maxStack := 2, maxLocals := 3, code := prog_28_method_4_code, exceptionTable := #[], attributes := #[] }
def k8m1 : Method := { name := "equals", desc := "(Ljava/lang/Object;)Z", sig := { parameters := [(.object "java/lang/Object")], returnType := some .boolean }, accessFlags := 1, code := some k8c1 }
/-- com/example/verdictd/verdictd/RolePair -/
def k8 : Class := { plain "com/example/verdictd/verdictd/RolePair" (some 0) with
  accessFlags := 48
  interfaces := #[]
  cf := some (fileOf pool8 8 #[] #[{ accessFlags := 0, nameIndex := 5, descriptorIndex := 38, attributes := #[] }, { accessFlags := 1, nameIndex := 20, descriptorIndex := 21, attributes := #[] }] 48 2 #[] #[{ accessFlags := 18, nameIndex := 11, descriptorIndex := 12, attributes := #[] }, { accessFlags := 18, nameIndex := 15, descriptorIndex := 12, attributes := #[] }])
  fields := #[{ name := "from", type := (.object "java/lang/String"), accessFlags := 18, slot := 0, constantValue := 0 }, { name := "to", type := (.object "java/lang/String"), accessFlags := 18, slot := 1, constantValue := 0 }]
  methods := #[k8m0, k8m1]
  instanceTypes := #[(.object "java/lang/String"), (.object "java/lang/String")]
  staticTypes := #[]
  resolved := Array.replicate 63 none
  statics := none }

def pool9 : Array CpInfo := pool [(4, .class_ 6), (1, u "java/lang/Object"), (0, u "<init>"), (0, u "()V"), (5, .class_ 16), (1, u "java/lang/StringLatin1"), (104, u "$assertionsDisabled"), (0, u "Z"), (98, .class_ 223), (1, u "java/lang/StringLatin1$LinesSpliterator"), (57, u "equals"), (0, u "([B[B)Z"), (107, .class_ 391), (0, u "java/lang/StringLatin1$CharsSpliterator")] 3

def k9m0 : Method := { name := "<init>", desc := "()V", sig := { parameters := [], returnType := none }, accessFlags := 0, code := none }
def k9c1 : Code := { maxStack := 3, maxLocals := 3, code := jdk_43_method_13_code, exceptionTable := #[], attributes := #[] }
def k9m1 : Method := { name := "equals", desc := "([B[B)Z", sig := { parameters := [(.array .byte), (.array .byte)], returnType := some .boolean }, accessFlags := 9, code := some k9c1 }
/-- java/lang/StringLatin1 -/
def k9 : Class := { plain "java/lang/StringLatin1" (some 0) with
  accessFlags := 48
  interfaces := #[]
  cf := some (fileOf pool9 14 #[.nestMembers #[390, 221]] #[{ accessFlags := 0, nameIndex := 7, descriptorIndex := 8, attributes := #[] }, { accessFlags := 9, nameIndex := 281, descriptorIndex := 282, attributes := #[] }] 48 4 #[] #[{ accessFlags := 4120, nameIndex := 121, descriptorIndex := 122, attributes := #[] }])
  fields := #[{ name := "$assertionsDisabled", type := .boolean, accessFlags := 4120, slot := 0, constantValue := 0 }]
  methods := #[k9m0, k9m1]
  instanceTypes := #[]
  staticTypes := #[.boolean]
  resolved := Array.replicate 395 none
  statics := none }

def pool10 : Array CpInfo := pool [(6, .class_ 8), (1, u "java/lang/Object"), (0, u "<init>"), (0, u "()V"), (1, .class_ 14), (1, u "java/lang/StringUTF16"), (31, u "$assertionsDisabled"), (0, u "Z"), (13, u "HI_BYTE_SHIFT"), (0, u "I"), (2, u "LO_BYTE_SHIFT"), (49, .methodref 12 116), (0, .nameAndType 117 118), (0, u "compress"), (0, u "([CI[BII)I"), (3, u "([CII)[B"), (138, u "coderFromArrayLen"), (0, u "([BI)B"), (106, .class_ 371), (1, u "java/lang/StringUTF16$LinesSpliterator"), (58, u "MAX_LENGTH"), (196, .class_ 628), (0, u "java/lang/StringUTF16$CodePointsSpliterator"), (0, .class_ 630), (0, u "java/lang/StringUTF16$CharsSpliterator")] 4

def k10m0 : Method := { name := "<init>", desc := "()V", sig := { parameters := [], returnType := none }, accessFlags := 0, code := none }
def k10c1 : Code := { maxStack := 2, maxLocals := 2, code := jdk_52_method_15_code, exceptionTable := #[], attributes := #[] }
def k10m1 : Method := { name := "coderFromArrayLen", desc := "([BI)B", sig := { parameters := [(.array .byte), .int], returnType := some .byte }, accessFlags := 8, code := some k10c1 }
def k10c2 : Code := { maxStack := 5, maxLocals := 6, code := jdk_52_method_16_code, exceptionTable := #[], attributes := #[] }
def k10m2 : Method := { name := "compress", desc := "([CII)[B", sig := { parameters := [(.array .char), .int, .int], returnType := some (.array .byte) }, accessFlags := 9, code := some k10c2 }
def k10c3 : Code := { maxStack := 3, maxLocals := 7, code := jdk_52_method_21_code, exceptionTable := #[], attributes := #[] }
def k10m3 : Method := { name := "compress", desc := "([CI[BII)I", sig := { parameters := [(.array .char), .int, (.array .byte), .int, .int], returnType := some .int }, accessFlags := 9, code := some k10c3 }
/-- java/lang/StringUTF16 -/
def k10 : Class := { plain "java/lang/StringUTF16" (some 0) with
  accessFlags := 48
  interfaces := #[]
  cf := some (fileOf pool10 12 #[.nestMembers #[627, 629, 369]] #[{ accessFlags := 0, nameIndex := 9, descriptorIndex := 10, attributes := #[] }, { accessFlags := 8, nameIndex := 261, descriptorIndex := 262, attributes := #[] }, { accessFlags := 9, nameIndex := 117, descriptorIndex := 122, attributes := #[] }, { accessFlags := 9, nameIndex := 117, descriptorIndex := 118, attributes := #[] }] 48 6 #[] #[{ accessFlags := 26, nameIndex := 61, descriptorIndex := 62, attributes := #[] }, { accessFlags := 26, nameIndex := 65, descriptorIndex := 62, attributes := #[] }, { accessFlags := 24, nameIndex := 430, descriptorIndex := 62, attributes := #[] }, { accessFlags := 4120, nameIndex := 46, descriptorIndex := 47, attributes := #[] }])
  fields := #[{ name := "HI_BYTE_SHIFT", type := .int, accessFlags := 26, slot := 0, constantValue := 0 }, { name := "LO_BYTE_SHIFT", type := .int, accessFlags := 26, slot := 1, constantValue := 0 }, { name := "MAX_LENGTH", type := .int, accessFlags := 24, slot := 2, constantValue := 0 }, { name := "$assertionsDisabled", type := .boolean, accessFlags := 4120, slot := 3, constantValue := 0 }]
  methods := #[k10m0, k10m1, k10m2, k10m3]
  instanceTypes := #[]
  staticTypes := #[.int, .int, .int, .boolean]
  resolved := Array.replicate 635 none
  statics := none }

def pool11 : Array CpInfo := pool [(2, .class_ 4), (1, u "java/lang/Object"), (0, u "<init>"), (0, u "()V"), (17, .class_ 26), (1, u "jdk/internal/util/Preconditions"), (28, .class_ 56), (0, u "jdk/internal/util/Preconditions$4"), (57, .class_ 115), (0, u "jdk/internal/util/Preconditions$1"), (7, u "SIOOBE_FORMATTER"), (0, u "Ljava/util/function/BiFunction;"), (0, .class_ 126), (0, u "jdk/internal/util/Preconditions$2"), (3, u "AIOOBE_FORMATTER"), (0, .class_ 132), (0, u "jdk/internal/util/Preconditions$3"), (3, u "IOOBE_FORMATTER")] 57

def k11m0 : Method := { name := "<init>", desc := "()V", sig := { parameters := [], returnType := none }, accessFlags := 1, code := none }
/-- jdk/internal/util/Preconditions -/
def k11 : Class := { plain "jdk/internal/util/Preconditions" (some 0) with
  accessFlags := 33
  interfaces := #[]
  cf := some (fileOf pool11 24 #[.nestMembers #[55, 131, 125, 114]] #[{ accessFlags := 1, nameIndex := 5, descriptorIndex := 6, attributes := #[] }] 33 2 #[] #[{ accessFlags := 25, nameIndex := 123, descriptorIndex := 124, attributes := #[] }, { accessFlags := 25, nameIndex := 130, descriptorIndex := 124, attributes := #[] }, { accessFlags := 25, nameIndex := 136, descriptorIndex := 124, attributes := #[] }])
  fields := #[{ name := "SIOOBE_FORMATTER", type := (.object "java/util/function/BiFunction"), accessFlags := 25, slot := 0, constantValue := 0 }, { name := "AIOOBE_FORMATTER", type := (.object "java/util/function/BiFunction"), accessFlags := 25, slot := 1, constantValue := 0 }, { name := "IOOBE_FORMATTER", type := (.object "java/util/function/BiFunction"), accessFlags := 25, slot := 2, constantValue := 0 }]
  methods := #[k11m0]
  instanceTypes := #[]
  staticTypes := #[(.object "java/util/function/BiFunction"), (.object "java/util/function/BiFunction"), (.object "java/util/function/BiFunction")]
  resolved := Array.replicate 194 none
  statics := some 1 }

def pool12 : Array CpInfo := pool [(9, u "<init>"), (6, .class_ 18), (1, u "java/lang/Object"), (0, u "()V"), (1, .class_ 23), (1, u "jdk/internal/util/ArraysSupport"), (0, u "LOG2_ARRAY_LONG_INDEX_SCALE"), (0, u "I"), (2, u "U"), (0, u "Ljdk/internal/misc/Unsafe;"), (8, u "BIG_ENDIAN"), (0, u "Z"), (8, u "LOG2_BYTE_BIT_SIZE"), (4, u "LOG2_ARRAY_INT_INDEX_SCALE"), (54, u "JLA"), (0, u "Ljdk/internal/access/JavaLangAccess;"), (11, u "LOG2_ARRAY_BOOLEAN_INDEX_SCALE"), (9, u "LOG2_ARRAY_BYTE_INDEX_SCALE"), (5, u "LOG2_ARRAY_CHAR_INDEX_SCALE"), (5, u "LOG2_ARRAY_SHORT_INDEX_SCALE"), (18, u "LOG2_ARRAY_FLOAT_INDEX_SCALE"), (24, u "LOG2_ARRAY_DOUBLE_INDEX_SCALE"), (89, u "T_BOOLEAN"), (2, u "T_CHAR"), (1, u "T_FLOAT"), (1, u "T_DOUBLE"), (1, u "T_BYTE"), (1, u "T_SHORT"), (1, u "T_INT"), (1, u "T_LONG"), (1, u "SOFT_MAX_ARRAY_LENGTH")] 83

def k12m0 : Method := { name := "<init>", desc := "()V", sig := { parameters := [], returnType := none }, accessFlags := 2, code := none }
/-- jdk/internal/util/ArraysSupport -/
def k12 : Class := { plain "jdk/internal/util/ArraysSupport" (some 0) with
  accessFlags := 33
  interfaces := #[]
  cf := some (fileOf pool12 21 #[] #[{ accessFlags := 2, nameIndex := 9, descriptorIndex := 19, attributes := #[] }] 33 16 #[] #[{ accessFlags := 24, nameIndex := 28, descriptorIndex := 29, attributes := #[] }, { accessFlags := 26, nameIndex := 38, descriptorIndex := 39, attributes := #[] }, { accessFlags := 25, nameIndex := 121, descriptorIndex := 25, attributes := #[] }, { accessFlags := 25, nameIndex := 131, descriptorIndex := 25, attributes := #[] }, { accessFlags := 25, nameIndex := 137, descriptorIndex := 25, attributes := #[] }, { accessFlags := 25, nameIndex := 143, descriptorIndex := 25, attributes := #[] }, { accessFlags := 25, nameIndex := 53, descriptorIndex := 25, attributes := #[] }, { accessFlags := 25, nameIndex := 24, descriptorIndex := 25, attributes := #[] }, { accessFlags := 25, nameIndex := 162, descriptorIndex := 25, attributes := #[] }, { accessFlags := 25, nameIndex := 187, descriptorIndex := 25, attributes := #[] }, { accessFlags := 26, nameIndex := 48, descriptorIndex := 25, attributes := #[] }, { accessFlags := 25, nameIndex := 277, descriptorIndex := 25, attributes := #[] }, { accessFlags := 25, nameIndex := 280, descriptorIndex := 25, attributes := #[] }, { accessFlags := 25, nameIndex := 282, descriptorIndex := 25, attributes := #[] }, { accessFlags := 25, nameIndex := 284, descriptorIndex := 25, attributes := #[] }, { accessFlags := 25, nameIndex := 286, descriptorIndex := 25, attributes := #[] }, { accessFlags := 25, nameIndex := 288, descriptorIndex := 25, attributes := #[] }, { accessFlags := 25, nameIndex := 290, descriptorIndex := 25, attributes := #[] }, { accessFlags := 25, nameIndex := 292, descriptorIndex := 25, attributes := #[] }, { accessFlags := 26, nameIndex := 108, descriptorIndex := 109, attributes := #[] }, { accessFlags := 25, nameIndex := 294, descriptorIndex := 25, attributes := #[] }])
  fields := #[{ name := "U", type := (.object "jdk/internal/misc/Unsafe"), accessFlags := 24, slot := 0, constantValue := 0 }, { name := "BIG_ENDIAN", type := .boolean, accessFlags := 26, slot := 1, constantValue := 0 }, { name := "LOG2_ARRAY_BOOLEAN_INDEX_SCALE", type := .int, accessFlags := 25, slot := 2, constantValue := 0 }, { name := "LOG2_ARRAY_BYTE_INDEX_SCALE", type := .int, accessFlags := 25, slot := 3, constantValue := 0 }, { name := "LOG2_ARRAY_CHAR_INDEX_SCALE", type := .int, accessFlags := 25, slot := 4, constantValue := 0 }, { name := "LOG2_ARRAY_SHORT_INDEX_SCALE", type := .int, accessFlags := 25, slot := 5, constantValue := 0 }, { name := "LOG2_ARRAY_INT_INDEX_SCALE", type := .int, accessFlags := 25, slot := 6, constantValue := 0 }, { name := "LOG2_ARRAY_LONG_INDEX_SCALE", type := .int, accessFlags := 25, slot := 7, constantValue := 0 }, { name := "LOG2_ARRAY_FLOAT_INDEX_SCALE", type := .int, accessFlags := 25, slot := 8, constantValue := 0 }, { name := "LOG2_ARRAY_DOUBLE_INDEX_SCALE", type := .int, accessFlags := 25, slot := 9, constantValue := 0 }, { name := "LOG2_BYTE_BIT_SIZE", type := .int, accessFlags := 26, slot := 10, constantValue := 0 }, { name := "T_BOOLEAN", type := .int, accessFlags := 25, slot := 11, constantValue := 0 }, { name := "T_CHAR", type := .int, accessFlags := 25, slot := 12, constantValue := 0 }, { name := "T_FLOAT", type := .int, accessFlags := 25, slot := 13, constantValue := 0 }, { name := "T_DOUBLE", type := .int, accessFlags := 25, slot := 14, constantValue := 0 }, { name := "T_BYTE", type := .int, accessFlags := 25, slot := 15, constantValue := 0 }, { name := "T_SHORT", type := .int, accessFlags := 25, slot := 16, constantValue := 0 }, { name := "T_INT", type := .int, accessFlags := 25, slot := 17, constantValue := 0 }, { name := "T_LONG", type := .int, accessFlags := 25, slot := 18, constantValue := 0 }, { name := "JLA", type := (.object "jdk/internal/access/JavaLangAccess"), accessFlags := 26, slot := 19, constantValue := 0 }, { name := "SOFT_MAX_ARRAY_LENGTH", type := .int, accessFlags := 25, slot := 20, constantValue := 0 }]
  methods := #[k12m0]
  instanceTypes := #[]
  staticTypes := #[(.object "jdk/internal/misc/Unsafe"), .boolean, .int, .int, .int, .int, .int, .int, .int, .int, .int, .int, .int, .int, .int, .int, .int, .int, .int, (.object "jdk/internal/access/JavaLangAccess"), .int]
  resolved := Array.replicate 378 none
  statics := none }

def pool13 : Array CpInfo := pool [(1, u "java/lang/Cloneable"), (0, .class_ 1), (0, u "java/lang/Object"), (0, .class_ 3)] 3

/-- java/lang/Cloneable -/
def k13 : Class := { plain "java/lang/Cloneable" (some 0) with
  accessFlags := 1537
  interfaces := #[]
  cf := some (fileOf pool13 2 #[] #[] 1537 4 #[] #[])
  fields := #[]
  methods := #[]
  instanceTypes := #[]
  staticTypes := #[]
  resolved := Array.replicate 8 none
  statics := none }

/-- the primitive byte -/
def k14 : Class := { plain "byte" none with kind := .primitive 'B', accessFlags := 0x411 }
/-- [B -/
def k15 : Class := { plain "[B" (some 0) with kind := .array 14 .byte, interfaces := #[13, 2], accessFlags := 1041 }

/-- the primitive char -/
def k16 : Class := { plain "char" none with kind := .primitive 'C', accessFlags := 0x411 }
/-- [C -/
def k17 : Class := { plain "[C" (some 0) with kind := .array 16 .char, interfaces := #[13, 2], accessFlags := 1041 }

/-- the primitive int -/
def k18 : Class := { plain "int" none with kind := .primitive 'I', accessFlags := 0x411 }
/-- [I -/
def k19 : Class := { plain "[I" (some 0) with kind := .array 18 .int, interfaces := #[13, 2], accessFlags := 1041 }

def heap : Heap := #[{ cls := 7, slots := #[.long 0, .int 1, .null, .int 0, .null, .int 0, .int 0], vm := .statics 7 },
  { cls := 11, slots := #[.null, .null, .null], vm := .statics 11 }]
def classes : Array Class := #[k0, k1, k2, k3, k4, k5, k6, k7, k8, k9, k10, k11, k12, k13, k14, k15, k16, k17, k18, k19]
def interned : List (Array UInt16 × Addr) := []
def slotsUsed : Nat := 10
def theMethod : MethodId := ⟨1, 1⟩
def args0 : Array Value := #[.int 5, .int 5, .int 5, .int 5, .int 5, .int 5]
def aboutOver (below : List Frame) : State where
  vm := { classes := classes, interned := interned.toArray }
  heap := heap
  slotsUsed := slotsUsed
  threads := #[{ frames := .invoking theMethod args0 :: below }]
def below0 : List Frame := [.native { method := ⟨0, 0⟩, args := #[] }]
def about1 : State := aboutOver below0
def p0 : Program := .bare "" "" ""
def e0 : Env := launch0.env 0 0 0
theorem w_frames : about1.frames = Frame.invoking theMethod args0 :: below0 := rfl
set_option maxRecDepth 65536 in
theorem w_args : argsFit about1.vm theMethod args0 = true := by decide +kernel
set_option maxRecDepth 65536 in
theorem w_heap : heapFits about1 = true := by decide +kernel
set_option maxRecDepth 65536 in
theorem w_runnable : about1.curStatus? = some .runnable := by decide +kernel
set_option maxRecDepth 65536 in
theorem w_alone : about1.alone = true := by decide +kernel
set_option maxRecDepth 65536 in
theorem w_named : about1.methodNamed? x = some theMethod := by decide +kernel
set_option maxRecDepth 65536 in
theorem w_hears : about1.hears theMethod below0 = true := by decide +kernel
set_option maxRecDepth 65536 in
theorem w_ripe : about1.ripe theMethod args0 below0 = true := by decide +kernel
theorem w_running : about1.status = .running := rfl
set_option maxRecDepth 65536 in
theorem w_room : about1.hasRoom e0.platform room_1 = true :=
  launch0.hasRoom_least _ room_1 (by decide +kernel) (by decide +kernel) (by decide +kernel) (by decide +kernel) (by decide +kernel) (by decide +kernel)
theorem allAtoms_all (ts : List Jvm.Cond) (a : Array Jvm.Value) (st : Jvm.State) : (allAtoms ts).before a st = ts.all (fun c => c.before a st) := by
  induction ts with
  | nil => rfl
  | cons c t ih =>
    show (Jvm.Cond.and c (allAtoms t)).before a st = _
    rw [Jvm.Cond.before_and, ih, List.all_cons]
def words1 : List Jvm.Cond := Jvm.Cond.code x code maxLocals ret :: tables_1
/-- a 'code' word, met by the world's own term for the bytes: nothing is compared byte by byte -/
theorem code_word {y : MethodName} {bytes : ByteArray} {mx : Nat} {rt : Option FieldType} {a : Array Value} {s : State} {m : MethodId} {meth : Method} {c : Code} (h1 : s.methodNamed? y = some m) (h2 : s.vm.method? m = some meth) (h3 : meth.code = some c) (h4 : c.code = bytes)
    (h5 : (c.maxLocals == mx && c.exceptionTable.isEmpty && decide (c.maxStack ≤ mostOperands) && decide (meth.sig.returnType = rt) && !meth.locks && decide (parseMethodDescriptor y.desc = some meth.sig)) = true) : (Jvm.Cond.code y bytes mx rt).before a s = true := by
  simp only [Bool.and_eq_true, beq_iff_eq, Bool.not_eq_true', decide_eq_true_eq] at h5
  obtain ⟨⟨⟨⟨⟨g1, g2⟩, g3⟩, g4⟩, g5⟩, g6⟩ := h5
  simp [Cond.before, Cond.holds, Cond.value, h1, h2, h3, h4, g1, g2, g3, g4, g5, g6]
def isCode : Jvm.Cond → Bool
  | .code _ _ _ _ => true
  | _ => false
theorem all_split {L : List Jvm.Cond} {P : Jvm.Cond → Bool} (h1 : L.all (fun c => isCode c || P c) = true) (h2 : ∀ c ∈ L.filter isCode, P c = true) : L.all P = true := by
  refine List.all_eq_true.mpr fun c hc => ?_
  have h := List.all_eq_true.mp h1 c hc
  rcases Bool.eq_false_or_eq_true (isCode c) with hi | hi
  · exact h2 c (List.mem_filter.mpr ⟨hc, hi⟩)
  · simpa [hi] using h
set_option maxRecDepth 65536 in
theorem w_c0 : (Jvm.Cond.code x code maxLocals ret).before args0 about1 = true := code_word (m := ⟨1, 1⟩) (meth := k1m1) (c := k1c1) (by decide +kernel) rfl rfl rfl (by decide +kernel)
set_option maxRecDepth 65536 in
theorem w_c1 : (Jvm.Cond.code ({ cls := "com/example/verdictd/verdictd/RolePairEqualsPinLaw", name := "mk", desc := "(II)Ljava/lang/String;" } : Jvm.MethodName) method_3_code (4 : Nat) (Option.some (Jvm.ClassFile.FieldType.object "java/lang/String"))).before args0 about1 = true := code_word (m := ⟨1, 2⟩) (meth := k1m2) (c := k1c2) (by decide +kernel) rfl rfl rfl (by decide +kernel)
set_option maxRecDepth 65536 in
theorem w_c2 : (Jvm.Cond.code ({ cls := "java/lang/String", name := "<init>", desc := "([C)V" } : Jvm.MethodName) jdk_42_method_3_code (2 : Nat) (Option.none : Option Jvm.ClassFile.FieldType)).before args0 about1 = true := code_word (m := ⟨7, 1⟩) (meth := k7m1) (c := k7c1) (by decide +kernel) rfl rfl rfl (by decide +kernel)
set_option maxRecDepth 65536 in
theorem w_c3 : (Jvm.Cond.code ({ cls := "java/lang/String", name := "<init>", desc := "([CIILjava/lang/Void;)V" } : Jvm.MethodName) jdk_42_method_149_code (6 : Nat) (Option.none : Option Jvm.ClassFile.FieldType)).before args0 about1 = true := code_word (m := ⟨7, 3⟩) (meth := k7m3) (c := k7c3) (by decide +kernel) rfl rfl rfl (by decide +kernel)
set_option maxRecDepth 65536 in
theorem w_c4 : (Jvm.Cond.code ({ cls := "java/lang/Object", name := "<init>", desc := "()V" } : Jvm.MethodName) object_method_1_code (1 : Nat) (Option.none : Option Jvm.ClassFile.FieldType)).before args0 about1 = true := code_word (m := ⟨0, 0⟩) (meth := k0m0) (c := k0c0) (by decide +kernel) rfl rfl rfl (by decide +kernel)
set_option maxRecDepth 65536 in
theorem w_c5 : (Jvm.Cond.code ({ cls := "com/example/verdictd/verdictd/RolePair", name := "<init>", desc := "(Ljava/lang/String;Ljava/lang/String;)V" } : Jvm.MethodName) prog_28_method_1_code (3 : Nat) (Option.none : Option Jvm.ClassFile.FieldType)).before args0 about1 = true := code_word (m := ⟨8, 0⟩) (meth := k8m0) (c := k8c0) (by decide +kernel) rfl rfl rfl (by decide +kernel)
set_option maxRecDepth 65536 in
theorem w_c6 : (Jvm.Cond.code ({ cls := "com/example/verdictd/verdictd/RolePairEqualsPinLaw", name := "same", desc := "(IIII)Z" } : Jvm.MethodName) method_4_code (4 : Nat) (Option.some Jvm.ClassFile.FieldType.boolean)).before args0 about1 = true := code_word (m := ⟨1, 3⟩) (meth := k1m3) (c := k1c3) (by decide +kernel) rfl rfl rfl (by decide +kernel)
set_option maxRecDepth 65536 in
theorem w_c7 : (Jvm.Cond.code ({ cls := "com/example/verdictd/verdictd/RolePair", name := "equals", desc := "(Ljava/lang/Object;)Z" } : Jvm.MethodName) prog_28_method_4_code (3 : Nat) (Option.some Jvm.ClassFile.FieldType.boolean)).before args0 about1 = true := code_word (m := ⟨8, 1⟩) (meth := k8m1) (c := k8c1) (by decide +kernel) rfl rfl rfl (by decide +kernel)
set_option maxRecDepth 65536 in
theorem w_c8 : (Jvm.Cond.code ({ cls := "java/lang/String", name := "equals", desc := "(Ljava/lang/Object;)Z" } : Jvm.MethodName) jdk_42_method_66_code (3 : Nat) (Option.some Jvm.ClassFile.FieldType.boolean)).before args0 about1 = true := code_word (m := ⟨7, 2⟩) (meth := k7m2) (c := k7c2) (by decide +kernel) rfl rfl rfl (by decide +kernel)
set_option maxRecDepth 65536 in
theorem w_c9 : (Jvm.Cond.code ({ cls := "java/lang/StringLatin1", name := "equals", desc := "([B[B)Z" } : Jvm.MethodName) jdk_43_method_13_code (3 : Nat) (Option.some Jvm.ClassFile.FieldType.boolean)).before args0 about1 = true := code_word (m := ⟨9, 1⟩) (meth := k9m1) (c := k9c1) (by decide +kernel) rfl rfl rfl (by decide +kernel)
set_option maxRecDepth 65536 in
theorem w_c10 : (Jvm.Cond.code ({ cls := "java/lang/StringUTF16", name := "compress", desc := "([CII)[B" } : Jvm.MethodName) jdk_52_method_16_code (6 : Nat) (Option.some (Jvm.ClassFile.FieldType.array Jvm.ClassFile.FieldType.byte))).before args0 about1 = true := code_word (m := ⟨10, 2⟩) (meth := k10m2) (c := k10c2) (by decide +kernel) rfl rfl rfl (by decide +kernel)
set_option maxRecDepth 65536 in
theorem w_c11 : (Jvm.Cond.code ({ cls := "java/lang/StringUTF16", name := "compress", desc := "([CI[BII)I" } : Jvm.MethodName) jdk_52_method_21_code (7 : Nat) (Option.some Jvm.ClassFile.FieldType.int)).before args0 about1 = true := code_word (m := ⟨10, 3⟩) (meth := k10m3) (c := k10c3) (by decide +kernel) rfl rfl rfl (by decide +kernel)
set_option maxRecDepth 65536 in
theorem w_c12 : (Jvm.Cond.code ({ cls := "java/lang/StringUTF16", name := "coderFromArrayLen", desc := "([BI)B" } : Jvm.MethodName) jdk_52_method_15_code (2 : Nat) (Option.some Jvm.ClassFile.FieldType.byte)).before args0 about1 = true := code_word (m := ⟨10, 1⟩) (meth := k10m1) (c := k10c1) (by decide +kernel) rfl rfl rfl (by decide +kernel)
def codes1 : List Jvm.Cond := [Jvm.Cond.code x code maxLocals ret, Jvm.Cond.code ({ cls := "com/example/verdictd/verdictd/RolePairEqualsPinLaw", name := "mk", desc := "(II)Ljava/lang/String;" } : Jvm.MethodName) method_3_code (4 : Nat) (Option.some (Jvm.ClassFile.FieldType.object "java/lang/String")), Jvm.Cond.code ({ cls := "java/lang/String", name := "<init>", desc := "([C)V" } : Jvm.MethodName) jdk_42_method_3_code (2 : Nat) (Option.none : Option Jvm.ClassFile.FieldType), Jvm.Cond.code ({ cls := "java/lang/String", name := "<init>", desc := "([CIILjava/lang/Void;)V" } : Jvm.MethodName) jdk_42_method_149_code (6 : Nat) (Option.none : Option Jvm.ClassFile.FieldType), Jvm.Cond.code ({ cls := "java/lang/Object", name := "<init>", desc := "()V" } : Jvm.MethodName) object_method_1_code (1 : Nat) (Option.none : Option Jvm.ClassFile.FieldType), Jvm.Cond.code ({ cls := "com/example/verdictd/verdictd/RolePair", name := "<init>", desc := "(Ljava/lang/String;Ljava/lang/String;)V" } : Jvm.MethodName) prog_28_method_1_code (3 : Nat) (Option.none : Option Jvm.ClassFile.FieldType), Jvm.Cond.code ({ cls := "com/example/verdictd/verdictd/RolePairEqualsPinLaw", name := "same", desc := "(IIII)Z" } : Jvm.MethodName) method_4_code (4 : Nat) (Option.some Jvm.ClassFile.FieldType.boolean), Jvm.Cond.code ({ cls := "com/example/verdictd/verdictd/RolePair", name := "equals", desc := "(Ljava/lang/Object;)Z" } : Jvm.MethodName) prog_28_method_4_code (3 : Nat) (Option.some Jvm.ClassFile.FieldType.boolean), Jvm.Cond.code ({ cls := "java/lang/String", name := "equals", desc := "(Ljava/lang/Object;)Z" } : Jvm.MethodName) jdk_42_method_66_code (3 : Nat) (Option.some Jvm.ClassFile.FieldType.boolean), Jvm.Cond.code ({ cls := "java/lang/StringLatin1", name := "equals", desc := "([B[B)Z" } : Jvm.MethodName) jdk_43_method_13_code (3 : Nat) (Option.some Jvm.ClassFile.FieldType.boolean), Jvm.Cond.code ({ cls := "java/lang/StringUTF16", name := "compress", desc := "([CII)[B" } : Jvm.MethodName) jdk_52_method_16_code (6 : Nat) (Option.some (Jvm.ClassFile.FieldType.array Jvm.ClassFile.FieldType.byte)), Jvm.Cond.code ({ cls := "java/lang/StringUTF16", name := "compress", desc := "([CI[BII)I" } : Jvm.MethodName) jdk_52_method_21_code (7 : Nat) (Option.some Jvm.ClassFile.FieldType.int), Jvm.Cond.code ({ cls := "java/lang/StringUTF16", name := "coderFromArrayLen", desc := "([BI)B" } : Jvm.MethodName) jdk_52_method_15_code (2 : Nat) (Option.some Jvm.ClassFile.FieldType.byte)]
set_option maxRecDepth 65536 in
theorem codes_eq : words1.filter isCode = codes1 := rfl
theorem w_codes : ∀ c ∈ words1.filter isCode, c.before args0 about1 = true := by
  rw [codes_eq]
  intro c hc
  simp only [codes1, List.mem_cons, List.not_mem_nil, or_false] at hc
  rcases hc with rfl | rfl | rfl | rfl | rfl | rfl | rfl | rfl | rfl | rfl | rfl | rfl | rfl
  · exact w_c0
  · exact w_c1
  · exact w_c2
  · exact w_c3
  · exact w_c4
  · exact w_c5
  · exact w_c6
  · exact w_c7
  · exact w_c8
  · exact w_c9
  · exact w_c10
  · exact w_c11
  · exact w_c12
set_option maxRecDepth 65536 in
theorem w_t1 : (words1.take 24).all (fun c => isCode c || c.before args0 about1) = true := by decide +kernel
set_option maxRecDepth 65536 in
theorem w_t2 : ((words1.drop 24).take 24).all (fun c => isCode c || c.before args0 about1) = true := by decide +kernel
set_option maxRecDepth 65536 in
theorem w_t3 : ((words1.drop 24).drop 24).all (fun c => isCode c || c.before args0 about1) = true := by decide +kernel
theorem w_tables : (allAtoms (Jvm.Cond.code x code maxLocals ret :: tables_1)).before args0 about1 = true := by
  rw [allAtoms_all]
  show words1.all (fun c => c.before args0 about1) = true
  refine all_split ?_ w_codes
  rw [← List.take_append_drop 24 words1, List.all_append, w_t1, ← List.take_append_drop 24 (words1.drop 24), List.all_append, w_t2, w_t3]
  rfl
set_option maxRecDepth 65536 in
theorem w_rest : rest_1_c.before args0 about1 = true := by decide +kernel
set_option maxRecDepth 65536 in
theorem w_case : (Jvm.Cond.and given_1 narrow_1).before args0 about1 = true := by decide +kernel
set_option maxRecDepth 65536 in
theorem w_consts : constsHeld consts_1 about1 := Jvm.Lit.constsHeldB_iff.mp (by decide +kernel)
theorem w_applies : (headSpec (Jvm.Cond.code x code maxLocals ret :: tables_1) room_1).applies x e0.platform about1 = true :=
  (Spec.applies_iff w_frames).mpr ⟨w_running, w_runnable, w_alone, w_named, w_hears, w_ripe, w_room, w_tables⟩
theorem atStart : AtStart classFile x code maxLocals ret World_1 tables_1 room_1 Calls_1 rest_1 Pre_1 launch0 p0 e0 about1 theMethod args0 below0 :=
  ⟨lists_1, trivial, launch0.admits_env _ _ _, launch0.least_env, fairChoices_fair.cas, fairChoices_fair.clock, w_frames, w_args, w_heap, w_applies, ⟨w_consts, trivial⟩, w_rest, w_case⟩
end start1
theorem witness_1 : WitnessClaimed_1 := ⟨start1.p0, start1.e0, start1.about1, start1.theMethod, start1.args0, start1.below0, start1.atStart⟩
end Jvm.Pilot.@@N@@
