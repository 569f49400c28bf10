import JvmDerived
import JvmDerived.Pilot.@@N@@Statement
import JvmDerived.Pilot.@@N@@Code
set_option linter.unusedVariables false
set_option linter.unusedSimpArgs false
/- laws to paste: Road.backV, Road.lenW, Road.chN, Road.codOf (cut by pick.py; bodies as the Statement names them) -/
namespace Jvm.Pilot.@@N@@
namespace StrChars
open Jvm Sem ClassFile Op Lib Jvm.Stand Jvm.Free.XT Jvm.Free.ALB Jvm.Free.JM Jvm.Free
open Jvm.Lib.Cold (StaticIs)
/-- a char array whose places are chars -/
def Ch (a : Addr) (A : Cell) (U : State) : Prop := Arr .char a A U ∧ Typed .char A
theorem Ch.mv {a : Addr} {A : Cell} {U U' : State} (h : Ch a A U) (hal : U.vm.Alike U'.vm) (hh : U'.heap = U.heap) : Ch a A U' := ⟨h.1.mv hal hh, h.2⟩
theorem Ch.keep {a : Addr} {A : Cell} {U U' : State} (h : Ch a A U) (hal : U.vm.Alike U'.vm) (hk : U'.heap[a]? = some A) : Ch a A U' := ⟨h.1.keep hal hk, h.2⟩
/-- what place i of a char[]'s cell holds -/
def cv (A : Cell) (i : Nat) : Int32 := match A.slots[i]? with | some (.int x) => x | _ => 0
theorem Ch.get {a : Addr} {A : Cell} {U : State} (h : Ch a A U) {i : Nat} (hi : i < A.slots.size) : A.slots[i]? = some (.int (cv A i)) := by
  have e := Array.getElem?_eq_getElem hi
  have f := h.2 i _ e
  unfold cv; rw [e]
  generalize A.slots[i] = v at f
  cases v <;> simp [fits] at f ⊢
/-- the byte that i2b leaves of a char -/
def lo8 (x : Int32) : Int32 := x.toInt8.toInt32
theorem fits_lo8 (y : Int32) : fits .byte (.int (lo8 y)) = true := by
  have h1 := y.toInt8.le_toInt
  have h2 := y.toInt8.toInt_lt
  simp only [lo8, fits, Bool.and_eq_true, decide_eq_true_eq, Int32.le_iff_toInt_le, Int8.toInt_toInt32, show (-128 : Int32).toInt = -128 from by decide, show (127 : Int32).toInt = 127 from by decide]
  omega
/-- A' is A but that each place j of lo .. hi - 1 holds f j -/
def Laid (A A' : Cell) (lo hi : Nat) (f : Nat → Value) : Prop := A'.cls = A.cls ∧ A'.vm = A.vm ∧ A'.slots.size = A.slots.size ∧ ∀ i, A'.slots[i]? = if lo ≤ i ∧ i < hi then some (f i) else A.slots[i]?
theorem Laid.zero (A : Cell) (lo : Nat) (f : Nat → Value) : Laid A A lo (lo + 0) f := ⟨rfl, rfl, rfl, fun i => by rw [if_neg (by omega)]⟩
theorem Laid.step {A Ak : Cell} {lo k : Nat} {f : Nat → Value} {v : Value} (h : Laid A Ak lo k f) (hlo : lo ≤ k) (hk : k < Ak.slots.size) (hv : v = f k) : Laid A (Ak.setSlot k v) lo (k + 1) f := by
  refine ⟨h.1, h.2.1, by simpa [Cell.setSlot] using h.2.2.1, fun i => ?_⟩
  by_cases e : k = i
  · subst e; rw [Cell.slots_setSlot_self v hk, if_pos (by omega), hv]
  · rw [Cell.slots_setSlot_ne v e, h.2.2.2 i]
    by_cases q : lo ≤ i ∧ i < k
    · rw [if_pos q, if_pos (by omega)]
    · rw [if_neg q, if_neg (by omega)]
def U16 : String := "java/lang/StringUTF16"
namespace Cmp5
def yN : MethodName := ⟨"java/lang/StringUTF16", "compress", "([CI[BII)I"⟩
abbrev yB : ByteArray := jdk_52_method_21_code
theorem d0 : decode yB 0 = .ok (.iconst 0, 1) := by decide +kernel
theorem d1 : decode yB 1 = .ok (.istore 5, 2) := by decide +kernel
theorem d3 : decode yB 3 = .ok (.iload 5, 2) := by decide +kernel
theorem d5 : decode yB 5 = .ok (.iload 4, 2) := by decide +kernel
theorem d7 : decode yB 7 = .ok (.if_icmp (.ge) 37, 3) := by decide +kernel
theorem d10 : decode yB 10 = .ok (.aload_n 0, 1) := by decide +kernel
theorem d11 : decode yB 11 = .ok (.iload_n 1, 1) := by decide +kernel
theorem d12 : decode yB 12 = .ok (.caload, 1) := by decide +kernel
theorem d13 : decode yB 13 = .ok (.istore 6, 2) := by decide +kernel
theorem d15 : decode yB 15 = .ok (.iload 6, 2) := by decide +kernel
theorem d17 : decode yB 17 = .ok (.sipush 255, 3) := by decide +kernel
theorem d20 : decode yB 20 = .ok (.if_icmp (.le) 6, 3) := by decide +kernel
theorem d26 : decode yB 26 = .ok (.aload_n 2, 1) := by decide +kernel
theorem d27 : decode yB 27 = .ok (.iload_n 3, 1) := by decide +kernel
theorem d28 : decode yB 28 = .ok (.iload 6, 2) := by decide +kernel
theorem d30 : decode yB 30 = .ok (.i2b, 1) := by decide +kernel
theorem d31 : decode yB 31 = .ok (.bastore, 1) := by decide +kernel
theorem d32 : decode yB 32 = .ok (.iinc 1 1, 3) := by decide +kernel
theorem d35 : decode yB 35 = .ok (.iinc 3 1, 3) := by decide +kernel
theorem d38 : decode yB 38 = .ok (.iinc 5 1, 3) := by decide +kernel
theorem d41 : decode yB 41 = .ok (.goto (-38), 3) := by decide +kernel
theorem d44 : decode yB 44 = .ok (.iload 4, 2) := by decide +kernel
theorem d46 : decode yB 46 = .ok (.ireturn, 1) := by decide +kernel
def site : List Cond := []
def tab : Cond := tabOf yN yB 7 (some .int) site
def P (b : Addr) (A : Cell) (d : Addr) (B : Cell) (o q len : Nat) (args : Array Value) (s : State) : Prop := args = #[.ref b, .int (Int32.ofNat o), .ref d, .int (Int32.ofNat q), .int (Int32.ofNat len)] ∧ Ch b A s ∧ Arr .byte d B s ∧ b ≠ d ∧ o + len ≤ A.slots.size ∧ q + len ≤ B.slots.size ∧ ∀ i, i < len → ¬ 255 < cv A (o + i)
def E (b : Addr) (A : Cell) (d : Addr) (B : Cell) (o q len : Nat) (r : Option Value) (s u : State) : Prop := r = some (.int (Int32.ofNat len)) ∧ ∃ B', Put d B' s u ∧ Laid B B' q (q + len) (fun j => Value.int (lo8 (cv A (o + (j - q)))))
/-- no char of the range above 255: len; the places written hold each char's low byte -/
theorem law (l : Launch) (b : Addr) (A : Cell) (d : Addr) (B : Cell) (o q len : Nat) : Law l yN 5 5 0 0 yB 7 (some .int) site (P b A d B o q len) (E b A d B o q len) (copyLocs d q len) 0 0 := by
  refine Law.of_walk (plainFor_of_name (by decide +kernel)) (by decide +kernel) (by decide +kernel) (by decide) (fun _ _ h => by rw [h.1]; rfl) (fun _ U U' hal hh h => ⟨h.1, h.2.1.mv hal hh, h.2.2.1.mv hal hh, h.2.2.2⟩) (fun r U U' V V' h1 hal h2 h => ⟨h.1, h.2.elim fun B' q => ⟨B', q.1.mv h1 h2, q.2⟩⟩) ?_
  intro p e s m args below meth c s₁ X0 hexec hbytes hml hret hlk hnm hown hh0 W hP
  obtain ⟨rfl, hA, hB, hne, l1, l2, hp⟩ := hP
  have c1 : Steps p.tables e below (s₁.setTop (entryFrame m #[.ref b, .int (Int32.ofNat o), .ref d, .int (Int32.ofNat q), .int (Int32.ofNat len)] 7)) (s₁.setTop (mkF m 0 #[.val (.ref b), .val (.int (Int32.ofNat o)), .val (.ref d), .val (.int (Int32.ofNat q)), .val (.int (Int32.ofNat len)), .unset, .unset] [])) := entry rfl
  have hA0 := hA.1.mv X0.warmed.alike hh0
  have hB0 := hB.mv X0.warmed.alike hh0
  have a31 := hA.1.2.2.2
  have c2 : Steps p.tables e below (s₁.setTop (entryFrame m #[.ref b, .int (Int32.ofNat o), .ref d, .int (Int32.ofNat q), .int (Int32.ofNat len)] 7)) (s₁.setTop (mkF m 3 #[.val (.ref b), .val (.int (Int32.ofNat o)), .val (.ref d), .val (.int (Int32.ofNat q)), .val (.int (Int32.ofNat len)), .val (.int 0), .unset] [])) := c1.trans (by
    refine iconstV X0.here hexec rfl 0 (hb hbytes d0) (by decide) ?_
    refine XS.istore X0.here hexec rfl (hb hbytes d1) rfl rfl ?_
    exact Steps.refl _)
  have loop : ∀ (r i : Nat), i + r = len → ∀ (z : Slot), (z = .unset ∨ ∃ w, z = .val w ∧ w.category = 1) → ∀ (Tl : State) (Bk : Cell), Stand p l e { frames := 0, locals := 0, cells := 0, slots := 0 } s m #[.ref b, .int (Int32.ofNat o), .ref d, .int (Int32.ofNat q), .int (Int32.ofNat len)] below meth c Tl ([] ++ copyLocs d q i) 0 0 → Put d Bk s₁ Tl → Laid B Bk q (q + i) (fun j => Value.int (lo8 (cv A (o + (j - q))))) →
      Steps p.tables e below (s₁.setTop (entryFrame m #[.ref b, .int (Int32.ofNat o), .ref d, .int (Int32.ofNat q), .int (Int32.ofNat len)] 7)) (Tl.setTop (mkF m 3 #[.val (.ref b), .val (.int (Int32.ofNat (o + i))), .val (.ref d), .val (.int (Int32.ofNat (q + i))), .val (.int (Int32.ofNat len)), .val (.int (Int32.ofNat i)), z] [])) → ∃ (T' : State) (B' : Cell) (z' : Slot), Stand p l e { frames := 0, locals := 0, cells := 0, slots := 0 } s m #[.ref b, .int (Int32.ofNat o), .ref d, .int (Int32.ofNat q), .int (Int32.ofNat len)] below meth c T' ([] ++ copyLocs d q len) 0 0 ∧ Put d B' s₁ T' ∧ Laid B B' q (q + len) (fun j => Value.int (lo8 (cv A (o + (j - q))))) ∧
      Steps p.tables e below (s₁.setTop (entryFrame m #[.ref b, .int (Int32.ofNat o), .ref d, .int (Int32.ofNat q), .int (Int32.ofNat len)] 7)) (T'.setTop (mkF m 3 #[.val (.ref b), .val (.int (Int32.ofNat (o + len))), .val (.ref d), .val (.int (Int32.ofNat (q + len))), .val (.int (Int32.ofNat len)), .val (.int (Int32.ofNat len)), z'] [])) := by
    intro r
    induction r with
    | zero =>
      intro i hi z hz Tl Bk Xl pl fl cl
      have hil : i = len := by omega
      rw [hil] at Xl fl cl
      exact ⟨Tl, Bk, z, Xl, pl, fl, cl⟩
    | succ r ih =>
      intro i hi z hz Tl Bk Xl pl fl cl
      have all := X0.warmed.alike.symm.trans Xl.warmed.alike
      have hAl := hA0.keep all (pl.other hne hA0.1)
      have hBk := hB0.like all pl.1 fl.1 fl.2.1 fl.2.2.1
      have hlt : q + i < Bk.slots.size := by rw [fl.2.2.1]; omega
      have c3 : Steps p.tables e below (s₁.setTop (entryFrame m #[.ref b, .int (Int32.ofNat o), .ref d, .int (Int32.ofNat q), .int (Int32.ofNat len)] 7)) (Tl.setTop (mkF m 12 #[.val (.ref b), .val (.int (Int32.ofNat (o + i))), .val (.ref d), .val (.int (Int32.ofNat (q + i))), .val (.int (Int32.ofNat len)), .val (.int (Int32.ofNat i)), z] [.int (Int32.ofNat (o + i)), .ref b])) := cl.trans (by
        refine XS.iload Xl.here hexec rfl (hb hbytes d3) rfl ?_
        refine XS.iload Xl.here hexec rfl (hb hbytes d5) rfl ?_
        refine XS.icmpNo Xl.here hexec rfl (hb hbytes d7) rfl (ii_ge_f (lt32 (by omega) (by omega))) ?_
        refine XS.aloadN Xl.here hexec rfl (hb hbytes d10) rfl rfl ?_
        refine XS.iloadN Xl.here hexec rfl (hb hbytes d11) rfl ?_
        exact Steps.refl _)
      have c4 : Steps p.tables e below (s₁.setTop (entryFrame m #[.ref b, .int (Int32.ofNat o), .ref d, .int (Int32.ofNat q), .int (Int32.ofNat len)] 7)) (Tl.setTop (mkF m 13 #[.val (.ref b), .val (.int (Int32.ofNat (o + i))), .val (.ref d), .val (.int (Int32.ofNat (q + i))), .val (.int (Int32.ofNat len)), .val (.int (Int32.ofNat i)), z] [.int (cv A (o + i))])) := c3.trans (by
        refine Xl.aget hexec hAl rfl (hA.get (i := o + i) (by omega)) rfl rfl (hb hbytes d12) ?_
        exact Steps.refl _)
      have c5 : Steps p.tables e below (s₁.setTop (entryFrame m #[.ref b, .int (Int32.ofNat o), .ref d, .int (Int32.ofNat q), .int (Int32.ofNat len)] 7)) (Tl.setTop (mkF m 15 #[.val (.ref b), .val (.int (Int32.ofNat (o + i))), .val (.ref d), .val (.int (Int32.ofNat (q + i))), .val (.int (Int32.ofNat len)), .val (.int (Int32.ofNat i)), .val (.int (cv A (o + i)))] [])) := c4.trans (by
        refine XS.istoreS Xl.here hexec rfl (hb hbytes d13) rfl rfl hz ?_
        exact Steps.refl _)
      have c6 : Steps p.tables e below (s₁.setTop (entryFrame m #[.ref b, .int (Int32.ofNat o), .ref d, .int (Int32.ofNat q), .int (Int32.ofNat len)] 7)) (Tl.setTop (mkF m 31 #[.val (.ref b), .val (.int (Int32.ofNat (o + i))), .val (.ref d), .val (.int (Int32.ofNat (q + i))), .val (.int (Int32.ofNat len)), .val (.int (Int32.ofNat i)), .val (.int (cv A (o + i)))] [.int (lo8 (cv A (o + i))), .int (Int32.ofNat (q + i)), .ref d])) := c5.trans (by
        refine XS.iload Xl.here hexec rfl (hb hbytes d15) rfl ?_
        refine sipushV Xl.here hexec rfl 255 (hb hbytes d17) (by decide) ?_
        refine XS.icmpYes Xl.here hexec rfl (pc0 := 20) rfl (hb hbytes d20) rfl (ii_le_t (hp i (by omega))) (by decide) rfl ?_
        refine XS.aloadN Xl.here hexec rfl (hb hbytes d26) rfl rfl ?_
        refine XS.iloadN Xl.here hexec rfl (hb hbytes d27) rfl ?_
        refine XS.iload Xl.here hexec rfl (hb hbytes d28) rfl ?_
        refine i2b Xl.here hexec rfl (hb hbytes d30) rfl ?_
        exact Steps.refl _)
      obtain ⟨T7, X7, p7, st7⟩ := Xl.aput hexec hBk rfl hlt rfl (fits_lo8 (cv A (o + i))) (g := (mkF m 31 #[.val (.ref b), .val (.int (Int32.ofNat (o + i))), .val (.ref d), .val (.int (Int32.ofNat (q + i))), .val (.int (Int32.ofNat len)), .val (.int (Int32.ofNat i)), .val (.int (cv A (o + i)))] [.int (lo8 (cv A (o + i))), .int (Int32.ofNat (q + i)), .ref d])) rfl (rest := []) rfl (hb hbytes d31)
      have c8 : Steps p.tables e below (s₁.setTop (entryFrame m #[.ref b, .int (Int32.ofNat o), .ref d, .int (Int32.ofNat q), .int (Int32.ofNat len)] 7)) (T7.setTop (mkF m 32 #[.val (.ref b), .val (.int (Int32.ofNat (o + i))), .val (.ref d), .val (.int (Int32.ofNat (q + i))), .val (.int (Int32.ofNat len)), .val (.int (Int32.ofNat i)), .val (.int (cv A (o + i)))] [])) := c6.trans (st7 _ (Steps.refl _))
      have c9 : Steps p.tables e below (s₁.setTop (entryFrame m #[.ref b, .int (Int32.ofNat o), .ref d, .int (Int32.ofNat q), .int (Int32.ofNat len)] 7)) (T7.setTop (mkF m 3 #[.val (.ref b), .val (.int (Int32.ofNat (o + i) + 1)), .val (.ref d), .val (.int (Int32.ofNat (q + i) + 1)), .val (.int (Int32.ofNat len)), .val (.int (Int32.ofNat i + 1)), .val (.int (cv A (o + i)))] [])) := c8.trans (by
        refine iincV X7.here hexec rfl 1 (hb hbytes d32) (by decide) rfl rfl ?_
        refine iincV X7.here hexec rfl 1 (hb hbytes d35) (by decide) rfl rfl ?_
        refine iincV X7.here hexec rfl 1 (hb hbytes d38) (by decide) rfl rfl ?_
        refine XS.goto X7.here hexec rfl (pc0 := 41) rfl (hb hbytes d41) (by decide) rfl ?_
        exact Steps.refl _)
      have c10 : Steps p.tables e below (s₁.setTop (entryFrame m #[.ref b, .int (Int32.ofNat o), .ref d, .int (Int32.ofNat q), .int (Int32.ofNat len)] 7)) (T7.setTop (mkF m 3 #[.val (.ref b), .val (.int (Int32.ofNat (o + (i + 1)))), .val (.ref d), .val (.int (Int32.ofNat (q + (i + 1)))), .val (.int (Int32.ofNat len)), .val (.int (Int32.ofNat (i + 1))), .val (.int (cv A (o + i)))] [])) := by
        have := c9
        rw [succ32, succ32, succ32] at this
        exact this
      exact ih (i + 1) (by omega) _ (Or.inr ⟨_, rfl, rfl⟩) T7 _ (by rw [copyLocs_step, ← List.append_assoc]; exact X7) (pl.trans p7) (fl.step (by omega) hlt (by simp)) c10
  obtain ⟨T9, B9, z9, X9, p9, f9, g9⟩ := loop len 0 (by omega) .unset (Or.inl rfl) s₁ B (by simpa [copyLocs] using X0) ⟨hB0.1, fun _ _ => rfl, rfl⟩ (Laid.zero _ _ _) c2
  have c11 : Steps p.tables e below (s₁.setTop (entryFrame m #[.ref b, .int (Int32.ofNat o), .ref d, .int (Int32.ofNat q), .int (Int32.ofNat len)] 7)) (T9.setTop (mkF m 46 #[.val (.ref b), .val (.int (Int32.ofNat (o + len))), .val (.ref d), .val (.int (Int32.ofNat (q + len))), .val (.int (Int32.ofNat len)), .val (.int (Int32.ofNat len)), z9] [.int (Int32.ofNat len)])) := g9.trans (by
    refine XS.iload X9.here hexec rfl (hb hbytes d3) rfl ?_
    refine XS.iload X9.here hexec rfl (hb hbytes d5) rfl ?_
    refine XS.icmpYes X9.here hexec rfl (pc0 := 7) rfl (hb hbytes d7) rfl (ii_ge_t (nlt32 (by omega) (Nat.le_refl _))) (by decide) rfl ?_
    refine XS.iload X9.here hexec rfl (hb hbytes d44) rfl ?_
    exact Steps.refl _)
  exact ⟨T9, some (.int (Int32.ofNat len)), _, _, _, X9, by simp, rfl, rfl, (fun h => by cases h), ⟨rfl, B9, p9.from hh0, f9⟩, fun fs hl => c11.trans (X9.ireturnOut hexec hret rfl (Or.inl rfl) (hb hbytes d46) hl)⟩
end Cmp5
namespace Cmp3
def yN : MethodName := ⟨"java/lang/StringUTF16", "compress", "([CII)[B"⟩
abbrev yB : ByteArray := jdk_52_method_16_code
theorem d0 : decode yB 0 = .ok (.iload_n 2, 1) := by decide +kernel
theorem d1 : decode yB 1 = .ok (.newarray .byte, 2) := by decide +kernel
theorem d3 : decode yB 3 = .ok (.astore_n 3, 1) := by decide +kernel
theorem d4 : decode yB 4 = .ok (.aload_n 0, 1) := by decide +kernel
theorem d5 : decode yB 5 = .ok (.iload_n 1, 1) := by decide +kernel
theorem d6 : decode yB 6 = .ok (.aload_n 3, 1) := by decide +kernel
theorem d7 : decode yB 7 = .ok (.iconst 0, 1) := by decide +kernel
theorem d8 : decode yB 8 = .ok (.iload_n 2, 1) := by decide +kernel
theorem d9 : decode yB 9 = .ok (.invokestatic 115, 3) := by decide +kernel
theorem d12 : decode yB 12 = .ok (.istore 4, 2) := by decide +kernel
theorem d14 : decode yB 14 = .ok (.iload 4, 2) := by decide +kernel
theorem d16 : decode yB 16 = .ok (.iload_n 2, 1) := by decide +kernel
theorem d17 : decode yB 17 = .ok (.if_icmp (.eq) 40, 3) := by decide +kernel
theorem d57 : decode yB 57 = .ok (.aload_n 3, 1) := by decide +kernel
theorem d58 : decode yB 58 = .ok (.areturn, 1) := by decide +kernel
def site : List Cond := [.arrayClass .byte, Cmp5.tab] ++ staticW U16 115 Cmp5.yN
def tab : Cond := tabOf yN yB 6 (some (.array .byte)) site
def P (b : Addr) (A : Cell) (o len : Nat) (args : Array Value) (s : State) : Prop := args = #[.ref b, .int (Int32.ofNat o), .int (Int32.ofNat len)] ∧ Ch b A s ∧ o + len ≤ A.slots.size ∧ len ≤ 536870912 ∧ ∀ i, i < len → ¬ 255 < cv A (o + i)
def E (b : Addr) (A : Cell) (o len : Nat) (r : Option Value) (s u : State) : Prop := NewArr .byte "[B" len (fun j => .int (lo8 (cv A (o + j)))) r s u ∧ u.heap.size = s.heap.size + 1
/-- no char of the range above 255: a new byte[] of their low bytes -/
theorem law (l : Launch) (b : Addr) (A : Cell) (o len : Nat) : Law l yN 3 3 1 18 yB 6 (some (.array .byte)) site (P b A o len) (E b A o len) [] 1 len := by
  refine Law.of_walk (plainFor_of_name (by decide +kernel)) (by decide +kernel) (by decide +kernel) (by decide) (fun _ _ h => by rw [h.1]; rfl) (fun _ U U' hal hh h => ⟨h.1, h.2.1.mv hal hh, h.2.2⟩) (fun r U U' V V' h1 hal h2 h => ⟨NewArr.mv r U U' V V' h1 hal h2 h.1, by rw [h1, h2]; exact h.2⟩) ?_
  intro p e s m args below meth c s₁ X0 hexec hbytes hml hret hlk hnm hown hh0 W hP
  obtain ⟨rfl, hA, l1, l2, hp⟩ := hP
  have a31 := hA.1.2.2.2
  have c1 : Steps p.tables e below (s₁.setTop (entryFrame m #[.ref b, .int (Int32.ofNat o), .int (Int32.ofNat len)] 6)) (s₁.setTop (mkF m 0 #[.val (.ref b), .val (.int (Int32.ofNat o)), .val (.int (Int32.ofNat len)), .unset, .unset, .unset] [])) := entry rfl
  have c2 : Steps p.tables e below (s₁.setTop (entryFrame m #[.ref b, .int (Int32.ofNat o), .int (Int32.ofNat len)] 6)) (s₁.setTop (mkF m 1 #[.val (.ref b), .val (.int (Int32.ofNat o)), .val (.int (Int32.ofNat len)), .unset, .unset, .unset] [.int (Int32.ofNat len)])) := c1.trans (by
    refine XS.iloadN X0.here hexec rfl (hb hbytes d0) rfl ?_
    exact Steps.refl _)
  obtain ⟨T3, B3, X3, ba3, bs3, bv3, bh3, bf3, st3⟩ := X0.anew hexec (atype := .byte) (wk W (.arrayClass .byte)) rfl (by show len * 1 ≤ _; omega) (by omega) (g := (mkF m 1 #[.val (.ref b), .val (.int (Int32.ofNat o)), .val (.int (Int32.ofNat len)), .unset, .unset, .unset] [.int (Int32.ofNat len)])) rfl (hb hbytes d1) (rest := []) rfl (Nat.le_refl _) (by show 0 + len ≤ len; omega)
  rw [hh0] at ba3 st3
  have kp3 : XT.Kept s T3 := (XT.Kept.of_eq hh0).push bh3
  have hA3 := hA.keep X3.warmed.alike (kp3 _ _ hA.1.1)
  have hne : b ≠ s.heap.size := hA.1.ne
  have c4 : Steps p.tables e below (s₁.setTop (entryFrame m #[.ref b, .int (Int32.ofNat o), .int (Int32.ofNat len)] 6)) (T3.setTop (mkF m 3 #[.val (.ref b), .val (.int (Int32.ofNat o)), .val (.int (Int32.ofNat len)), .unset, .unset, .unset] [.ref s.heap.size])) := c2.trans (st3 _ (Steps.refl _))
  have c5 : Steps p.tables e below (s₁.setTop (entryFrame m #[.ref b, .int (Int32.ofNat o), .int (Int32.ofNat len)] 6)) (T3.setTop (mkF m 9 #[.val (.ref b), .val (.int (Int32.ofNat o)), .val (.int (Int32.ofNat len)), .val (.ref s.heap.size), .unset, .unset] [.int (Int32.ofNat len), .int 0, .ref s.heap.size, .int (Int32.ofNat o), .ref b])) := c4.trans (by
    refine XS.astoreN X3.here hexec rfl (hb hbytes d3) rfl rfl rfl ?_
    refine XS.aloadN X3.here hexec rfl (hb hbytes d4) rfl rfl ?_
    refine XS.iloadN X3.here hexec rfl (hb hbytes d5) rfl ?_
    refine XS.aloadN X3.here hexec rfl (hb hbytes d6) rfl rfl ?_
    refine iconstV X3.here hexec rfl 0 (hb hbytes d7) (by decide) ?_
    refine XS.iloadN X3.here hexec rfl (hb hbytes d8) rfl ?_
    exact Steps.refl _)
  obtain ⟨v6, T6, X6, E6, g6⟩ := X3.callS hexec (Cmp5.law l b A s.heap.size B3 o 0 len) hown (wks W (staticW U16 115 Cmp5.yN)) (wk W Cmp5.tab) (W := 0) (Nat.le_of_ble_eq_true rfl) (Nat.le_of_ble_eq_true rfl) (Nat.le_refl _) (by show 0 + len + 0 ≤ len; omega) (g := (mkF m 9 #[.val (.ref b), .val (.int (Int32.ofNat o)), .val (.int (Int32.ofNat len)), .val (.ref s.heap.size), .unset, .unset] [.int (Int32.ofNat len), .int (Int32.ofNat 0), .ref s.heap.size, .int (Int32.ofNat o), .ref b])) rfl (by rw [hml]; rfl) c5 (argsL := [.ref b, .int (Int32.ofNat o), .ref s.heap.size, .int (Int32.ofNat 0), .int (Int32.ofNat len)]) (rest := []) rfl rfl (by show 2 * 0 + 0 ≤ _; decide) (hb hbytes d9) (⟨rfl, hA3, ba3, hne, l1, by rw [bs3]; simp, hp⟩)
  obtain ⟨rfl, B6, p6, f6⟩ := E6
  have c7 : Steps p.tables e below (s₁.setTop (entryFrame m #[.ref b, .int (Int32.ofNat o), .int (Int32.ofNat len)] 6)) (T6.setTop (mkF m 12 #[.val (.ref b), .val (.int (Int32.ofNat o)), .val (.int (Int32.ofNat len)), .val (.ref s.heap.size), .unset, .unset] [.int (Int32.ofNat len)])) := g6
  have c8 : Steps p.tables e below (s₁.setTop (entryFrame m #[.ref b, .int (Int32.ofNat o), .int (Int32.ofNat len)] 6)) (T6.setTop (mkF m 58 #[.val (.ref b), .val (.int (Int32.ofNat o)), .val (.int (Int32.ofNat len)), .val (.ref s.heap.size), .val (.int (Int32.ofNat len)), .unset] [.ref s.heap.size])) := c7.trans (by
    refine XS.istore X6.here hexec rfl (hb hbytes d12) rfl rfl ?_
    refine XS.iload X6.here hexec rfl (hb hbytes d14) rfl ?_
    refine XS.iloadN X6.here hexec rfl (hb hbytes d16) rfl ?_
    refine XS.icmpYes X6.here hexec rfl (pc0 := 17) rfl (hb hbytes d17) rfl (ii_eq_t rfl) (by decide) rfl ?_
    refine XS.aloadN X6.here hexec rfl (hb hbytes d57) rfl rfl ?_
    exact Steps.refl _)
  have X8 := X6.wide (L' := []) (cells' := 1) (slots' := len) (fun x hx hlt => by
    simp only [List.nil_append, copyLocs, List.mem_map, List.mem_range] at hx
    obtain ⟨i, -, rfl⟩ := hx
    exact absurd hlt (Nat.lt_irrefl _)) (Nat.le_refl _) (by omega)
  exact ⟨T6, some (.ref s.heap.size), _, _, _, X8, rfl, rfl, rfl, (fun h => by cases h), ⟨⟨rfl, B6, ba3.like (X3.warmed.alike.symm.trans X6.warmed.alike) p6.1 f6.1 f6.2.1 f6.2.2.1, f6.2.1.trans bv3, by rw [X6.warmed.alike.findClass, f6.1]; exact bf3, by rw [f6.2.2.1, bs3]; simp, fun j hj => by rw [f6.2.2.2 j, if_pos (by omega)]; rfl, kp3.put p6 (Nat.le_refl _)⟩, by rw [p6.2.2, bh3, hh0]; simp⟩, fun fs hl => c8.trans (X8.areturnOut hexec rfl hret rfl (hb hbytes d58) hl)⟩
end Cmp3
namespace CodL
def yN : MethodName := ⟨"java/lang/StringUTF16", "coderFromArrayLen", "([BI)B"⟩
abbrev yB : ByteArray := jdk_52_method_15_code
theorem d0 : decode yB 0 = .ok (.iload_n 1, 1) := by decide +kernel
theorem d1 : decode yB 1 = .ok (.aload_n 0, 1) := by decide +kernel
theorem d2 : decode yB 2 = .ok (.arraylength, 1) := by decide +kernel
theorem d3 : decode yB 3 = .ok (.isub, 1) := by decide +kernel
theorem d4 : decode yB 4 = .ok (.bipush 31, 2) := by decide +kernel
theorem d6 : decode yB 6 = .ok (.iushr, 1) := by decide +kernel
theorem d7 : decode yB 7 = .ok (.i2b, 1) := by decide +kernel
theorem d8 : decode yB 8 = .ok (.ireturn, 1) := by decide +kernel
def site : List Cond := []
def tab : Cond := tabOf yN yB 2 (some .byte) site
def P (d : Addr) (B : Cell) (args : Array Value) (s : State) : Prop := args = #[.ref d, .int (Int32.ofNat B.slots.size)] ∧ Arr .byte d B s
def E (r : Option Value) (s u : State) : Prop := XT.PureE (some (.int 0)) r s u
/-- an array as long as the number of chars: LATIN1 -/
theorem law (l : Launch) (d : Addr) (B : Cell) : Law l yN 2 2 0 0 yB 2 (some .byte) site (P d B) E [] 0 0 := by
  refine Law.of_walk (plainFor_of_name (by decide +kernel)) (by decide +kernel) (by decide +kernel) (by decide) (fun _ _ h => by rw [h.1]; rfl) (fun _ U U' hal hh h => ⟨h.1, h.2.mv hal hh⟩) (fun r U U' V V' h1 hal h2 h => XT.PureE.mv r U U' V V' h1 hal h2 h) ?_
  intro p e s m args below meth c s₁ X0 hexec hbytes hml hret hlk hnm hown hh0 W hP
  obtain ⟨rfl, hB⟩ := hP
  have hB0 := hB.mv X0.warmed.alike hh0
  have c1 : Steps p.tables e below (s₁.setTop (entryFrame m #[.ref d, .int (Int32.ofNat B.slots.size)] 2)) (s₁.setTop (mkF m 0 #[.val (.ref d), .val (.int (Int32.ofNat B.slots.size))] [])) := entry rfl
  have c2 : Steps p.tables e below (s₁.setTop (entryFrame m #[.ref d, .int (Int32.ofNat B.slots.size)] 2)) (s₁.setTop (mkF m 2 #[.val (.ref d), .val (.int (Int32.ofNat B.slots.size))] [.ref d, .int (Int32.ofNat B.slots.size)])) := c1.trans (by
    refine XS.iloadN X0.here hexec rfl (hb hbytes d0) rfl ?_
    refine XS.aloadN X0.here hexec rfl (hb hbytes d1) rfl rfl ?_
    exact Steps.refl _)
  have c3 : Steps p.tables e below (s₁.setTop (entryFrame m #[.ref d, .int (Int32.ofNat B.slots.size)] 2)) (s₁.setTop (mkF m 8 #[.val (.ref d), .val (.int (Int32.ofNat B.slots.size))] [.int (lo8 (ushr (Int32.ofNat B.slots.size - Int32.ofNat B.slots.size) 31))])) := c2.trans (by
    refine X0.alen hexec hB0 rfl rfl (hb hbytes d2) ?_
    refine XS.isub X0.here hexec rfl (hb hbytes d3) rfl ?_
    refine bipushV X0.here hexec rfl 31 (hb hbytes d4) (by decide) ?_
    refine iushr X0.here hexec rfl (hb hbytes d6) rfl ?_
    refine i2b X0.here hexec rfl (hb hbytes d7) rfl ?_
    exact Steps.refl _)
  have e0 : lo8 (ushr (Int32.ofNat B.slots.size - Int32.ofNat B.slots.size) 31) = 0 := by rw [Int32.sub_self]; decide
  rw [e0] at c3
  exact ⟨s₁, some (.int 0), _, _, _, X0, rfl, rfl, rfl, (fun h => by cases h), ⟨rfl, hh0⟩, fun fs hl => c3.trans (X0.ireturnOut hexec hret rfl (Or.inr (Or.inr (Or.inl rfl))) (hb hbytes d8) hl)⟩
end CodL
/-- the String at a is Latin-1 over a new byte[] (the heap's one new cell): the low bytes of the len chars of A from o on; every cell but a is kept -/
def Got (a : Addr) (D : Cell) (fV fC : Field) (A : Cell) (o len : Nat) (r : Option Value) (s u : State) : Prop := r = none ∧ ∃ D' V : Cell, Blank "java/lang/String" a D' u ∧ Same D D' [fV.slot, fC.slot] ∧ D'.slots[fV.slot]? = some (.ref s.heap.size) ∧ D'.slots[fC.slot]? = some (.int 0) ∧ Arr .byte s.heap.size V u ∧ V.vm = .none ∧ u.vm.findClass "[B" = some V.cls ∧ V.slots.size = len ∧ (∀ j, j < len → V.slots[j]? = some (.int (lo8 (cv A (o + j))))) ∧ (∀ (y : Addr) (c : Cell), y ≠ a → s.heap[y]? = some c → u.heap[y]? = some c) ∧ u.heap.size = s.heap.size + 1
theorem Got.mv {a : Addr} {D A : Cell} {fV fC : Field} {o len : Nat} : ∀ r (U U' V V' : State), U'.heap = U.heap → V.vm.Alike V'.vm → V'.heap = V.heap → Got a D fV fC A o len r U V → Got a D fV fC A o len r U' V' :=
  fun r U U' V V' h1 hal h2 ⟨e0, D', X, a1, a2, a3, a4, a5, a6, a7, a8, a9, a10, a11⟩ => ⟨e0, D', X, a1.mv hal h2, a2, by rw [h1]; exact a3, a4, by rw [h1]; exact a5.mv hal h2, a6, by rw [hal.findClass]; exact a7, a8, a9, by rw [h1, h2]; exact a10, by rw [h1, h2]; exact a11⟩
namespace New4
def yN : MethodName := ⟨"java/lang/String", "<init>", "([CIILjava/lang/Void;)V"⟩
abbrev yB : ByteArray := jdk_42_method_149_code
theorem d0 : decode yB 0 = .ok (.aload_n 0, 1) := by decide +kernel
theorem d1 : decode yB 1 = .ok (.invokespecial 1, 3) := by decide +kernel
theorem d4 : decode yB 4 = .ok (.iload_n 3, 1) := by decide +kernel
theorem d5 : decode yB 5 = .ok (.ifCond (.ne) 22, 3) := by decide +kernel
theorem d27 : decode yB 27 = .ok (.getstatic 38, 3) := by decide +kernel
theorem d30 : decode yB 30 = .ok (.ifCond (.eq) 28, 3) := by decide +kernel
theorem d33 : decode yB 33 = .ok (.aload_n 1, 1) := by decide +kernel
theorem d34 : decode yB 34 = .ok (.iload_n 2, 1) := by decide +kernel
theorem d35 : decode yB 35 = .ok (.iload_n 3, 1) := by decide +kernel
theorem d36 : decode yB 36 = .ok (.invokestatic 177, 3) := by decide +kernel
theorem d39 : decode yB 39 = .ok (.astore 5, 2) := by decide +kernel
theorem d41 : decode yB 41 = .ok (.aload_n 0, 1) := by decide +kernel
theorem d42 : decode yB 42 = .ok (.aload 5, 2) := by decide +kernel
theorem d44 : decode yB 44 = .ok (.iload_n 3, 1) := by decide +kernel
theorem d45 : decode yB 45 = .ok (.invokestatic 47, 3) := by decide +kernel
theorem d48 : decode yB 48 = .ok (.putfield 15, 3) := by decide +kernel
theorem d51 : decode yB 51 = .ok (.aload_n 0, 1) := by decide +kernel
theorem d52 : decode yB 52 = .ok (.aload 5, 2) := by decide +kernel
theorem d54 : decode yB 54 = .ok (.putfield 9, 3) := by decide +kernel
theorem d57 : decode yB 57 = .ok (.return_, 1) := by decide +kernel
def site : List Cond := [.fieldLink "java/lang/String" 38 "java/lang/String" "COMPACT_STRINGS" "Z", Cmp3.tab, CodL.tab, .laysFinal "java/lang/String" "java/lang/String" "value" "[B", .fieldLink "java/lang/String" 9 "java/lang/String" "value" "[B", .laysFinal "java/lang/String" "java/lang/String" "coder" "B", .fieldLink "java/lang/String" 15 "java/lang/String" "coder" "B"] ++ objW "java/lang/String" 1 ++ staticW "java/lang/String" 177 Cmp3.yN ++ staticW "java/lang/String" 47 CodL.yN
def tab : Cond := tabOf yN yB 6 none site
def P (a : Addr) (D : Cell) (fV fC : Field) (b : Addr) (A : Cell) (z : Int32) (o len : Nat) (args : Array Value) (s : State) : Prop := args = #[.ref a, .ref b, .int (Int32.ofNat o), .int (Int32.ofNat len), .null] ∧ Blank "java/lang/String" a D s ∧ Found "java/lang/String" "value" "[B" fV s ∧ Found "java/lang/String" "coder" "B" fC s ∧ Ch b A s ∧ StaticIs s "java/lang/String" "COMPACT_STRINGS" "Z" (.int z) ∧ ¬ z = 0 ∧ 0 < len ∧ o + len ≤ A.slots.size ∧ len ≤ 536870912 ∧ ∀ i, i < len → ¬ 255 < cv A (o + i)
def E (a : Addr) (D : Cell) (fV fC : Field) (A : Cell) (o len : Nat) (r : Option Value) (s u : State) : Prop := Got a D fV fC A o len r s u
/-- len > 0, no char of the range above 255: a Latin-1 String of their low bytes -/
theorem law (l : Launch) (a : Addr) (D : Cell) (fV fC : Field) (b : Addr) (A : Cell) (z : Int32) (o len : Nat) : Law l yN 5 4 2 35 yB 6 none site (P a D fV fC b A z o len) (E a D fV fC A o len) [⟨a, fC.slot⟩, ⟨a, fV.slot⟩] 1 len := by
  refine Law.of_walk (plainFor_of_name (by decide +kernel)) (by decide +kernel) (by decide +kernel) (by decide) (fun _ _ h => by rw [h.1]; rfl) (fun _ U U' hal hh h => ⟨h.1, h.2.1.mv hal hh, h.2.2.1.al hal, h.2.2.2.1.al hal, h.2.2.2.2.1.mv hal hh, h.2.2.2.2.2.1.there hal hh, h.2.2.2.2.2.2⟩) (fun r U U' V V' h1 hal h2 h => Got.mv r U U' V V' h1 hal h2 h) ?_
  intro p e s m args below meth c s₁ X0 hexec hbytes hml hret hlk hnm hown hh0 W hP
  obtain ⟨rfl, hB, f1, f2, hA, s1, hz, l0, l1, l2, hp⟩ := hP
  have a31 := hA.1.2.2.2
  have c1 : Steps p.tables e below (s₁.setTop (entryFrame m #[.ref a, .ref b, .int (Int32.ofNat o), .int (Int32.ofNat len), .null] 6)) (s₁.setTop (mkF m 0 #[.val (.ref a), .val (.ref b), .val (.int (Int32.ofNat o)), .val (.int (Int32.ofNat len)), .val .null, .unset] [])) := entry rfl
  have c2 : Steps p.tables e below (s₁.setTop (entryFrame m #[.ref a, .ref b, .int (Int32.ofNat o), .int (Int32.ofNat len), .null] 6)) (s₁.setTop (mkF m 1 #[.val (.ref a), .val (.ref b), .val (.int (Int32.ofNat o)), .val (.int (Int32.ofNat len)), .val .null, .unset] [.ref a])) := c1.trans (by
    refine XS.aloadN X0.here hexec rfl (hb hbytes d0) rfl rfl ?_
    exact Steps.refl _)
  obtain ⟨T3, X3, q3, st3⟩ := X0.oinit hexec hown (wks W (objW "java/lang/String" 1)) (g := (mkF m 1 #[.val (.ref a), .val (.ref b), .val (.int (Int32.ofNat o)), .val (.int (Int32.ofNat len)), .val .null, .unset] [.ref a])) rfl (by rw [hml]; rfl) (rest := []) rfl (hb hbytes d1) (W := 0) (by show 2 * 0 + 0 ≤ _; decide) (Nat.le_of_ble_eq_true rfl) (Nat.le_of_ble_eq_true rfl)
  have hh3 := q3.trans hh0
  have c4 : Steps p.tables e below (s₁.setTop (entryFrame m #[.ref a, .ref b, .int (Int32.ofNat o), .int (Int32.ofNat len), .null] 6)) (T3.setTop (mkF m 27 #[.val (.ref a), .val (.ref b), .val (.int (Int32.ofNat o)), .val (.int (Int32.ofNat len)), .val .null, .unset] [])) := (c2.trans (st3 _ (Steps.refl _))).trans (by
    refine XS.iloadN X3.here hexec rfl (hb hbytes d4) rfl ?_
    refine XS.ifYes X3.here hexec rfl (pc0 := 5) rfl (hb hbytes d5) rfl (i0_ne_t (nz32 (by omega) l0)) (by decide) rfl ?_
    exact Steps.refl _)
  obtain ⟨T5, X5, q5, st5⟩ := X3.sget hexec hown (wk W (.fieldLink "java/lang/String" 38 "java/lang/String" "COMPACT_STRINGS" "Z")) s1 (fun _ _ h => by rw [hh3]; exact h) (g := (mkF m 27 #[.val (.ref a), .val (.ref b), .val (.int (Int32.ofNat o)), .val (.int (Int32.ofNat len)), .val .null, .unset] [])) rfl (hb hbytes d27)
  have hh5 := q5.trans hh3
  have c6 : Steps p.tables e below (s₁.setTop (entryFrame m #[.ref a, .ref b, .int (Int32.ofNat o), .int (Int32.ofNat len), .null] 6)) (T5.setTop (mkF m 30 #[.val (.ref a), .val (.ref b), .val (.int (Int32.ofNat o)), .val (.int (Int32.ofNat len)), .val .null, .unset] [.int z])) := c4.trans (st5 _ (Steps.refl _))
  have c7 : Steps p.tables e below (s₁.setTop (entryFrame m #[.ref a, .ref b, .int (Int32.ofNat o), .int (Int32.ofNat len), .null] 6)) (T5.setTop (mkF m 36 #[.val (.ref a), .val (.ref b), .val (.int (Int32.ofNat o)), .val (.int (Int32.ofNat len)), .val .null, .unset] [.int (Int32.ofNat len), .int (Int32.ofNat o), .ref b])) := c6.trans (by
    refine XS.ifNo X5.here hexec rfl (hb hbytes d30) rfl (i0_eq_f hz) ?_
    refine XS.aloadN X5.here hexec rfl (hb hbytes d33) rfl rfl ?_
    refine XS.iloadN X5.here hexec rfl (hb hbytes d34) rfl ?_
    refine XS.iloadN X5.here hexec rfl (hb hbytes d35) rfl ?_
    exact Steps.refl _)
  obtain ⟨v8, T8, X8, E8, g8⟩ := X5.callS hexec (Cmp3.law l b A o len) hown (wks W (staticW "java/lang/String" 177 Cmp3.yN)) (wk W Cmp3.tab) (W := 0) (Nat.le_of_ble_eq_true rfl) (Nat.le_of_ble_eq_true rfl) (Nat.le_refl _) (by show 0 + len ≤ len; omega) (g := (mkF m 36 #[.val (.ref a), .val (.ref b), .val (.int (Int32.ofNat o)), .val (.int (Int32.ofNat len)), .val .null, .unset] [.int (Int32.ofNat len), .int (Int32.ofNat o), .ref b])) rfl (by rw [hml]; rfl) c7 (argsL := [.ref b, .int (Int32.ofNat o), .int (Int32.ofNat len)]) (rest := []) rfl rfl (by show 2 * 0 + 0 ≤ _; decide) (hb hbytes d36) (⟨rfl, hA.mv X5.warmed.alike hh5, l1, l2, hp⟩)
  obtain ⟨e8, z8⟩ := E8
  obtain ⟨rfl, N, n1, n2, n3, n4, n5, n6⟩ := NewArr.mv _ T5 s _ _ hh5.symm (Vm.Alike.refl _) rfl e8
  rw [hh5] at z8
  have hB1 := hB.keep X8.warmed.alike (n6 _ _ hB.1)
  have hne : s.heap.size ≠ a := (Nat.ne_of_lt (Array.getElem?_eq_some_iff.mp hB.1).1).symm
  have c9 : Steps p.tables e below (s₁.setTop (entryFrame m #[.ref a, .ref b, .int (Int32.ofNat o), .int (Int32.ofNat len), .null] 6)) (T8.setTop (mkF m 39 #[.val (.ref a), .val (.ref b), .val (.int (Int32.ofNat o)), .val (.int (Int32.ofNat len)), .val .null, .unset] [.ref s.heap.size])) := g8
  have c10 : Steps p.tables e below (s₁.setTop (entryFrame m #[.ref a, .ref b, .int (Int32.ofNat o), .int (Int32.ofNat len), .null] 6)) (T8.setTop (mkF m 45 #[.val (.ref a), .val (.ref b), .val (.int (Int32.ofNat o)), .val (.int (Int32.ofNat len)), .val .null, .val (.ref s.heap.size)] [.int (Int32.ofNat N.slots.size), .ref s.heap.size, .ref a])) := by
    have hc : Steps p.tables e below (s₁.setTop (entryFrame m #[.ref a, .ref b, .int (Int32.ofNat o), .int (Int32.ofNat len), .null] 6)) (T8.setTop (mkF m 45 #[.val (.ref a), .val (.ref b), .val (.int (Int32.ofNat o)), .val (.int (Int32.ofNat len)), .val .null, .val (.ref s.heap.size)] [.int (Int32.ofNat len), .ref s.heap.size, .ref a])) := c9.trans (by
      refine XS.astore X8.here hexec rfl (hb hbytes d39) rfl rfl rfl ?_
      refine XS.aloadN X8.here hexec rfl (hb hbytes d41) rfl rfl ?_
      refine XS.aload X8.here hexec rfl (hb hbytes d42) rfl rfl ?_
      refine XS.iloadN X8.here hexec rfl (hb hbytes d44) rfl ?_
      exact Steps.refl _)
    rw [n4]; exact hc
  obtain ⟨v11, T11, X11, E11, g11⟩ := X8.callS hexec (CodL.law l s.heap.size N) hown (wks W (staticW "java/lang/String" 47 CodL.yN)) (wk W CodL.tab) (W := 1) (Nat.le_of_ble_eq_true rfl) (Nat.le_of_ble_eq_true rfl) (Nat.le_refl _) (by show 0 + len + 0 ≤ len; omega) (g := (mkF m 45 #[.val (.ref a), .val (.ref b), .val (.int (Int32.ofNat o)), .val (.int (Int32.ofNat len)), .val .null, .val (.ref s.heap.size)] [.int (Int32.ofNat N.slots.size), .ref s.heap.size, .ref a])) rfl (by rw [hml]; rfl) c10 (argsL := [.ref s.heap.size, .int (Int32.ofNat N.slots.size)]) (rest := [.ref a]) rfl rfl (by show 2 * 0 + (1 + 0) ≤ _; decide) (hb hbytes d45) (⟨rfl, n1⟩)
  obtain ⟨rfl, q11⟩ := E11
  have hB11 := hB1.mv (X8.warmed.alike.symm.trans X11.warmed.alike) q11
  have c12 : Steps p.tables e below (s₁.setTop (entryFrame m #[.ref a, .ref b, .int (Int32.ofNat o), .int (Int32.ofNat len), .null] 6)) (T11.setTop (mkF m 48 #[.val (.ref a), .val (.ref b), .val (.int (Int32.ofNat o)), .val (.int (Int32.ofNat len)), .val .null, .val (.ref s.heap.size)] [.int 0, .ref a])) := g11
  obtain ⟨T13, X13, p13, bl13, sl13, st13⟩ := X11.finit hexec hown (wk W (.fieldLink "java/lang/String" 15 "java/lang/String" "coder" "B")) (Or.inr ⟨_, (wk W (.laysFinal "java/lang/String" "java/lang/String" "coder" "B"))⟩) (Or.inl ⟨rfl, hnm⟩) f2 (Or.inl rfl) hB11 (t := .byte) (by decide +kernel) rfl (g := (mkF m 48 #[.val (.ref a), .val (.ref b), .val (.int (Int32.ofNat o)), .val (.int (Int32.ofNat len)), .val .null, .val (.ref s.heap.size)] [.int 0, .ref a])) rfl (rest := []) rfl (hb hbytes d48)
  have c14 : Steps p.tables e below (s₁.setTop (entryFrame m #[.ref a, .ref b, .int (Int32.ofNat o), .int (Int32.ofNat len), .null] 6)) (T13.setTop (mkF m 54 #[.val (.ref a), .val (.ref b), .val (.int (Int32.ofNat o)), .val (.int (Int32.ofNat len)), .val .null, .val (.ref s.heap.size)] [.ref s.heap.size, .ref a])) := (c12.trans (st13 _ (Steps.refl _))).trans (by
    refine XS.aloadN X13.here hexec rfl (hb hbytes d51) rfl rfl ?_
    refine XS.aload X13.here hexec rfl (hb hbytes d52) rfl rfl ?_
    exact Steps.refl _)
  obtain ⟨T15, X15, p15, bl15, sl15, st15⟩ := X13.finit hexec hown (wk W (.fieldLink "java/lang/String" 9 "java/lang/String" "value" "[B")) (Or.inr ⟨_, (wk W (.laysFinal "java/lang/String" "java/lang/String" "value" "[B"))⟩) (Or.inl ⟨rfl, hnm⟩) f1 (Or.inl rfl) bl13 (t := (.array .byte)) (by decide +kernel) rfl (g := (mkF m 54 #[.val (.ref a), .val (.ref b), .val (.int (Int32.ofNat o)), .val (.int (Int32.ofNat len)), .val .null, .val (.ref s.heap.size)] [.ref s.heap.size, .ref a])) rfl (rest := []) rfl (hb hbytes d54)
  have c16 : Steps p.tables e below (s₁.setTop (entryFrame m #[.ref a, .ref b, .int (Int32.ofNat o), .int (Int32.ofNat len), .null] 6)) (T15.setTop (mkF m 57 #[.val (.ref a), .val (.ref b), .val (.int (Int32.ofNat o)), .val (.int (Int32.ofNat len)), .val .null, .val (.ref s.heap.size)] [])) := c14.trans (st15 _ (Steps.refl _))
  have ap := apart (Or.inr ⟨_, (wk W (.laysFinal "java/lang/String" "java/lang/String" "value" "[B"))⟩) (Or.inr ⟨_, (wk W (.laysFinal "java/lang/String" "java/lang/String" "coder" "B"))⟩) f1 f2 (t₁ := .array .byte) (t₂ := .byte) (by decide +kernel) (by decide +kernel) (by decide)
  have al := X8.warmed.alike.symm.trans X15.warmed.alike
  have n7 : T11.heap[s.heap.size]? = some N := by rw [q11]; exact n1.1
  exact ⟨T15, none, _, _, _, X15, by simp, rfl, by omega, (fun _ => rfl), ⟨rfl, _, N, bl15, ((Same.refl D _).set _ (by simp)).set _ (by simp), sl15, (Cell.slots_setSlot_ne _ ap).trans sl13, n1.keep al (p15.other hne (p13.other hne n7)), n2, by rw [al.findClass]; exact n3, n4, n5, fun y c h1 h2 => p15.other h1 (p13.other h1 (by rw [q11]; exact n6 y c h2)), by rw [p15.2.2, p13.2.2, q11]; exact z8⟩, fun fs hl => c16.trans (X15.returnOut hexec hret (hb hbytes d57) hl)⟩
end New4
namespace New1
def yN : MethodName := ⟨"java/lang/String", "<init>", "([C)V"⟩
abbrev yB : ByteArray := jdk_42_method_3_code
theorem d0 : decode yB 0 = .ok (.aload_n 0, 1) := by decide +kernel
theorem d1 : decode yB 1 = .ok (.aload_n 1, 1) := by decide +kernel
theorem d2 : decode yB 2 = .ok (.iconst 0, 1) := by decide +kernel
theorem d3 : decode yB 3 = .ok (.aload_n 1, 1) := by decide +kernel
theorem d4 : decode yB 4 = .ok (.arraylength, 1) := by decide +kernel
theorem d5 : decode yB 5 = .ok (.aconst_null, 1) := by decide +kernel
theorem d6 : decode yB 6 = .ok (.invokespecial 27, 3) := by decide +kernel
theorem d9 : decode yB 9 = .ok (.return_, 1) := by decide +kernel
def site : List Cond := [New4.tab] ++ initW "java/lang/String" 27 New4.yN
def tab : Cond := tabOf yN yB 2 none site
def P (a : Addr) (D : Cell) (fV fC : Field) (b : Addr) (A : Cell) (z : Int32) (args : Array Value) (s : State) : Prop := args = #[.ref a, .ref b] ∧ Blank "java/lang/String" a D s ∧ Found "java/lang/String" "value" "[B" fV s ∧ Found "java/lang/String" "coder" "B" fC s ∧ Ch b A s ∧ StaticIs s "java/lang/String" "COMPACT_STRINGS" "Z" (.int z) ∧ ¬ z = 0 ∧ 0 < A.slots.size ∧ A.slots.size ≤ 536870912 ∧ ∀ i, i < A.slots.size → ¬ 255 < cv A i
def E (a : Addr) (D : Cell) (fV fC : Field) (A : Cell) (r : Option Value) (s u : State) : Prop := Got a D fV fC A 0 A.slots.size r s u
/-- new String(chars), not empty, no char above 255: a Latin-1 String of their low bytes -/
theorem law (l : Launch) (a : Addr) (D : Cell) (fV fC : Field) (b : Addr) (A : Cell) (z : Int32) : Law l yN 2 1 3 52 yB 2 none site (P a D fV fC b A z) (E a D fV fC A) [⟨a, fC.slot⟩, ⟨a, fV.slot⟩] 1 A.slots.size := by
  refine Law.of_walk (plainFor_of_name (by decide +kernel)) (by decide +kernel) (by decide +kernel) (by decide) (fun _ _ h => by rw [h.1]; rfl) (fun _ U U' hal hh h => ⟨h.1, h.2.1.mv hal hh, h.2.2.1.al hal, h.2.2.2.1.al hal, h.2.2.2.2.1.mv hal hh, h.2.2.2.2.2.1.there hal hh, h.2.2.2.2.2.2⟩) (fun r U U' V V' h1 hal h2 h => Got.mv r U U' V V' h1 hal h2 h) ?_
  intro p e s m args below meth c s₁ X0 hexec hbytes hml hret hlk hnm hown hh0 W hP
  obtain ⟨rfl, hB, f1, f2, hA, s1, hz, l0, l2, hp⟩ := hP
  have c1 : Steps p.tables e below (s₁.setTop (entryFrame m #[.ref a, .ref b] 2)) (s₁.setTop (mkF m 0 #[.val (.ref a), .val (.ref b)] [])) := entry rfl
  have c2 : Steps p.tables e below (s₁.setTop (entryFrame m #[.ref a, .ref b] 2)) (s₁.setTop (mkF m 6 #[.val (.ref a), .val (.ref b)] [.null, .int (Int32.ofNat A.slots.size), .int 0, .ref b, .ref a])) := c1.trans (by
    refine XS.aloadN X0.here hexec rfl (hb hbytes d0) rfl rfl ?_
    refine XS.aloadN X0.here hexec rfl (hb hbytes d1) rfl rfl ?_
    refine iconstV X0.here hexec rfl 0 (hb hbytes d2) (by decide) ?_
    refine XS.aloadN X0.here hexec rfl (hb hbytes d3) rfl rfl ?_
    refine X0.alen hexec (hA.1.mv X0.warmed.alike hh0) rfl rfl (hb hbytes d4) ?_
    refine XS.aconstNull X0.here hexec rfl (hb hbytes d5) ?_
    exact Steps.refl _)
  obtain ⟨v3, T3, X3, E3, g3⟩ := X0.callN hexec (New4.law l a D fV fC b A z 0 A.slots.size) rfl hown (wks W (initW "java/lang/String" 27 New4.yN)) (W New4.tab (by simp only [site, List.mem_cons, List.mem_append, true_or, or_true])) (W := 0) (Nat.le_of_ble_eq_true rfl) (Nat.le_of_ble_eq_true rfl) (Nat.le_refl _) (by show 0 + A.slots.size ≤ A.slots.size; omega) (g := (mkF m 6 #[.val (.ref a), .val (.ref b)] [.null, .int (Int32.ofNat A.slots.size), .int (Int32.ofNat 0), .ref b, .ref a])) rfl (by rw [hml]; rfl) c2 (argsL := [.ref b, .int (Int32.ofNat 0), .int (Int32.ofNat A.slots.size), .null]) (rest := []) rfl rfl (by show 2 * 0 + 0 ≤ _; decide) (hb hbytes d6) (⟨rfl, hB.mv X0.warmed.alike hh0, f1.al X0.warmed.alike, f2.al X0.warmed.alike, hA.mv X0.warmed.alike hh0, s1.there X0.warmed.alike hh0, hz, l0, by omega, l2, fun i hi => by rw [Nat.zero_add]; exact hp i hi⟩)
  have e0 := Got.mv _ s₁ s _ _ hh0.symm (Vm.Alike.refl _) rfl E3
  obtain rfl := e0.1
  have c4 : Steps p.tables e below (s₁.setTop (entryFrame m #[.ref a, .ref b] 2)) (T3.setTop (mkF m 9 #[.val (.ref a), .val (.ref b)] [])) := g3
  exact ⟨T3, none, _, _, _, X3, by simp, rfl, by omega, (fun _ => rfl), e0, fun fs hl => c4.trans (X3.returnOut hexec hret (hb hbytes d9) hl)⟩
theorem pays {l : Launch} {R : Room} {p : Program} {e : Env} {below : List Frame} {s : State} {sargs : Array Value} {len W : Nat} (a : Addr) (D : Cell) (fV fC : Field) (b : Addr) (A : Cell) (z : Int32) (htab : tab.before sargs s = true) (hfr : 4 ≤ R.frames) (hlo : W + 65 ≤ R.locals) :
    Back l R p e below s sargs yN len W (fun A₁ a₁ => A₁.cells + 1 ≤ R.cells ∧ A₁.slots + A.slots.size ≤ R.slots ∧ P a D fV fC b A z a₁ A₁.U) (fun A₁ _ v₁ B₁ => E a D fV fC A v₁ A₁.U B₁.U ∧ B₁.locs = A₁.locs ++ [⟨a, fC.slot⟩, ⟨a, fV.slot⟩] ∧ B₁.cells = A₁.cells + 1 ∧ B₁.slots = A₁.slots + A.slots.size) :=
  (law l a D fV fC b A z).pays htab hfr (by omega)
end New1
/-- the byte, read back as charAt reads it, is the char -/
theorem lo8_mask {x : Int32} (h0 : ¬ x < 0) (h1 : ¬ 255 < x) : lo8 x &&& 255 = x := by
  have t : ∀ k : Fin 256, lo8 (Int32.ofNat k.val) &&& 255 = Int32.ofNat k.val := by decide +kernel
  rw [Int32.lt_iff_toInt_lt] at h0 h1
  have e0 : (0 : Int32).toInt = 0 := rfl
  have e1 : (255 : Int32).toInt = 255 := rfl
  obtain ⟨k, hk⟩ : ∃ k : Nat, x.toInt = k := ⟨x.toInt.toNat, by omega⟩
  have hx : x = Int32.ofNat k := Int32.toInt_inj.mp (by rw [hk, Int32.toInt_ofNat_small (by omega)])
  rw [hx]
  exact t ⟨k, by omega⟩
end StrChars
namespace StrChars.Road
open Jvm Sem ClassFile Op Lib Jvm.Stand Jvm.Free Jvm.Free.XT
open Jvm.Lib.Cold (StaticIs)
abbrev ST : String := "java/lang/String"
/-- every table word that New1's law asks, flat -/
abbrev words : List Jvm.Cond := [.code New1.yN New1.yB 2 none, .initialized ST, .methodLink ST 27 New4.yN, .instanceMethod New4.yN,
  .code New4.yN New4.yB 6 none, .fieldLink ST 38 ST "COMPACT_STRINGS" "Z", .laysFinal ST ST "value" "[B", .fieldLink ST 9 ST "value" "[B", .laysFinal ST ST "coder" "B", .fieldLink ST 15 ST "coder" "B",
  .methodLink ST 1 Lib.objectInit, .instanceMethod Lib.objectInit, .code Lib.objectInit ⟨#[0xb1]⟩ 1 none, .methodLink ST 177 Cmp3.yN, .static Cmp3.yN, .methodLink ST 47 CodL.yN, .static CodL.yN,
  .code Cmp3.yN Cmp3.yB 6 (some (.array .byte)), .initialized U16, .arrayClass .byte, .methodLink U16 115 Cmp5.yN, .static Cmp5.yN, .code Cmp5.yN Cmp5.yB 7 (some .int), .code CodL.yN CodL.yB 2 (some .byte)]
theorem tab_of {a : Array Value} {s : State} (h : ∀ w ∈ words, w.before a s = true) : New1.tab.before a s = true := by
  have h5 : Cmp5.tab.before a s = true := unparts (wk h (.code Cmp5.yN Cmp5.yB 7 (some .int))) (wks h (.initialized Cmp5.yN.cls :: Cmp5.site))
  have hc : CodL.tab.before a s = true := unparts (wk h (.code CodL.yN CodL.yB 2 (some .byte))) (wks h (.initialized CodL.yN.cls :: CodL.site))
  have q5 : ∀ w ∈ Cmp5.tab :: words, w.before a s = true := fun w hw => (List.mem_cons.mp hw).elim (fun e => e ▸ h5) (h w)
  have h3 : Cmp3.tab.before a s = true := unparts (wk q5 (.code Cmp3.yN Cmp3.yB 6 (some (.array .byte)))) (wks q5 (.initialized Cmp3.yN.cls :: Cmp3.site))
  have q3 : ∀ w ∈ Cmp3.tab :: CodL.tab :: words, w.before a s = true := fun w hw => (List.mem_cons.mp hw).elim (fun e => e ▸ h3) fun hw => (List.mem_cons.mp hw).elim (fun e => e ▸ hc) (h w)
  have h4 : New4.tab.before a s = true := unparts (wk q3 (.code New4.yN New4.yB 6 none)) (wks q3 (.initialized New4.yN.cls :: New4.site))
  have q4 : ∀ w ∈ New4.tab :: words, w.before a s = true := fun w hw => (List.mem_cons.mp hw).elim (fun e => e ▸ h4) (h w)
  exact unparts (wk q4 (.code New1.yN New1.yB 2 none)) (wks q4 (.initialized New1.yN.cls :: New1.site))
/-- the words ride from the start Z to the walk's own state -/
theorem moved {Z s : State} {a0 args : Array Value} (hZ : Z.Warmed39 s.vm) (hw : ∀ d ∈ words, d.before a0 Z = true) : ∀ d ∈ words, d.before args s = true := fun d hd => by
  have q := hw d hd
  have t : ∀ d ∈ words, d = .arrayClass .byte ∨ (d.onTables && d.keepsFace) = true := by decide +kernel
  rcases t d hd with rfl | t
  · exact RoadKit.mvA hZ q
  · exact RoadKit.mv hZ q t
/-- WHAT COMES BACK, over the tables of the start Z: h the heap at the call, h' behind it -/
def Q (Z : State) (x : Addr) (A : Cell) (h : Heap) (v : Option Value) (h' : Heap) (L : List Loc) : Prop := v = none ∧ (∀ y ∈ L, y.base = x) ∧ RoadKit.Keep h h' [x] ∧ h'.size = h.size + 1 ∧ RoadKit.Exa Z h' x ST ∧ RoadKit.Fld Z h' x ST "value" "[B" (.ref h.size) ∧ RoadKit.Fld Z h' x ST "coder" "B" (.int 0) ∧
  (∃ V : Cell, RoadKit.Arr Z h' h.size V .byte ∧ V.vm = .none ∧ Z.vm.findClass "[B" = some V.cls ∧ V.slots.size = A.slots.size ∧ ∀ j, j < A.slots.size → V.slots[j]? = some (.int (lo8 (cv A j)))) ∧
  ∀ (O n d : String) (w : Value), RoadKit.Fld Z h x O n d w → RoadKit.slotOf Z O n d ≠ RoadKit.slotOf Z ST "value" "[B" → RoadKit.slotOf Z O n d ≠ RoadKit.slotOf Z ST "coder" "B" → RoadKit.Fld Z h' x O n d w
/-- **new String(chars) AT A CALL, IN THE ROAD'S FORM**: for specialBack behind newO: x the fresh String, b the char[] with the cell A -/
theorem back {p : Program} {l : Launch} {e : Env} {R : Room} {s : State} {args : Array Value} {below : List Frame} {len W : Nat} {Z : State} {a0 : Array Value} {h : Heap} (hZ : Z.Warmed39 s.vm) (hw : ∀ d ∈ words, d.before a0 Z = true) {kI : Nat} (wi : (Jvm.Cond.instantiable ST kI).before a0 Z = true)
    {x b : Addr} {A : Cell} {z : Int32} {v0 c0 : Value} (E : RoadKit.Exa Z h x ST) (V : RoadKit.Fld Z h x ST "value" "[B" v0) (C : RoadKit.Fld Z h x ST "coder" "B" c0) (K : RoadKit.Arr Z h b A .char) (hty : Typed .char A) (S : RoadKit.Sta Z h ST "COMPACT_STRINGS" "Z" (.int z)) (hz : ¬ z = 0)
    (l0 : 0 < A.slots.size) (l2 : A.slots.size ≤ 536870912) (hp : ∀ i, i < A.slots.size → ¬ 255 < cv A i) (hfr : 4 ≤ R.frames) (hlo : W + 65 ≤ R.locals) :
    Back l R p e below s args New1.yN len W (fun P a => a = #[.ref x, .ref b] ∧ P.U.heap = h ∧ P.cells + 1 ≤ R.cells ∧ P.slots + A.slots.size ≤ R.slots)
      (fun P _ v B => ∃ L, Q Z x A h v B.U.heap L ∧ B.locs = P.locs ++ L ∧ B.cells = P.cells + 1 ∧ B.slots = P.slots + A.slots.size) := by
  intro m meth c P g ig mk a X hg hsize hdg hW hn hp'
  obtain ⟨rfl, rfl, r1, r2⟩ := hp'
  have al : Z.vm.Alike P.U.vm := hZ.alike.trans X.warmed.alike
  obtain ⟨D, cfV, kV, iV, fV, hD, gV, stV, knV, obV, asV, slV⟩ := id V
  obtain ⟨D', cfC, kC, iC, fC, hD', gC, stC, -, -, asC, slC⟩ := id C
  cases hD.symm.trans hD'
  obtain ⟨D2, kD, e1, e2, e3, e4, e5⟩ := id E
  cases hD.symm.trans e1
  obtain ⟨c2, k2, i1, i2, i3, -⟩ := Cond.instantiable_spec wi
  cases e2.symm.trans i1
  cases e3.symm.trans i2
  obtain ⟨kU, u1, u2⟩ := al.2.2 _ _ e3
  have hB : Blank ST x D P.U := ⟨hD, ⟨knV, fun q hq => by rw [hq] at obV; cases obV⟩, by rw [al.findClass]; exact e2, kU, u1, by rw [u2]; exact i3, by rw [u2]; exact e5 i3⟩
  have F1 : Found ST "value" "[B" fV P.U := ⟨SBG.found_only al ⟨cfV, kV, iV, gV⟩, stV⟩
  have F2 : Found ST "coder" "B" fC P.U := ⟨SBG.found_only al ⟨cfC, kC, iC, gC⟩, stC⟩
  have hA : Ch b A P.U := ⟨⟨K.1, State.isArrayOf_alike al K.2.1, K.2.2, by omega⟩, hty⟩
  have hS : StaticIs P.U ST "COMPACT_STRINGS" "Z" (.int z) := by
    obtain ⟨cfS, iS, kS, fS, st, cS, t1, t2, t3, t4, t5, t6, t7⟩ := S
    exact StaticIs.there (s := { Z with heap := P.U.heap }) ⟨cfS, iS, kS, fS, st, cS, t1, t2, t3, t4, t5, (fun q => by rw [q] at t6; cases t6), t7⟩ al rfl
  obtain ⟨v, B, X', ⟨⟨hv, E', V', q1, q2, q3, q4, q5, q6, q7, q8, q9, q10, q11⟩, hl, hc, hs⟩, st⟩ := New1.pays x D fV fC b A z (tab_of (moved hZ hw)) hfr hlo m meth c P g ig mk _ X hg hsize hdg hW hn ⟨r1, r2, rfl, hB, F1, F2, hA, hS, hz, l0, l2, hp⟩
  have al' : Z.vm.Alike B.U.vm := hZ.alike.trans X'.warmed.alike
  have hsz : E'.slots.size = D.slots.size := by
    obtain ⟨-, -, -, kB, w1, w2, w3⟩ := q1
    obtain ⟨kB', y1, y2⟩ := al'.2.2 _ _ e3
    rw [q2.2.1] at w1
    cases w1.symm.trans y1
    rw [w3, e5 i3, y2]
  refine ⟨v, B, X', ⟨_, ⟨hv, ?_, ⟨by omega, fun y cy hy hn' => q10 y cy (by simpa using hn') hy, fun y cy hy => ?_⟩, q11, ⟨E', _, q1.1, by rw [q2.2.1]; exact e2, by rw [q2.2.1]; exact e3, by rw [q2.1]; exact obV, fun _ => by rw [hsz]; exact e5 i3⟩,
    ⟨E', cfV, kV, iV, fV, q1.1, gV, stV, by rw [q2.1]; exact knV, by rw [q2.1]; exact obV, by rw [q2.2.1]; exact asV, q3⟩, ⟨E', cfC, kC, iC, fC, q1.1, gC, stC, by rw [q2.1]; exact knV, by rw [q2.1]; exact obV, by rw [q2.2.1]; exact asC, q4⟩,
    ⟨V', ⟨q5.1, State.isArrayOf_alike al'.symm q5.2.1, q5.2.2.1⟩, q6, by rw [← al'.findClass]; exact q7, q8, fun j hj => by have := q9 j hj; rwa [Nat.zero_add] at this⟩, fun O n d w F n1 n2 => ?_⟩, hl, hc, hs⟩, st⟩
  · intro y hy
    simp only [List.mem_cons, List.not_mem_nil, or_false] at hy
    rcases hy with rfl | rfl <;> rfl
  · by_cases q : y = x
    · subst q
      cases hD.symm.trans hy
      exact ⟨E', q1.1, q2.2.1, q2.1, hsz⟩
    · exact ⟨cy, q10 y cy q hy, rfl, rfl, rfl⟩
  · obtain ⟨D3, cf, k, i, f, g1, g2, g3, g4, g5, g6, g7⟩ := F
    cases hD.symm.trans g1
    simp only [RoadKit.slotOf, g2, gV, gC, Option.map_some, Option.getD_some] at n1 n2
    exact ⟨E', cf, k, i, f, q1.1, g2, g3, by rw [q2.1]; exact g4, by rw [q2.1]; exact g5, by rw [q2.2.1]; exact g6, by rw [q2.2.2 f.slot (by simp [n1, n2])]; exact g7⟩
end StrChars.Road
namespace StrChars.Road
open Jvm Sem ClassFile Op Lib Jvm.Stand Jvm.Free Jvm.Free.XT
/-- WHAT COMES BACK, the byte[] as a list of values -/
def QA (Z : State) (x : Addr) (zn : Int32) (cs : List Int32) (h : Heap) (v : Option Value) (h' : Heap) (L : List Loc) : Prop := v = none ∧ (∀ y ∈ L, y.base = x) ∧ RoadKit.Keep h h' [x] ∧ h'.size = h.size + 1 ∧ RoadKit.Exa Z h' x ST ∧ RoadKit.Fld Z h' x ST "value" "[B" (.ref h.size) ∧ RoadKit.Fld Z h' x ST "coder" "B" (.int 0) ∧
  (∃ kb, Z.vm.findClass "[B" = some kb ∧ RoadKit.Arv Z h' h.size kb .byte zn (cs.map fun c => .int (lo8 c)) (.int 0)) ∧
  ∀ (O n d : String) (w : Value), RoadKit.Fld Z h x O n d w → RoadKit.slotOf Z O n d ≠ RoadKit.slotOf Z ST "value" "[B" → RoadKit.slotOf Z O n d ≠ RoadKit.slotOf Z ST "coder" "B" → RoadKit.Fld Z h' x O n d w
/-- **new String(chars) AT A CALL, THE ARRAYS AS LISTS**: the char[] at b holds cs, not empty, no char above 255 -/
theorem backArv {p : Program} {l : Launch} {e : Env} {R : Room} {s : State} {args : Array Value} {below : List Frame} {len W : Nat} {Z : State} {a0 : Array Value} {h : Heap} (hZ : Z.Warmed39 s.vm) (hw : ∀ d ∈ words, d.before a0 Z = true) {kI : Nat} (wi : (Jvm.Cond.instantiable ST kI).before a0 Z = true)
    {x b : Addr} {k : ClassId} {zn z : Int32} {cs : List Int32} {dv v0 c0 : Value} (E : RoadKit.Exa Z h x ST) (V : RoadKit.Fld Z h x ST "value" "[B" v0) (C : RoadKit.Fld Z h x ST "coder" "B" c0) (K : RoadKit.Arv Z h b k .char zn (cs.map Value.int) dv) (S : RoadKit.Sta Z h ST "COMPACT_STRINGS" "Z" (.int z)) (hz : ¬ z = 0)
    (hlen : zn.toNatClampNeg = cs.length) (h0 : 0 < cs.length) (hbig : cs.length ≤ 536870912) (hall : ∀ c ∈ cs, ¬ 255 < c) (hfr : 4 ≤ R.frames) (hlo : W + 65 ≤ R.locals) :
    Back l R p e below s args New1.yN len W (fun P a => a = #[.ref x, .ref b] ∧ P.U.heap = h ∧ P.cells + 1 ≤ R.cells ∧ P.slots + cs.length ≤ R.slots)
      (fun P _ v B => ∃ L, QA Z x zn cs h v B.U.heap L ∧ B.locs = P.locs ++ L ∧ B.cells = P.cells + 1 ∧ B.slots = P.slots + cs.length) := by
  obtain ⟨A, K1, K2, K3, K4, K5, K6⟩ := K
  have e : A.slots.size = cs.length := K3.trans hlen
  have hat : ∀ (i : Nat) (hi : i < cs.length), A.slots[i]? = some (.int cs[i]) := fun i hi => by rw [K5 i (by omega)]; simp [List.getD_eq_getElem?_getD, hi]
  have hcv : ∀ (i : Nat) (hi : i < cs.length), cv A i = cs[i] := fun i hi => by unfold cv; rw [hat i hi]
  have hty : Typed .char A := fun i v hv => by
    have hi : i < A.slots.size := (Array.getElem?_eq_some_iff.mp hv).1
    have q := K5 i hi
    rw [hv] at q
    rw [Option.some.inj q]
    exact K6 i hi
  refine Back.mono (back hZ hw wi E V C K1 hty S hz (by omega) (by omega) (fun i hi => by rw [hcv i (by omega)]; exact hall _ (List.getElem_mem _)) hfr hlo) (fun P a hp => ⟨hp.1, hp.2.1, hp.2.2.1, by rw [e]; exact hp.2.2.2⟩) (fun P a v B hp hq => ?_)
  obtain ⟨L, ⟨q1, q2, q3, q4, q5, q6, q7, ⟨V', v1, v2, v3, v4, v5⟩, q9⟩, hl, hc, hs⟩ := hq
  refine ⟨L, ⟨q1, q2, q3, q4, q5, q6, q7, ⟨V'.cls, v3, V', v1, rfl, by rw [v4, e, hlen], K4, fun i hi => ?_, fun i hi => ?_⟩, q9⟩, hl, hc, by rw [hs, e]⟩
  · have hi' : i < cs.length := by omega
    rw [v5 i (by omega), hcv i hi']; simp [List.getD_eq_getElem?_getD, hi']
  · have hi' : i < cs.length := by omega
    simp only [List.getD_eq_getElem?_getD, List.getElem?_map, List.getElem?_eq_getElem hi', Option.map_some, Option.getD_some]
    exact fits_lo8 _
end StrChars.Road
namespace StrChars.Road
open Jvm Sem ClassFile Op Lib Jvm.Stand Jvm.Free Jvm.Free.XT
/-- WHAT COMES BACK, in the writer's own shape -/
def QV (Z : State) (x : Addr) (N : Int32) (bs : List Int32) (h : Heap) (n0 : Nat) (v : Option Value) (h' : Heap) (L : List Loc) : Prop := v = none ∧ RoadKit.Fr n0 L ∧ RoadKit.Keep h h' [x] ∧ RoadKit.Exa Z h' x ST ∧ RoadKit.Fld Z h' x ST "coder" "B" (.int 0) ∧
  ∃ (t : Addr) (kb : ClassId), n0 ≤ t ∧ h.size ≤ t ∧ ¬ t = x ∧ RoadKit.Fld Z h' x ST "value" "[B" (.ref t) ∧ RoadKit.Arv Z h' t kb .byte N (bs.map Value.int) (.int 0)
/-- **new String(chars) AT A CALL, FOR THE WRITER**: a char[] of n known ints, each 0 to 255 -/
theorem backV {p : Program} {l : Launch} {e : Env} {R : Room} {s : State} {args : Array Value} {below : List Frame} {len W : Nat} {Z : State} {a0 : Array Value} {h : Heap} (hZ : Z.Warmed39 s.vm) (hw : ∀ d ∈ words, d.before a0 Z = true) {kI : Nat} (wi : (Jvm.Cond.instantiable ST kI).before a0 Z = true)
    {x b : Addr} {kC : ClassId} {cs bs : List Int32} {d v0 c0 : Value} {z N : Int32} {n n0 : Nat} (hx0 : n0 ≤ x) (hh0 : n0 ≤ h.size) (E : RoadKit.Exa Z h x ST) (V : RoadKit.Fld Z h x ST "value" "[B" v0) (C : RoadKit.Fld Z h x ST "coder" "B" c0) (K : RoadKit.Arv Z h b kC .char N (cs.map Value.int) d) (S : RoadKit.Sta Z h ST "COMPACT_STRINGS" "Z" (.int z)) (hz : ¬ z = 0)
    (hn : cs.length = n) (hN : N = Int32.ofNat n) (l0 : 0 < n) (l2 : n ≤ 4000) (hp : ∀ c ∈ cs, ¬ c < 0 ∧ ¬ (255 : Int32) < c) (hb : bs = cs.map (fun c => c.toInt8.toInt32)) (hfr : 4 ≤ R.frames) (hlo : W + 65 ≤ R.locals) :
    Back l R p e below s args (⟨"java/lang/String", "<init>", "([C)V"⟩ : MethodName) len W (fun P a => a = #[.ref x, .ref b] ∧ P.U.heap = h ∧ P.cells + 1 ≤ R.cells ∧ P.slots + n ≤ R.slots)
      (fun P _ v B => ∃ L, QV Z x N bs h n0 v B.U.heap L ∧ B.locs = P.locs ++ L ∧ B.cells = P.cells + 1 ∧ B.slots = P.slots + n) := by
  subst hn hN hb
  refine Back.mono (backArv hZ hw wi E V C K S hz (n32 (by omega)) l0 (by omega) (fun c hc => (hp c hc).2) hfr hlo) (fun P a hp => hp) (fun P a v B hp hq => ?_)
  obtain ⟨L, ⟨q1, q2, q3, q4, q5, q6, q7, ⟨kb, v1, v2⟩, q9⟩, hl, hc, hs⟩ := hq
  exact ⟨L, ⟨q1, fun y hy => by rw [q2 y hy]; exact hx0, q3, q5, q7, h.size, kb, hh0, Nat.le_refl _, Nat.ne_of_gt E.lt, q6, by rw [List.map_map]; exact v2⟩, hl, hc, hs⟩
end StrChars.Road
namespace StrChars
open Jvm Sem ClassFile Op Lib Jvm.Stand Jvm.Free.XT Jvm.Free.ALB Jvm.Free.JM Jvm.Free
open Jvm.Lib.Cold (StaticIs)
def hi8 (x : Int32) : Int32 := lo8 (x >>> ((8 : Int32) &&& 31))
/-- what StringUTF16.getChar makes of two bytes -/
def pairCh (u v : Int32) : Int32 := (((u &&& 255) <<< ((0 : Int32) &&& 31)) ||| ((v &&& 255) <<< ((8 : Int32) &&& 31))).toUInt32.toUInt16.toUInt32.toInt32
theorem shr0 (c : Int32) : c >>> ((0 : Int32) &&& 31) = c := by
  have e : ((0 : Int32) &&& 31) = 0 := by decide
  rw [e]
  apply Int32.toBitVec_inj.mp
  rw [Int32.toBitVec_shiftRight]
  have e1 : ((0 : Int32).toBitVec.smod 32) = 0#32 := by decide
  rw [e1, BitVec.sshiftRight_eq']
  exact BitVec.sshiftRight_zero
theorem lo8_and (x : Int32) : (lo8 x &&& 255).toBitVec.toNat = x.toBitVec.toNat % 256 := by
  have h : (lo8 x).toBitVec = (x.toBitVec.signExtend 8).signExtend 32 := by rw [lo8, Int8.toBitVec_toInt32, Int32.toBitVec_toInt8]
  rw [Int32.toBitVec_and, BitVec.toNat_and, h]
  have e : ((x.toBitVec.signExtend 8).signExtend 32).toNat % 256 = x.toBitVec.toNat % 256 := by
    rw [BitVec.toNat_signExtend]
    have hlt := x.toBitVec.isLt
    simp only [BitVec.toNat_setWidth, BitVec.toNat_signExtend]
    split <;> split <;> omega
  rw [← e]
  exact Nat.and_two_pow_sub_one_eq_mod _ 8
theorem pair_says {c : Int32} (h0 : ¬ c < 0) (h1 : ¬ 65535 < c) : pairCh (lo8 c) (hi8 c) = c := by
  rw [Int32.lt_iff_toInt_lt] at h0 h1
  have e0 : (0 : Int32).toInt = 0 := rfl
  have e1 : (65535 : Int32).toInt = 65535 := rfl
  have hc : c.toInt = c.toBitVec.toNat := by
    have := c.toBitVec.isLt
    have e : c.toInt = c.toBitVec.toInt := rfl
    rw [e] at h0 h1
    rw [e]
    rw [BitVec.toInt_eq_toNat_cond] at h0 h1 ⊢
    split at h0 <;> split <;> omega
  have hn : c.toBitVec.toNat < 65536 := by omega
  have a1 := lo8_and c
  have a2 : (hi8 c &&& 255).toBitVec.toNat = c.toBitVec.toNat / 256 := by
    rw [hi8, lo8_and]
    have e : ((8 : Int32) &&& 31) = 8 := by decide
    rw [e, Int32.toBitVec_shiftRight]
    have e2 : ((8 : Int32).toBitVec.smod 32) = 8#32 := by decide
    rw [e2, BitVec.sshiftRight_eq', BitVec.toNat_sshiftRight_of_msb_false (by rw [BitVec.msb_eq_false_iff_two_mul_lt]; omega)]
    show c.toBitVec.toNat >>> 8 % 256 = _
    rw [Nat.shiftRight_eq_div_pow]
    omega
  unfold pairCh
  apply Int32.toBitVec_inj.mp
  apply BitVec.eq_of_toNat_eq
  have f0 : ((0 : Int32) &&& 31) = 0 := by decide
  have f8 : ((8 : Int32) &&& 31) = 8 := by decide
  rw [f0, f8]
  have g : (((lo8 c &&& 255) <<< (0 : Int32)) ||| ((hi8 c &&& 255) <<< (8 : Int32))).toBitVec.toNat = c.toBitVec.toNat := by
    rw [Int32.toBitVec_or, Int32.toBitVec_shiftLeft, Int32.toBitVec_shiftLeft]
    have s0 : ((0 : Int32).toBitVec.smod 32) = 0#32 := by decide
    have s8 : ((8 : Int32).toBitVec.smod 32) = 8#32 := by decide
    rw [s0, s8, BitVec.toNat_or]
    simp only [BitVec.shiftLeft_eq', BitVec.toNat_shiftLeft, a1, a2]
    show (c.toBitVec.toNat % 256) <<< 0 % 2 ^ 32 ||| (c.toBitVec.toNat / 256) <<< 8 % 2 ^ 32 = _
    rw [Nat.shiftLeft_zero, Nat.mod_eq_of_lt (show c.toBitVec.toNat % 256 < 2 ^ 32 by omega), Nat.mod_eq_of_lt (show (c.toBitVec.toNat / 256) <<< 8 < 2 ^ 32 by rw [Nat.shiftLeft_eq]; omega), Nat.or_comm, ← Nat.shiftLeft_add_eq_or_of_lt (by omega), Nat.shiftLeft_eq]
    omega
  show BitVec.toNat (((((lo8 c &&& 255) <<< (0 : Int32)) ||| ((hi8 c &&& 255) <<< (8 : Int32))).toBitVec.setWidth 16).setWidth 32) = _
  rw [BitVec.toNat_setWidth, BitVec.toNat_setWidth, g]
  omega
end StrChars
namespace StrChars
open Jvm Sem ClassFile Op Lib Jvm.Stand Jvm.Free.XT Jvm.Free.ALB Jvm.Free.JM Jvm.Free
open Jvm.Lib.Cold (StaticIs)
theorem shr1 {n : Nat} (h : 2 * n < 2 ^ 31) : Int32.ofNat (2 * n) >>> ((1 : Int32) &&& 31) = Int32.ofNat n := by
  have e : ((1 : Int32) &&& 31) = 1 := by decide
  rw [e]
  apply Int32.toBitVec_inj.mp
  rw [Int32.toBitVec_shiftRight]
  have e1 : ((1 : Int32).toBitVec.smod 32) = 1#32 := by decide
  have hm : (BitVec.ofNat 32 (2 * n)).toNat = 2 * n := by rw [BitVec.toNat_ofNat, Nat.mod_eq_of_lt (by omega)]
  rw [e1, BitVec.sshiftRight_eq']
  apply BitVec.eq_of_toNat_eq
  show ((BitVec.ofNat 32 (2 * n)).sshiftRight 1).toNat = (BitVec.ofNat 32 n).toNat
  rw [BitVec.toNat_sshiftRight_of_msb_false (by rw [BitVec.msb_eq_false_iff_two_mul_lt, hm]; omega), hm, BitVec.toNat_ofNat, Nat.shiftRight_eq_div_pow]
  omega
/-- charAt's cast of a byte read back -/
def chr8 (u : Int32) : Int32 := (u &&& 255).toUInt32.toUInt16.toUInt32.toInt32
theorem chr8_lo8 {c : Int32} (h0 : ¬ c < 0) (h1 : ¬ 255 < c) : chr8 (lo8 c) = c := by
  have t : ∀ k : Fin 256, (Int32.ofNat k.val).toUInt32.toUInt16.toUInt32.toInt32 = Int32.ofNat k.val := by decide +kernel
  unfold chr8
  rw [lo8_mask h0 h1]
  rw [Int32.lt_iff_toInt_lt] at h0 h1
  have e0 : (0 : Int32).toInt = 0 := rfl
  have e1 : (255 : Int32).toInt = 255 := rfl
  obtain ⟨k, hk⟩ : ∃ k : Nat, c.toInt = k := ⟨c.toInt.toNat, by omega⟩
  have hx : c = Int32.ofNat k := Int32.toInt_inj.mp (by rw [hk, Int32.toInt_ofNat_small (by omega)])
  rw [hx]
  exact t ⟨k, by omega⟩
theorem narrow_ch {c : Int32} (h0 : ¬ c < 0) (h1 : ¬ 65535 < c) : narrow .char (.int c) = .int c := by
  have q : narrow .char (.int (pairCh (lo8 c) (hi8 c))) = .int (pairCh (lo8 c) (hi8 c)) := narrow_c _
  rwa [pair_says h0 h1] at q
/-- the array's cell V codes the n chars f 0 .. f (n - 1) by the coder cd, as the JDK does: coder 1 just where some char is above 255 -/
def Cod (cd : Int32) (n : Nat) (f : Nat → Int32) (V : Cell) : Prop := (cd = 0 ∧ V.slots.size = n ∧ ∀ j, j < n → V.slots[j]? = some (.int (lo8 (f j))) ∧ ¬ 255 < f j) ∨ (cd = 1 ∧ V.slots.size = 2 * n ∧ (∀ j, j < n → V.slots[2 * j]? = some (.int (lo8 (f j))) ∧ V.slots[2 * j + 1]? = some (.int (hi8 (f j)))) ∧ ∃ j, j < n ∧ 255 < f j)
theorem Cod.cd {cd : Int32} {n : Nat} {f : Nat → Int32} {V : Cell} (h : Cod cd n f V) : cd = 0 ∨ cd = 1 := h.imp (fun q => q.1) fun q => q.1
theorem Cod.len {cd : Int32} {n : Nat} {f : Nat → Int32} {V : Cell} (h : Cod cd n f V) (hs : V.slots.size < 2 ^ 31) : Int32.ofNat V.slots.size >>> (cd &&& 31) = Int32.ofNat n := by
  rcases h with ⟨rfl, h, -⟩ | ⟨rfl, h, -⟩
  · rw [shr0, h]
  · rw [h, shr1 (by omega)]
/-- **x is a String of the n chars f 0 .. f (n - 1)**, Latin-1 or UTF-16; its array at t has the cell V -/
def Txt (x t : Addr) (V : Cell) (cd : Int32) (n : Nat) (f : Nat → Int32) (U : State) : Prop := Exact "java/lang/String" x U ∧ Has x "java/lang/String" "value" "[B" (.ref t) U ∧ Has x "java/lang/String" "coder" "B" (.int cd) U ∧ XT.Arr .byte t V U ∧ Cod cd n f V ∧ ∀ j, j < n → ¬ f j < 0 ∧ ¬ 65535 < f j
theorem Txt.mv {x t : Addr} {V : Cell} {cd : Int32} {n : Nat} {f : Nat → Int32} {U U' : State} (h : Txt x t V cd n f U) (hal : U.vm.Alike U'.vm) (hh : U'.heap = U.heap) : Txt x t V cd n f U' := ⟨h.1.mv hal hh, h.2.1.mv hal hh, h.2.2.1.mv hal hh, h.2.2.2.1.mv hal hh, h.2.2.2.2⟩
namespace Cdr
def yN : MethodName := ⟨"java/lang/String", "coder", "()B"⟩
abbrev yB : ByteArray := jdk_42_method_152_code
theorem d0 : decode yB 0 = .ok (.getstatic 38, 3) := by decide +kernel
theorem d3 : decode yB 3 = .ok (.ifCond (.eq) 10, 3) := by decide +kernel
theorem d6 : decode yB 6 = .ok (.aload_n 0, 1) := by decide +kernel
theorem d7 : decode yB 7 = .ok (.getfield 15, 3) := by decide +kernel
theorem d10 : decode yB 10 = .ok (.goto 4, 3) := by decide +kernel
theorem d14 : decode yB 14 = .ok (.ireturn, 1) := by decide +kernel
def site : List Cond := [.fieldLink "java/lang/String" 38 "java/lang/String" "COMPACT_STRINGS" "Z", .fieldLink "java/lang/String" 15 "java/lang/String" "coder" "B"]
def tab : Cond := tabOf yN yB 1 (some .byte) site
def P (x : Addr) (cd z : Int32) (args : Array Value) (s : State) : Prop := args = #[.ref x] ∧ Has x "java/lang/String" "coder" "B" (.int cd) s ∧ (cd = 0 ∨ cd = 1) ∧ StaticIs s "java/lang/String" "COMPACT_STRINGS" "Z" (.int z) ∧ ¬ z = 0
def E (cd : Int32) (r : Option Value) (s u : State) : Prop := XT.PureE (some (.int cd)) r s u
theorem law (l : Launch) (x : Addr) (cd z : Int32) : Law l yN 1 0 0 0 yB 1 (some .byte) site (P x cd z) (E cd) [] 0 0 := by
  refine Law.of_walk (plainFor_of_name (by decide +kernel)) (by decide +kernel) (by decide +kernel) (by decide) (fun _ _ h => by rw [h.1]; rfl) (fun _ U U' hal hh h => ⟨h.1, h.2.1.mv hal hh, h.2.2.1, h.2.2.2.1.there hal hh, h.2.2.2.2⟩) (fun r U U' V V' h1 hal h2 h => XT.PureE.mv r U U' V V' h1 hal h2 h) ?_
  intro p e s m args below meth c s₁ X0 hexec hbytes hml hret hlk hnm hown hh0 W hP
  obtain ⟨rfl, hx, hc, s1, hz⟩ := hP
  have c1 : Steps p.tables e below (s₁.setTop (entryFrame m #[.ref x] 1)) (s₁.setTop (mkF m 0 #[.val (.ref x)] [])) := entry rfl
  obtain ⟨T2, X2, q2, st2⟩ := X0.sget hexec hown (wk W (.fieldLink "java/lang/String" 38 "java/lang/String" "COMPACT_STRINGS" "Z")) s1 (fun _ _ h => by rw [hh0]; exact h) (g := (mkF m 0 #[.val (.ref x)] [])) rfl (hb hbytes d0)
  have hh2 := q2.trans hh0
  have c3 : Steps p.tables e below (s₁.setTop (entryFrame m #[.ref x] 1)) (T2.setTop (mkF m 7 #[.val (.ref x)] [.ref x])) := (c1.trans (st2 _ (Steps.refl _))).trans (by
    refine XS.ifNo X2.here hexec rfl (hb hbytes d3) rfl (i0_eq_f hz) ?_
    refine XS.aloadN X2.here hexec rfl (hb hbytes d6) rfl rfl ?_
    exact Steps.refl _)
  obtain ⟨T4, X4, q4, st4⟩ := X2.hget hexec hown (wk W (.fieldLink "java/lang/String" 15 "java/lang/String" "coder" "B")) (hx.mv X2.warmed.alike hh2) (g := (mkF m 7 #[.val (.ref x)] [.ref x])) rfl (rest := []) rfl (hb hbytes d7)
  have c5 : Steps p.tables e below (s₁.setTop (entryFrame m #[.ref x] 1)) (T4.setTop (mkF m 14 #[.val (.ref x)] [.int cd])) := (c3.trans (st4 _ (Steps.refl _))).trans (by
    refine XS.goto X4.here hexec rfl (pc0 := 10) rfl (hb hbytes d10) (by decide) rfl ?_
    exact Steps.refl _)
  exact ⟨T4, some (.int cd), _, _, _, X4, rfl, rfl, rfl, (fun h => by cases h), ⟨rfl, q4.trans hh2⟩, fun fs hl => c5.trans (X4.ireturnOut hexec hret (by rcases hc with rfl | rfl <;> rfl) (Or.inr (Or.inr (Or.inl rfl))) (hb hbytes d14) hl)⟩
end Cdr
namespace Len
def yN : MethodName := ⟨"java/lang/String", "length", "()I"⟩
abbrev yB : ByteArray := jdk_42_method_54_code
theorem d0 : decode yB 0 = .ok (.aload_n 0, 1) := by decide +kernel
theorem d1 : decode yB 1 = .ok (.getfield 9, 3) := by decide +kernel
theorem d4 : decode yB 4 = .ok (.arraylength, 1) := by decide +kernel
theorem d5 : decode yB 5 = .ok (.aload_n 0, 1) := by decide +kernel
theorem d6 : decode yB 6 = .ok (.invokevirtual 335, 3) := by decide +kernel
theorem d9 : decode yB 9 = .ok (.ishr, 1) := by decide +kernel
theorem d10 : decode yB 10 = .ok (.ireturn, 1) := by decide +kernel
def site : List Cond := [.fieldLink "java/lang/String" 9 "java/lang/String" "value" "[B", Cdr.tab] ++ virtW "java/lang/String" 335 "java/lang/String" Cdr.yN Cdr.yN
def tab : Cond := tabOf yN yB 1 (some .int) site
def P (x t : Addr) (V : Cell) (cd : Int32) (n : Nat) (f : Nat → Int32) (z : Int32) (args : Array Value) (s : State) : Prop := args = #[.ref x] ∧ Txt x t V cd n f s ∧ StaticIs s "java/lang/String" "COMPACT_STRINGS" "Z" (.int z) ∧ ¬ z = 0
def E (n : Nat) (r : Option Value) (s u : State) : Prop := XT.PureE (some (.int (Int32.ofNat n))) r s u
/-- length() of a String of n chars, in either coding -/
theorem law (l : Launch) (x t : Addr) (V : Cell) (cd : Int32) (n : Nat) (f : Nat → Int32) (z : Int32) : Law l yN 1 0 1 13 yB 1 (some .int) site (P x t V cd n f z) (E n) [] 0 0 := by
  refine Law.of_walk (plainFor_of_name (by decide +kernel)) (by decide +kernel) (by decide +kernel) (by decide) (fun _ _ h => by rw [h.1]; rfl) (fun _ U U' hal hh h => ⟨h.1, h.2.1.mv hal hh, h.2.2.1.there hal hh, h.2.2.2⟩) (fun r U U' V V' h1 hal h2 h => XT.PureE.mv r U U' V V' h1 hal h2 h) ?_
  intro p e s m args below meth c s₁ X0 hexec hbytes hml hret hlk hnm hown hh0 W hP
  obtain ⟨rfl, hx, s1, hz⟩ := hP
  have v31 := hx.2.2.2.1.2.2.2
  have c1 : Steps p.tables e below (s₁.setTop (entryFrame m #[.ref x] 1)) (s₁.setTop (mkF m 1 #[.val (.ref x)] [.ref x])) := Steps.trans (entry rfl) (by
    show Steps p.tables e below (s₁.setTop (mkF m 0 #[.val (.ref x)] [])) _
    refine XS.aloadN X0.here hexec rfl (hb hbytes d0) rfl rfl ?_
    exact Steps.refl _)
  obtain ⟨T2, X2, q2, st2⟩ := X0.hget hexec hown (wk W (.fieldLink "java/lang/String" 9 "java/lang/String" "value" "[B")) (hx.mv X0.warmed.alike hh0).2.1 (g := (mkF m 1 #[.val (.ref x)] [.ref x])) rfl (rest := []) rfl (hb hbytes d1)
  have hh2 := q2.trans hh0
  have hx2 := hx.mv X2.warmed.alike hh2
  have c3 : Steps p.tables e below (s₁.setTop (entryFrame m #[.ref x] 1)) (T2.setTop (mkF m 6 #[.val (.ref x)] [.ref x, .int (Int32.ofNat V.slots.size)])) := (c1.trans (st2 _ (Steps.refl _))).trans (by
    refine X2.alen hexec hx2.2.2.2.1 rfl rfl (hb hbytes d4) ?_
    refine XS.aloadN X2.here hexec rfl (hb hbytes d5) rfl rfl ?_
    exact Steps.refl _)
  obtain ⟨v4, T4, X4, E4, g4⟩ := X2.callV hexec (Cdr.law l x cd z) hown (wks W (virtW "java/lang/String" 335 "java/lang/String" Cdr.yN Cdr.yN)) rfl (by decide) (wk W Cdr.tab) (W := 1) (Nat.le_of_ble_eq_true rfl) (Nat.le_of_ble_eq_true rfl) (Nat.le_refl _) (Nat.le_refl _) (hx2.1.fc X2.warmed.alike) hx2.1.is (g := (mkF m 6 #[.val (.ref x)] [.ref x, .int (Int32.ofNat V.slots.size)])) rfl (by rw [hml]; rfl) c3 (argsL := []) (rest := [.int (Int32.ofNat V.slots.size)]) rfl rfl (by show 2 * 0 + (1 + 0) ≤ _; decide) (hb hbytes d6) (⟨rfl, hx2.2.2.1, hx.2.2.2.2.1.cd, s1.there X2.warmed.alike hh2, hz⟩)
  obtain ⟨rfl, q4⟩ := E4
  have c5 : Steps p.tables e below (s₁.setTop (entryFrame m #[.ref x] 1)) (T4.setTop (mkF m 10 #[.val (.ref x)] [.int (Int32.ofNat V.slots.size >>> (cd &&& 31))])) := Steps.trans g4 (by
    refine ishr X4.here hexec rfl (hb hbytes d9) rfl ?_
    exact Steps.refl _)
  rw [hx.2.2.2.2.1.len v31] at c5
  exact ⟨T4, some (.int (Int32.ofNat n)), _, _, _, X4, rfl, rfl, rfl, (fun h => by cases h), ⟨rfl, q4.trans hh2⟩, fun fs hl => c5.trans (X4.ireturnOut hexec hret rfl (Or.inl rfl) (hb hbytes d10) hl)⟩
theorem pays {l : Launch} {R : Room} {p : Program} {e : Env} {below : List Frame} {s : State} {sargs : Array Value} {len W : Nat} (x t : Addr) (V : Cell) (cd : Int32) (n : Nat) (f : Nat → Int32) (z : Int32) (htab : tab.before sargs s = true) (hfr : 2 ≤ R.frames) (hlo : W + 25 ≤ R.locals) :
    Back l R p e below s sargs yN len W (fun A₁ a₁ => A₁.cells + 0 ≤ R.cells ∧ A₁.slots + 0 ≤ R.slots ∧ P x t V cd n f z a₁ A₁.U) (fun A₁ _ v₁ B₁ => E n v₁ A₁.U B₁.U ∧ B₁.locs = A₁.locs ++ [] ∧ B₁.cells = A₁.cells + 0 ∧ B₁.slots = A₁.slots + 0) :=
  (law l x t V cd n f z).pays htab hfr (by omega)
end Len
namespace IsL
def yN : MethodName := ⟨"java/lang/String", "isLatin1", "()Z"⟩
abbrev yB : ByteArray := jdk_42_method_154_code
theorem d0 : decode yB 0 = .ok (.getstatic 38, 3) := by decide +kernel
theorem d3 : decode yB 3 = .ok (.ifCond (.eq) 14, 3) := by decide +kernel
theorem d6 : decode yB 6 = .ok (.aload_n 0, 1) := by decide +kernel
theorem d7 : decode yB 7 = .ok (.getfield 15, 3) := by decide +kernel
theorem d10 : decode yB 10 = .ok (.ifCond (.ne) 7, 3) := by decide +kernel
theorem d13 : decode yB 13 = .ok (.iconst 1, 1) := by decide +kernel
theorem d14 : decode yB 14 = .ok (.goto 4, 3) := by decide +kernel
theorem d17 : decode yB 17 = .ok (.iconst 0, 1) := by decide +kernel
theorem d18 : decode yB 18 = .ok (.ireturn, 1) := by decide +kernel
def site : List Cond := [.fieldLink "java/lang/String" 38 "java/lang/String" "COMPACT_STRINGS" "Z", .fieldLink "java/lang/String" 15 "java/lang/String" "coder" "B"]
def tab : Cond := tabOf yN yB 1 (some .boolean) site
def P (x : Addr) (cd z : Int32) (args : Array Value) (s : State) : Prop := args = #[.ref x] ∧ Has x "java/lang/String" "coder" "B" (.int cd) s ∧ (cd = 0 ∨ cd = 1) ∧ StaticIs s "java/lang/String" "COMPACT_STRINGS" "Z" (.int z) ∧ ¬ z = 0
def E (cd : Int32) (r : Option Value) (s u : State) : Prop := XT.PureE (some (.int (1 - cd))) r s u
theorem law (l : Launch) (x : Addr) (cd z : Int32) : Law l yN 1 0 0 0 yB 1 (some .boolean) site (P x cd z) (E cd) [] 0 0 := by
  refine Law.of_walk (plainFor_of_name (by decide +kernel)) (by decide +kernel) (by decide +kernel) (by decide) (fun _ _ h => by rw [h.1]; rfl) (fun _ U U' hal hh h => ⟨h.1, h.2.1.mv hal hh, h.2.2.1, h.2.2.2.1.there hal hh, h.2.2.2.2⟩) (fun r U U' V V' h1 hal h2 h => XT.PureE.mv r U U' V V' h1 hal h2 h) ?_
  intro p e s m args below meth c s₁ X0 hexec hbytes hml hret hlk hnm hown hh0 W hP
  obtain ⟨rfl, hx, hc, s1, hz⟩ := hP
  have c1 : Steps p.tables e below (s₁.setTop (entryFrame m #[.ref x] 1)) (s₁.setTop (mkF m 0 #[.val (.ref x)] [])) := entry rfl
  obtain ⟨T2, X2, q2, st2⟩ := X0.sget hexec hown (wk W (.fieldLink "java/lang/String" 38 "java/lang/String" "COMPACT_STRINGS" "Z")) s1 (fun _ _ h => by rw [hh0]; exact h) (g := (mkF m 0 #[.val (.ref x)] [])) rfl (hb hbytes d0)
  have hh2 := q2.trans hh0
  have c3 : Steps p.tables e below (s₁.setTop (entryFrame m #[.ref x] 1)) (T2.setTop (mkF m 7 #[.val (.ref x)] [.ref x])) := (c1.trans (st2 _ (Steps.refl _))).trans (by
    refine XS.ifNo X2.here hexec rfl (hb hbytes d3) rfl (i0_eq_f hz) ?_
    refine XS.aloadN X2.here hexec rfl (hb hbytes d6) rfl rfl ?_
    exact Steps.refl _)
  obtain ⟨T4, X4, q4, st4⟩ := X2.hget hexec hown (wk W (.fieldLink "java/lang/String" 15 "java/lang/String" "coder" "B")) (hx.mv X2.warmed.alike hh2) (g := (mkF m 7 #[.val (.ref x)] [.ref x])) rfl (rest := []) rfl (hb hbytes d7)
  have c5 : Steps p.tables e below (s₁.setTop (entryFrame m #[.ref x] 1)) (T4.setTop (mkF m 10 #[.val (.ref x)] [.int cd])) := c3.trans (st4 _ (Steps.refl _))
  have c6 : Steps p.tables e below (s₁.setTop (entryFrame m #[.ref x] 1)) (T4.setTop (mkF m 18 #[.val (.ref x)] [.int (1 - cd)])) := by
    rcases hc with rfl | rfl
    · exact c5.trans (by
        refine XS.ifNo X4.here hexec rfl (hb hbytes d10) rfl (i0_ne_f rfl) ?_
        refine iconstV X4.here hexec rfl 1 (hb hbytes d13) (by decide) ?_
        refine XS.goto X4.here hexec rfl (pc0 := 14) rfl (hb hbytes d14) (by decide) rfl ?_
        exact Steps.refl _)
    · exact c5.trans (by
        refine XS.ifYes X4.here hexec rfl (pc0 := 10) rfl (hb hbytes d10) rfl (i0_ne_t (by decide)) (by decide) rfl ?_
        refine iconstV X4.here hexec rfl 0 (hb hbytes d17) (by decide) ?_
        exact Steps.refl _)
  exact ⟨T4, some (.int (1 - cd)), _, _, _, X4, rfl, rfl, rfl, (fun h => by cases h), ⟨rfl, q4.trans hh2⟩, fun fs hl => c6.trans (X4.ireturnOut hexec hret (by rcases hc with rfl | rfl <;> rfl) (Or.inr (Or.inl rfl)) (hb hbytes d18) hl)⟩
end IsL
namespace LChA
def yN : MethodName := ⟨"java/lang/StringLatin1", "charAt", "([BI)C"⟩
abbrev yB : ByteArray := jdk_43_method_2_code
theorem d0 : decode yB 0 = .ok (.iload_n 1, 1) := by decide +kernel
theorem d1 : decode yB 1 = .ok (.aload_n 0, 1) := by decide +kernel
theorem d2 : decode yB 2 = .ok (.arraylength, 1) := by decide +kernel
theorem d3 : decode yB 3 = .ok (.invokestatic 9, 3) := by decide +kernel
theorem d6 : decode yB 6 = .ok (.aload_n 0, 1) := by decide +kernel
theorem d7 : decode yB 7 = .ok (.iload_n 1, 1) := by decide +kernel
theorem d8 : decode yB 8 = .ok (.baload, 1) := by decide +kernel
theorem d9 : decode yB 9 = .ok (.sipush 255, 3) := by decide +kernel
theorem d12 : decode yB 12 = .ok (.iand, 1) := by decide +kernel
theorem d13 : decode yB 13 = .ok (.i2c, 1) := by decide +kernel
theorem d14 : decode yB 14 = .ok (.ireturn, 1) := by decide +kernel
def site : List Cond := [JO.Str_checkIndex.tab] ++ staticW "java/lang/StringLatin1" 9 JO.Str_checkIndex.yN
def tab : Cond := tabOf yN yB 2 (some .char) site
def P (t : Addr) (V : Cell) (i : Nat) (u : Int32) (fm : Value) (args : Array Value) (s : State) : Prop := args = #[.ref t, .int (Int32.ofNat i)] ∧ XT.Arr .byte t V s ∧ V.slots[i]? = some (.int u) ∧ (StaticIs s "jdk/internal/util/Preconditions" "SIOOBE_FORMATTER" "Ljava/util/function/BiFunction;" fm ∧ fm.isRef = true)
def E (u : Int32) (r : Option Value) (s w : State) : Prop := XT.PureE (some (.int (chr8 u))) r s w
theorem law (l : Launch) (t : Addr) (V : Cell) (i : Nat) (u : Int32) (fm : Value) : Law l yN 2 2 2 27 yB 2 (some .char) site (P t V i u fm) (E u) [] 0 0 := by
  refine Law.of_walk (plainFor_of_name (by decide +kernel)) (by decide +kernel) (by decide +kernel) (by decide) (fun _ _ h => by rw [h.1]; rfl) (fun _ U U' hal hh h => ⟨h.1, h.2.1.mv hal hh, h.2.2.1, h.2.2.2.1.there hal hh, h.2.2.2.2⟩) (fun r U U' V V' h1 hal h2 h => XT.PureE.mv r U U' V V' h1 hal h2 h) ?_
  intro p e s m args below meth c s₁ X0 hexec hbytes hml hret hlk hnm hown hh0 W hP
  obtain ⟨rfl, hV, hu, s1, rf⟩ := hP
  have v31 := hV.2.2.2
  have hi : i < V.slots.size := (Array.getElem?_eq_some_iff.mp hu).1
  have c1 : Steps p.tables e below (s₁.setTop (entryFrame m #[.ref t, .int (Int32.ofNat i)] 2)) (s₁.setTop (mkF m 0 #[.val (.ref t), .val (.int (Int32.ofNat i))] [])) := entry rfl
  have c2 : Steps p.tables e below (s₁.setTop (entryFrame m #[.ref t, .int (Int32.ofNat i)] 2)) (s₁.setTop (mkF m 3 #[.val (.ref t), .val (.int (Int32.ofNat i))] [.int (Int32.ofNat V.slots.size), .int (Int32.ofNat i)])) := c1.trans (by
    refine XS.iloadN X0.here hexec rfl (hb hbytes d0) rfl ?_
    refine XS.aloadN X0.here hexec rfl (hb hbytes d1) rfl rfl ?_
    refine X0.alen hexec (hV.mv X0.warmed.alike hh0) rfl rfl (hb hbytes d2) ?_
    exact Steps.refl _)
  obtain ⟨v3, T3, X3, E3, g3⟩ := X0.callS hexec (JO.Str_checkIndex.law l (Int32.ofNat i) (Int32.ofNat V.slots.size) fm) hown (wks W (staticW "java/lang/StringLatin1" 9 JO.Str_checkIndex.yN)) (wk W JO.Str_checkIndex.tab) (W := 0) (Nat.le_of_ble_eq_true rfl) (Nat.le_of_ble_eq_true rfl) (Nat.le_refl _) (Nat.le_refl _) (g := (mkF m 3 #[.val (.ref t), .val (.int (Int32.ofNat i))] [.int (Int32.ofNat V.slots.size), .int (Int32.ofNat i)])) rfl (by rw [hml]; rfl) c2 (argsL := [.int (Int32.ofNat i), .int (Int32.ofNat V.slots.size)]) (rest := []) rfl rfl (by show 2 * 0 + 0 ≤ _; decide) (hb hbytes d3) (⟨rfl, rf, s1.there X0.warmed.alike hh0, Int32.ofNat_not_neg (by omega), lt32 v31 hi⟩)
  obtain ⟨rfl, q3⟩ := E3
  have hh3 := q3.trans hh0
  have c4 : Steps p.tables e below (s₁.setTop (entryFrame m #[.ref t, .int (Int32.ofNat i)] 2)) (T3.setTop (mkF m 14 #[.val (.ref t), .val (.int (Int32.ofNat i))] [.int (chr8 u)])) := Steps.trans g3 (by
    refine XS.aloadN X3.here hexec rfl (hb hbytes d6) rfl rfl ?_
    refine XS.iloadN X3.here hexec rfl (hb hbytes d7) rfl ?_
    refine X3.aget hexec (hV.mv X3.warmed.alike hh3) rfl hu rfl rfl (hb hbytes d8) ?_
    refine sipushV X3.here hexec rfl 255 (hb hbytes d9) (by decide) ?_
    refine XS.iand X3.here hexec rfl (hb hbytes d12) rfl ?_
    refine i2c X3.here hexec rfl (hb hbytes d13) rfl ?_
    exact Steps.refl _)
  exact ⟨T3, some (.int (chr8 u)), _, _, _, X3, rfl, rfl, rfl, (fun h => by cases h), ⟨rfl, hh3⟩, fun fs hl => c4.trans (X3.ireturnOut hexec hret (narrow_c _) (Or.inr (Or.inr (Or.inr (Or.inl rfl)))) (hb hbytes d14) hl)⟩
end LChA
end StrChars
namespace StrChars.Road
open Jvm Sem ClassFile Op Lib Jvm.Stand Jvm.Free Jvm.Free.XT
open Jvm.Lib.Cold (StaticIs)
theorem consq {a : Array Value} {s : State} {c : Jvm.Cond} {L : List Jvm.Cond} (h0 : c.before a s = true) (h : ∀ w ∈ L, w.before a s = true) : ∀ w ∈ c :: L, w.before a s = true := fun w hw => (List.mem_cons.mp hw).elim (fun e => e ▸ h0) (h w)
/-- the words of String.length(), either coding -/
abbrev wordsLen : List Jvm.Cond := [.code Len.yN Len.yB 1 (some .int), .initialized ST, .fieldLink ST 9 ST "value" "[B", .fieldLink ST 38 ST "COMPACT_STRINGS" "Z", .fieldLink ST 15 ST "coder" "B", .code Cdr.yN Cdr.yB 1 (some .byte), .methodLink ST 335 Cdr.yN, .declares Cdr.yN, .selects ST Cdr.yN Cdr.yN, .instanceMethod Cdr.yN]
theorem tabLen_of {a : Array Value} {s : State} (h : ∀ w ∈ wordsLen, w.before a s = true) : Len.tab.before a s = true := by
  have hc : Cdr.tab.before a s = true := unparts (wk h (.code Cdr.yN Cdr.yB 1 (some .byte))) (wks h (.initialized Cdr.yN.cls :: Cdr.site))
  have q := consq hc h
  exact unparts (wk q (.code Len.yN Len.yB 1 (some .int))) (wks q (.initialized Len.yN.cls :: Len.site))
theorem movedLen {Z s : State} {a0 args : Array Value} (hZ : Z.Warmed39 s.vm) (hw : ∀ d ∈ wordsLen, d.before a0 Z = true) : ∀ d ∈ wordsLen, d.before args s = true := fun d hd => by
  have q := hw d hd
  have t : ∀ d ∈ wordsLen, d = .arrayClass .byte ∨ (d.onTables && d.keepsFace) = true := by decide +kernel
  rcases t d hd with rfl | t
  · exact RoadKit.mvA hZ q
  · exact RoadKit.mv hZ q t
/-- the bytes of the chars cs, low before high -/
def wideBytes : List Int32 → List Value
  | [] => []
  | c :: cs => .int (lo8 c) :: .int (hi8 c) :: wideBytes cs
theorem wide_lo (d : Value) : ∀ (cs : List Int32) (j : Nat), j < cs.length → (wideBytes cs).getD (2 * j) d = .int (lo8 (cs.getD j 0))
  | [], j, h => absurd h (Nat.not_lt_zero j)
  | c :: cs, 0, _ => rfl
  | c :: cs, j + 1, h => by
    have q := wide_lo d cs j (by simpa using h)
    rw [show 2 * (j + 1) = 2 * j + 1 + 1 from by omega]
    simpa [wideBytes] using q
theorem wide_hi (d : Value) : ∀ (cs : List Int32) (j : Nat), j < cs.length → (wideBytes cs).getD (2 * j + 1) d = .int (hi8 (cs.getD j 0))
  | [], j, h => absurd h (Nat.not_lt_zero j)
  | c :: cs, 0, _ => rfl
  | c :: cs, j + 1, h => by
    have q := wide_hi d cs j (by simpa using h)
    rw [show 2 * (j + 1) + 1 = 2 * j + 1 + 1 + 1 from by omega]
    simpa [wideBytes] using q
theorem low_at (d : Value) (cs : List Int32) (j : Nat) (h : j < cs.length) : (cs.map fun c => Value.int (lo8 c)).getD j d = .int (lo8 (cs.getD j 0)) := by
  simp [List.getD_eq_getElem?_getD, h]
/-- an array of N2 bytes vs codes the chars cs by the coder cd -/
def CodA (cs : List Int32) (cd N2 : Int32) (vs : List Value) : Prop := (cd = 0 ∧ N2 = Int32.ofNat cs.length ∧ vs = (cs.map fun c => Value.int (lo8 c)) ∧ ∀ c ∈ cs, ¬ 255 < c) ∨ (cd = 1 ∧ N2 = Int32.ofNat (2 * cs.length) ∧ vs = wideBytes cs ∧ ∃ c ∈ cs, 255 < c)
theorem CodA.cod {cs : List Int32} {cd N2 : Int32} {vs : List Value} {V : Cell} (h : CodA cs cd N2 vs) (hn : 2 * cs.length < 2 ^ 31) (hs : V.slots.size = N2.toNatClampNeg) (hv : RoadKit.Has V vs (.int 0)) : Cod cd cs.length (fun j => cs.getD j 0) V := by
  rcases h with ⟨rfl, rfl, rfl, h⟩ | ⟨rfl, rfl, rfl, c, hc, hw⟩
  · rw [n32 (by omega)] at hs
    exact Or.inl ⟨rfl, hs, fun j hj => ⟨by rw [hv j (by omega), low_at _ _ _ hj], by
      have e : cs.getD j 0 = cs[j] := by simp [List.getD_eq_getElem?_getD, hj]
      show ¬ 255 < cs.getD j 0
      rw [e]; exact h _ (List.getElem_mem _)⟩⟩
  · rw [n32 (by omega)] at hs
    obtain ⟨j, hj, rfl⟩ := List.getElem_of_mem hc
    exact Or.inr ⟨rfl, hs, fun j hj => ⟨by rw [hv _ (by omega), wide_lo _ _ _ hj], by rw [hv _ (by omega), wide_hi _ _ _ hj]⟩, j, hj, by
      have e : cs.getD j 0 = cs[j] := by simp [List.getD_eq_getElem?_getD, hj]
      show 255 < cs.getD j 0
      rw [e]; exact hw⟩
/-- an object of exactly java/lang/String, its two fields found: as the laws ask it -/
theorem strObj {Z U : State} {a0 : Array Value} {kI : Nat} (wi : (Jvm.Cond.instantiable ST kI).before a0 Z = true) (al : Z.vm.Alike U.vm) {x : Addr} {v0 c0 : Value} (E : RoadKit.Exa Z U.heap x ST) (V : RoadKit.Fld Z U.heap x ST "value" "[B" v0) (C : RoadKit.Fld Z U.heap x ST "coder" "B" c0) :
    ∃ (D : Cell) (fV fC : Field), Blank ST x D U ∧ Found ST "value" "[B" fV U ∧ Found ST "coder" "B" fC U ∧ D.slots[fV.slot]? = some v0 ∧ D.slots[fC.slot]? = some c0 ∧ RoadKit.slotOf Z ST "value" "[B" = fV.slot ∧ RoadKit.slotOf Z ST "coder" "B" = fC.slot := by
  obtain ⟨D, cfV, kV, iV, fV, hD, gV, stV, knV, obV, asV, slV⟩ := V
  obtain ⟨D', cfC, kC, iC, fC, hD', gC, stC, -, -, asC, slC⟩ := C
  cases hD.symm.trans hD'
  obtain ⟨D2, kD, e1, e2, e3, e4, e5⟩ := E
  cases hD.symm.trans e1
  obtain ⟨c2, k2, i1, i2, i3, -⟩ := Cond.instantiable_spec wi
  cases e2.symm.trans i1
  cases e3.symm.trans i2
  obtain ⟨kU, u1, u2⟩ := al.2.2 _ _ e3
  exact ⟨D, fV, fC, ⟨hD, ⟨knV, fun q hq => by rw [hq] at obV; cases obV⟩, by rw [al.findClass]; exact e2, kU, u1, by rw [u2]; exact i3, by rw [u2]; exact e5 i3⟩, ⟨SBG.found_only al ⟨cfV, kV, iV, gV⟩, stV⟩, ⟨SBG.found_only al ⟨cfC, kC, iC, gC⟩, stC⟩, slV, slC, by simp [RoadKit.slotOf, gV], by simp [RoadKit.slotOf, gC]⟩
theorem sta_is {Z U : State} (al : Z.vm.Alike U.vm) {C n d : String} {v : Value} (S : RoadKit.Sta Z U.heap C n d v) : StaticIs U C n d v := by
  obtain ⟨cfS, iS, kS, fS, st, cS, t1, t2, t3, t4, t5, t6, t7⟩ := S
  exact StaticIs.there (s := { Z with heap := U.heap }) ⟨cfS, iS, kS, fS, st, cS, t1, t2, t3, t4, t5, (fun q => by rw [q] at t6; cases t6), t7⟩ al rfl
/-- **length() OF SUCH A STRING** -/
theorem lenW {p : Program} {l : Launch} {e : Env} {R : Room} {s : State} {args : Array Value} {below : List Frame} {len W : Nat} {Z : State} {a0 : Array Value} {h : Heap} (hZ : Z.Warmed39 s.vm) (hw : ∀ d ∈ wordsLen, d.before a0 Z = true) {kI : Nat} (wi : (Jvm.Cond.instantiable ST kI).before a0 Z = true)
    {x t : Addr} {kb : ClassId} {cs : List Int32} {cd N2 z : Int32} {vs : List Value} (E : RoadKit.Exa Z h x ST) (V : RoadKit.Fld Z h x ST "value" "[B" (.ref t)) (C : RoadKit.Fld Z h x ST "coder" "B" (.int cd)) (K : RoadKit.Arv Z h t kb .byte N2 vs (.int 0)) (hc : CodA cs cd N2 vs) (hb : ∀ c ∈ cs, ¬ c < 0 ∧ ¬ (65535 : Int32) < c)
    (S : RoadKit.Sta Z h ST "COMPACT_STRINGS" "Z" (.int z)) (hz : ¬ z = 0) (l2 : cs.length ≤ 4000) (hfr : 2 ≤ R.frames) (hlo : W + 25 ≤ R.locals) :
    Back l R p e below s args (⟨"java/lang/String", "length", "()I"⟩ : MethodName) len W (fun P a => a = #[.ref x] ∧ P.U.heap = h ∧ P.cells + 0 ≤ R.cells ∧ P.slots + 0 ≤ R.slots)
      (fun P _ v B => ∃ L, (v = some (.int (Int32.ofNat cs.length)) ∧ L = [] ∧ B.U.heap = h) ∧ B.locs = P.locs ++ L ∧ B.cells = P.cells + 0 ∧ B.slots = P.slots + 0) := by
  obtain ⟨A, K1, K2, K3, K4, K5, K6⟩ := K
  have hcod := hc.cod (by omega) K3 K5
  intro m meth c P g ig mk a X hg hsize hdg hW hn hp'
  obtain ⟨rfl, rfl, r1, r2⟩ := hp'
  have al : Z.vm.Alike P.U.vm := hZ.alike.trans X.warmed.alike
  obtain ⟨D, fV, fC, hB, F1, F2, g1, g2, -, -⟩ := strObj wi al E V C
  have hx : Txt x t A cd cs.length (fun j => cs.getD j 0) P.U := ⟨⟨_, hB.2.2.1, D, hB.1, rfl, by cases q : D.vm <;> first | rfl | exact absurd q (hB.2.1.2 _)⟩, Has.of hB F1 g1, Has.of hB F2 g2, ⟨K1.1, State.isArrayOf_alike al K1.2.1, K1.2.2, by rcases hcod with ⟨-, q, -⟩ | ⟨-, q, -⟩ <;> omega⟩, hcod, fun j hj => by
    have e : cs.getD j 0 = cs[j] := by simp [List.getD_eq_getElem?_getD, hj]
    show ¬ cs.getD j 0 < 0 ∧ ¬ 65535 < cs.getD j 0
    rw [e]; exact hb _ (List.getElem_mem _)⟩
  obtain ⟨v, B, X', ⟨⟨hv, hh⟩, hl, hk, hs⟩, st⟩ := Len.pays x t A cd cs.length (fun j => cs.getD j 0) z (tabLen_of (movedLen hZ hw)) hfr hlo m meth c P g ig mk _ X hg hsize hdg hW hn ⟨r1, r2, rfl, hx, sta_is al S, hz⟩
  exact ⟨v, B, X', ⟨[], ⟨hv, rfl, hh⟩, hl, hk, hs⟩, st⟩
end StrChars.Road
namespace StrChars.Road
open Jvm Sem ClassFile Op Lib Jvm.Stand Jvm.Free Jvm.Free.XT
open Jvm.Lib.Cold (StaticIs)
/-- the road's facts of a String, as the laws ask it -/
theorem txt_of {Z U : State} {a0 : Array Value} {kI : Nat} (wi : (Jvm.Cond.instantiable ST kI).before a0 Z = true) (al : Z.vm.Alike U.vm) {x t : Addr} {kb : ClassId} {cs : List Int32} {cd N2 : Int32} {vs : List Value} (E : RoadKit.Exa Z U.heap x ST) (V : RoadKit.Fld Z U.heap x ST "value" "[B" (.ref t)) (C : RoadKit.Fld Z U.heap x ST "coder" "B" (.int cd)) (K : RoadKit.Arv Z U.heap t kb .byte N2 vs (.int 0)) (hc : CodA cs cd N2 vs) (hb : ∀ c ∈ cs, ¬ c < 0 ∧ ¬ (65535 : Int32) < c) (l2 : cs.length ≤ 4000) :
    ∃ A, Txt x t A cd cs.length (fun j => cs.getD j 0) U := by
  obtain ⟨A, K1, K2, K3, K4, K5, K6⟩ := K
  have hcod := hc.cod (by omega) K3 K5
  obtain ⟨D, fV, fC, hB, F1, F2, g1, g2, -, -⟩ := strObj wi al E V C
  exact ⟨A, ⟨_, hB.2.2.1, D, hB.1, rfl, by cases q : D.vm <;> first | rfl | exact absurd q (hB.2.1.2 _)⟩, Has.of hB F1 g1, Has.of hB F2 g2, ⟨K1.1, State.isArrayOf_alike al K1.2.1, K1.2.2, by rcases hcod with ⟨-, q, -⟩ | ⟨-, q, -⟩ <;> omega⟩, hcod, fun j hj => by
    have e : cs.getD j 0 = cs[j] := by simp [List.getD_eq_getElem?_getD, hj]
    show ¬ cs.getD j 0 < 0 ∧ ¬ 65535 < cs.getD j 0
    rw [e]; exact hb _ (List.getElem_mem _)⟩
end StrChars.Road
namespace StrChars
open Jvm Sem ClassFile Op Lib Jvm.Stand Jvm.Free.XT Jvm.Free.ALB Jvm.Free.JM Jvm.Free
open Jvm.Lib.Cold (StaticIs)
namespace ChN
def yN : MethodName := ⟨"java/lang/String", "charAt", "(I)C"⟩
abbrev yB : ByteArray := jdk_42_method_56_code
theorem d0 : decode yB 0 = .ok (.aload_n 0, 1) := by decide +kernel
theorem d1 : decode yB 1 = .ok (.invokevirtual 492, 3) := by decide +kernel
theorem d4 : decode yB 4 = .ok (.ifCond (.eq) 12, 3) := by decide +kernel
theorem d7 : decode yB 7 = .ok (.aload_n 0, 1) := by decide +kernel
theorem d8 : decode yB 8 = .ok (.getfield 9, 3) := by decide +kernel
theorem d11 : decode yB 11 = .ok (.iload_n 1, 1) := by decide +kernel
theorem d12 : decode yB 12 = .ok (.invokestatic 495, 3) := by decide +kernel
theorem d15 : decode yB 15 = .ok (.ireturn, 1) := by decide +kernel
def site : List Cond := [.fieldLink "java/lang/String" 9 "java/lang/String" "value" "[B", IsL.tab, LChA.tab] ++ virtW "java/lang/String" 492 "java/lang/String" IsL.yN IsL.yN ++ staticW "java/lang/String" 495 LChA.yN
def tab : Cond := tabOf yN yB 2 (some .char) site
def P (x t : Addr) (V : Cell) (n : Nat) (f : Nat → Int32) (z : Int32) (fm : Value) (i : Nat) (args : Array Value) (s : State) : Prop := args = #[.ref x, .int (Int32.ofNat i)] ∧ Txt x t V 0 n f s ∧ i < n ∧ StaticIs s "java/lang/String" "COMPACT_STRINGS" "Z" (.int z) ∧ ¬ z = 0 ∧ StaticIs s "jdk/internal/util/Preconditions" "SIOOBE_FORMATTER" "Ljava/util/function/BiFunction;" fm ∧ fm.isRef = true
def E (f : Nat → Int32) (i : Nat) (r : Option Value) (s u : State) : Prop := XT.PureE (some (.int (f i))) r s u
/-- charAt(i) of a Latin-1 String of n chars, i < n: f i -/
theorem law (l : Launch) (x t : Addr) (V : Cell) (n : Nat) (f : Nat → Int32) (z : Int32) (fm : Value) (i : Nat) : Law l yN 2 1 3 40 yB 2 (some .char) site (P x t V n f z fm i) (E f i) [] 0 0 := by
  refine Law.of_walk (plainFor_of_name (by decide +kernel)) (by decide +kernel) (by decide +kernel) (by decide) (fun _ _ h => by rw [h.1]; rfl) (fun _ U U' hal hh h => ⟨h.1, h.2.1.mv hal hh, h.2.2.1, h.2.2.2.1.there hal hh, h.2.2.2.2.1, h.2.2.2.2.2.1.there hal hh, h.2.2.2.2.2.2⟩) (fun r U U' V V' h1 hal h2 h => XT.PureE.mv r U U' V V' h1 hal h2 h) ?_
  intro p e s m args below meth c s₁ X0 hexec hbytes hml hret hlk hnm hown hh0 W hP
  obtain ⟨rfl, hx, hi, s1, hz, s3, rf⟩ := hP
  have v31 := hx.2.2.2.1.2.2.2
  have hr := hx.2.2.2.2.2 i hi
  have hx0 := hx.mv X0.warmed.alike hh0
  have c1 : Steps p.tables e below (s₁.setTop (entryFrame m #[.ref x, .int (Int32.ofNat i)] 2)) (s₁.setTop (mkF m 1 #[.val (.ref x), .val (.int (Int32.ofNat i))] [.ref x])) := Steps.trans (entry rfl) (by
    show Steps p.tables e below (s₁.setTop (mkF m 0 #[.val (.ref x), .val (.int (Int32.ofNat i))] [])) _
    refine XS.aloadN X0.here hexec rfl (hb hbytes d0) rfl rfl ?_
    exact Steps.refl _)
  obtain ⟨v2, T2, X2, E2, g2⟩ := X0.callV hexec (IsL.law l x 0 z) hown (wks W (virtW "java/lang/String" 492 "java/lang/String" IsL.yN IsL.yN)) rfl (by decide) (wk W IsL.tab) (W := 0) (Nat.le_of_ble_eq_true rfl) (Nat.le_of_ble_eq_true rfl) (Nat.le_refl _) (Nat.le_refl _) (hx0.1.fc X0.warmed.alike) hx0.1.is (g := (mkF m 1 #[.val (.ref x), .val (.int (Int32.ofNat i))] [.ref x])) rfl (by rw [hml]; rfl) c1 (argsL := []) (rest := []) rfl rfl (by show 2 * 0 + 0 ≤ _; decide) (hb hbytes d1) (⟨rfl, hx0.2.2.1, hx.2.2.2.2.1.cd, s1.there X0.warmed.alike hh0, hz⟩)
  obtain ⟨rfl, q2⟩ := E2
  have hh2 := q2.trans hh0
  have hx2 := hx.mv X2.warmed.alike hh2
  obtain ⟨-, k1, k2⟩ | ⟨k0, -⟩ := hx.2.2.2.2.1
  · have c3 : Steps p.tables e below (s₁.setTop (entryFrame m #[.ref x, .int (Int32.ofNat i)] 2)) (T2.setTop (mkF m 8 #[.val (.ref x), .val (.int (Int32.ofNat i))] [.ref x])) := Steps.trans g2 (by
      refine XS.ifNo X2.here hexec rfl (hb hbytes d4) rfl (i0_eq_f (by decide)) ?_
      refine XS.aloadN X2.here hexec rfl (hb hbytes d7) rfl rfl ?_
      exact Steps.refl _)
    obtain ⟨T4, X4, q4, st4⟩ := X2.hget hexec hown (wk W (.fieldLink "java/lang/String" 9 "java/lang/String" "value" "[B")) hx2.2.1 (g := (mkF m 8 #[.val (.ref x), .val (.int (Int32.ofNat i))] [.ref x])) rfl (rest := []) rfl (hb hbytes d8)
    have hh4 := q4.trans hh2
    have c5 : Steps p.tables e below (s₁.setTop (entryFrame m #[.ref x, .int (Int32.ofNat i)] 2)) (T4.setTop (mkF m 12 #[.val (.ref x), .val (.int (Int32.ofNat i))] [.int (Int32.ofNat i), .ref t])) := (c3.trans (st4 _ (Steps.refl _))).trans (by
      refine XS.iloadN X4.here hexec rfl (hb hbytes d11) rfl ?_
      exact Steps.refl _)
    obtain ⟨v6, T6, X6, E6, g6⟩ := X4.callS hexec (LChA.law l t V i (lo8 (f i)) fm) hown (wks W (staticW "java/lang/String" 495 LChA.yN)) (wk W LChA.tab) (W := 0) (Nat.le_of_ble_eq_true rfl) (Nat.le_of_ble_eq_true rfl) (Nat.le_refl _) (Nat.le_refl _) (g := (mkF m 12 #[.val (.ref x), .val (.int (Int32.ofNat i))] [.int (Int32.ofNat i), .ref t])) rfl (by rw [hml]; rfl) c5 (argsL := [.ref t, .int (Int32.ofNat i)]) (rest := []) rfl rfl (by show 2 * 0 + 0 ≤ _; decide) (hb hbytes d12) (⟨rfl, hx.2.2.2.1.mv X4.warmed.alike hh4, (k2 i hi).1, s3.there X4.warmed.alike hh4, rf⟩)
    obtain ⟨rfl, q6⟩ := E6
    rw [chr8_lo8 hr.1 (k2 i hi).2] at g6
    exact ⟨T6, some (.int (f i)), _, _, _, X6, rfl, rfl, rfl, (fun h => by cases h), ⟨rfl, q6.trans hh4⟩, fun fs hl => Steps.trans g6 (X6.ireturnOut hexec hret (narrow_ch hr.1 hr.2) (Or.inr (Or.inr (Or.inr (Or.inl rfl)))) (hb hbytes d15) hl)⟩
  · exact absurd k0 (by decide)
theorem pays {l : Launch} {R : Room} {p : Program} {e : Env} {below : List Frame} {s : State} {sargs : Array Value} {len W : Nat} (x t : Addr) (V : Cell) (n : Nat) (f : Nat → Int32) (z : Int32) (fm : Value) (i : Nat) (htab : tab.before sargs s = true) (hfr : 4 ≤ R.frames) (hlo : W + 53 ≤ R.locals) :
    Back l R p e below s sargs yN len W (fun A₁ a₁ => A₁.cells + 0 ≤ R.cells ∧ A₁.slots + 0 ≤ R.slots ∧ P x t V n f z fm i a₁ A₁.U) (fun A₁ _ v₁ B₁ => E f i v₁ A₁.U B₁.U ∧ B₁.locs = A₁.locs ++ [] ∧ B₁.cells = A₁.cells + 0 ∧ B₁.slots = A₁.slots + 0) :=
  (law l x t V n f z fm i).pays htab hfr (by omega)
end ChN
end StrChars
namespace StrChars.Road
open Jvm Sem ClassFile Op Lib Jvm.Stand Jvm.Free Jvm.Free.XT
open Jvm.Lib.Cold (StaticIs)
/-- the words of String.charAt(int), the Latin-1 road alone -/
abbrev wordsChN : List Jvm.Cond := [.code ChN.yN ChN.yB 2 (some .char), .initialized ST, .fieldLink ST 9 ST "value" "[B", .fieldLink ST 38 ST "COMPACT_STRINGS" "Z", .fieldLink ST 15 ST "coder" "B", .code IsL.yN IsL.yB 1 (some .boolean), .methodLink ST 492 IsL.yN, .declares IsL.yN, .selects ST IsL.yN IsL.yN, .instanceMethod IsL.yN,
  .methodLink ST 495 LChA.yN, .static LChA.yN, .code LChA.yN LChA.yB 2 (some .char), .initialized "java/lang/StringLatin1", .methodLink "java/lang/StringLatin1" 9 JO.Str_checkIndex.yN, .static JO.Str_checkIndex.yN, .code JO.Str_checkIndex.yN JO.Str_checkIndex.yB 2 none,
  .fieldLink ST 1053 "jdk/internal/util/Preconditions" "SIOOBE_FORMATTER" "Ljava/util/function/BiFunction;", .methodLink ST 1059 JC.PreCheck.yN, .static JC.PreCheck.yN, .code JC.PreCheck.yN JC.PreCheck.yB 3 (some .int), .initialized "jdk/internal/util/Preconditions"]
theorem tabChN_of {a : Array Value} {s : State} (h : ∀ w ∈ wordsChN, w.before a s = true) : ChN.tab.before a s = true := by
  have hp : JC.PreCheck.tab.before a s = true := unparts (wk h (.code JC.PreCheck.yN JC.PreCheck.yB 3 (some .int))) (wks h (.initialized JC.PreCheck.yN.cls :: JC.PreCheck.site))
  have qk := consq hp h
  have hk : JO.Str_checkIndex.tab.before a s = true := unparts (wk qk (.code JO.Str_checkIndex.yN JO.Str_checkIndex.yB 2 none)) (wks qk (.initialized JO.Str_checkIndex.yN.cls :: JO.Str_checkIndex.site))
  have ql := consq hk h
  have hl : LChA.tab.before a s = true := unparts (wk ql (.code LChA.yN LChA.yB 2 (some .char))) (wks ql (.initialized LChA.yN.cls :: LChA.site))
  have hi : IsL.tab.before a s = true := unparts (wk h (.code IsL.yN IsL.yB 1 (some .boolean))) (wks h (.initialized IsL.yN.cls :: IsL.site))
  have q := consq hi (consq hl h)
  exact unparts (wk q (.code ChN.yN ChN.yB 2 (some .char))) (wks q (.initialized ChN.yN.cls :: ChN.site))
theorem movedChN {Z s : State} {a0 args : Array Value} (hZ : Z.Warmed39 s.vm) (hw : ∀ d ∈ wordsChN, d.before a0 Z = true) : ∀ d ∈ wordsChN, d.before args s = true := fun d hd => by
  have t : ∀ d ∈ wordsChN, (d.onTables && d.keepsFace) = true := by decide +kernel
  exact RoadKit.mv hZ (hw d hd) (t d hd)
/-- **charAt(i) OF A LATIN-1 STRING**, i < n: the char -/
theorem chN {p : Program} {l : Launch} {e : Env} {R : Room} {s : State} {args : Array Value} {below : List Frame} {len W : Nat} {Z : State} {a0 : Array Value} {h : Heap} (hZ : Z.Warmed39 s.vm) (hw : ∀ d ∈ wordsChN, d.before a0 Z = true) {kI : Nat} (wi : (Jvm.Cond.instantiable ST kI).before a0 Z = true)
    {x t : Addr} {kb : ClassId} {cs : List Int32} {N2 z : Int32} {vs : List Value} {fm : Value} {i : Nat} {j : Int32} (E : RoadKit.Exa Z h x ST) (V : RoadKit.Fld Z h x ST "value" "[B" (.ref t)) (C : RoadKit.Fld Z h x ST "coder" "B" (.int 0)) (K : RoadKit.Arv Z h t kb .byte N2 vs (.int 0)) (hc : CodA cs 0 N2 vs) (hb : ∀ c ∈ cs, ¬ c < 0 ∧ ¬ (65535 : Int32) < c)
    (S : RoadKit.Sta Z h ST "COMPACT_STRINGS" "Z" (.int z)) (hz : ¬ z = 0) (F : RoadKit.Sta Z h "jdk/internal/util/Preconditions" "SIOOBE_FORMATTER" "Ljava/util/function/BiFunction;" fm) (rf : fm.isRef = true) (l2 : cs.length ≤ 4000) (hi : i < cs.length) (hj : j = Int32.ofNat i) (hfr : 4 ≤ R.frames) (hlo : W + 53 ≤ R.locals) :
    Back l R p e below s args (⟨"java/lang/String", "charAt", "(I)C"⟩ : MethodName) len W (fun P a => a = #[.ref x, .int j] ∧ P.U.heap = h ∧ P.cells + 0 ≤ R.cells ∧ P.slots + 0 ≤ R.slots)
      (fun P _ v B => ∃ L, (v = some (.int (cs.getD i 0)) ∧ L = [] ∧ B.U.heap = h) ∧ B.locs = P.locs ++ L ∧ B.cells = P.cells + 0 ∧ B.slots = P.slots + 0) := by
  subst hj
  intro m meth c P g ig mk a X hg hsize hdg hW hn hp'
  obtain ⟨rfl, rfl, r1, r2⟩ := hp'
  have al : Z.vm.Alike P.U.vm := hZ.alike.trans X.warmed.alike
  obtain ⟨A, hx⟩ := txt_of wi al E V C K hc hb l2
  obtain ⟨v, B, X', ⟨⟨hv, hh⟩, hl, hk, hs⟩, st⟩ := ChN.pays x t A cs.length (fun j => cs.getD j 0) z fm i (tabChN_of (movedChN hZ hw)) hfr hlo m meth c P g ig mk _ X hg hsize hdg hW hn ⟨r1, r2, rfl, hx, hi, sta_is al S, hz, sta_is al F, rf⟩
  exact ⟨v, B, X', ⟨[], ⟨hv, rfl, hh⟩, hl, hk, hs⟩, st⟩
/-- what backV says of its String, as the contracts of this text ask it: cs's low bytes, coder 0 -/
theorem codOf {cs : List Int32} {n : Nat} (hn : cs.length = n) (hb : ∀ c ∈ cs, ¬ 255 < c) : CodA cs 0 (Int32.ofNat n) ((cs.map lo8).map Value.int) := Or.inl ⟨rfl, by rw [hn], by simp [List.map_map, Function.comp_def], hb⟩
end StrChars.Road
end Jvm.Pilot.@@N@@
namespace Jvm.Pilot.@@N@@
open Jvm Jvm.ClassFile Sem Op Lib Jvm.Free Jvm.Stand Jvm.LawKit Jvm.RoadKit Bundle Jvm.Pilot.@@N@@.Jvm.D
theorem own_sz {Z : State} {n0 : Nat} {h : Heap} (O : Old Z n0 h) : n0 ≤ h.size := O.1 ▸ O.2.1
theorem own_sta {args : Array Value} {s : State} {C n d K : String} (h : (Jvm.Cond.exactly (.static C n d) K).value args s none s [] = some true) (hi : (Jvm.Cond.initialized C).before args s = true) (hl : (Jvm.Cond.laysStatic C n d).before args s = true) :
    ∃ a, Sta s s.heap C n d (.ref a) ∧ Exa s s.heap a K ∧ (Term.static C n d).eval args s none [] s = some (.ref a) := by
  obtain ⟨a, ev⟩ := exa_v h
  exact ⟨a, Sta.start ev (Or.inr ⟨hi, hl⟩), Exa.start ev h, ev⟩
theorem own_fint {args : Array Value} {s : State} {t : Term} {a : Addr} {C n d : String} {k : Int32} (ev : t.eval args s none [] s = some (.ref a)) (h : (Jvm.Cond.eq (.field t C n d) (.int k)).value args s none s [] = some true) : Fld s s.heap a C n d (.int k) := by
  obtain ⟨x, y, h1, h2, -, -⟩ := cmp_v (Or.inl h)
  cases h2.symm.trans (Term.int_eval k)
  have h3 := h1
  rw [fld_at ev] at h3
  have : x = .int k := by
    cases x <;> simp_all [Cond.value, Term.eval]
  subst this
  exact Fld.start h3
theorem own_fnull {args : Array Value} {s : State} {t : Term} {a : Addr} {C n d : String} (ev : t.eval args s none [] s = some (.ref a)) (h : (Jvm.Cond.eq (.field t C n d) .null).value args s none s [] = some true) : Fld s s.heap a C n d .null := by
  have h1 := null_v h
  rw [fld_at ev] at h1
  exact Fld.start h1
theorem own_fexa {args : Array Value} {s : State} {t : Term} {a : Addr} {C n d K : String} (ev : t.eval args s none [] s = some (.ref a)) (h : (Jvm.Cond.exactly (.field t C n d) K).value args s none s [] = some true) :
    ∃ b, Fld s s.heap a C n d (.ref b) ∧ Exa s s.heap b K ∧ (Term.field t C n d).eval args s none [] s = some (.ref b) := by
  obtain ⟨b, e2⟩ := exa_v h
  have h1 := e2
  rw [fld_at ev] at h1
  exact ⟨b, Fld.start h1, Exa.start e2 h, e2⟩
theorem own_freq {args : Array Value} {s : State} {t u : Term} {a b : Addr} {C n d : String} (ev : t.eval args s none [] s = some (.ref a)) (eu : u.eval args s none [] s = some (.ref b)) (h : (Jvm.Cond.eq (.field t C n d) u).value args s none s [] = some true) : Fld s s.heap a C n d (.ref b) := by
  obtain ⟨x, y, h1, h2, -, -⟩ := cmp_v (Or.inl h)
  cases h2.symm.trans eu
  have h3 := h1
  rw [fld_at ev] at h3
  have : x = .ref b := by
    cases x <;> simp_all [Cond.value]
  subst this
  exact Fld.start h3
theorem own_nn {v : Value} {a : Addr} (h : v = .ref a) : ¬ v = Value.null := by rw [h]; exact nofun
theorem own_nref {n : String} {v : Value} (h : v.isRef = true) : narrow (.object n) v = v := by rcases ref_cases h with rfl | ⟨_, rfl⟩ <;> rfl
theorem own_fref {n : String} {v : Value} (h : v.isRef = true) : fits (.object n) v = true := by rcases ref_cases h with rfl | ⟨_, rfl⟩ <;> rfl
theorem own_nb {z : Int32} (h : z = 0 ∨ z = 1) : narrow .boolean (.int z) = .int z := by rcases h with rfl | rfl <;> rfl
theorem ow0 {a0 : Array Value} {Z : State} (hw : ∀ d ∈ tables_1, d.before a0 Z = true) : (Jvm.Cond.constant "com/example/redress/redress/definition/StatementStripBlanksPinLaw" (7 : Nat) (2147483647 : Int32)).before a0 Z = true := hw _ (List.mem_of_getElem? (i := 0) rfl)
theorem ow1 {a0 : Array Value} {Z : State} (hw : ∀ d ∈ tables_1, d.before a0 Z = true) : (Jvm.Cond.arrayClass Jvm.ClassFile.FieldType.char).before a0 Z = true := hw _ (List.mem_of_getElem? (i := 1) rfl)
theorem ow2 {a0 : Array Value} {Z : State} (hw : ∀ d ∈ tables_1, d.before a0 Z = true) : (Jvm.Cond.methodLink "com/example/redress/redress/definition/StatementStripBlanksPinLaw" (8 : Nat) ({ cls := "com/example/redress/redress/definition/StatementStripBlanksPinLaw", name := "pick", desc := "(I)C" } : Jvm.MethodName)).before a0 Z = true := hw _ (List.mem_of_getElem? (i := 2) rfl)
theorem ow3 {a0 : Array Value} {Z : State} (hw : ∀ d ∈ tables_1, d.before a0 Z = true) : (Jvm.Cond.static ({ cls := "com/example/redress/redress/definition/StatementStripBlanksPinLaw", name := "pick", desc := "(I)C" } : Jvm.MethodName)).before a0 Z = true := hw _ (List.mem_of_getElem? (i := 3) rfl)
theorem ow4 {a0 : Array Value} {Z : State} (hw : ∀ d ∈ tables_1, d.before a0 Z = true) : (Jvm.Cond.initialized "com/example/redress/redress/definition/StatementStripBlanksPinLaw").before a0 Z = true := hw _ (List.mem_of_getElem? (i := 4) rfl)
theorem ow5 {a0 : Array Value} {Z : State} (hw : ∀ d ∈ tables_1, d.before a0 Z = true) : (Jvm.Cond.code ({ cls := "com/example/redress/redress/definition/StatementStripBlanksPinLaw", name := "pick", desc := "(I)C" } : Jvm.MethodName) method_4_code (2 : Nat) (Option.some Jvm.ClassFile.FieldType.char)).before a0 Z = true := hw _ (List.mem_of_getElem? (i := 5) rfl)
theorem ow6 {a0 : Array Value} {Z : State} (hw : ∀ d ∈ tables_1, d.before a0 Z = true) : (Jvm.Cond.methodLink "com/example/redress/redress/definition/StatementStripBlanksPinLaw" (14 : Nat) ({ cls := "com/example/redress/redress/definition/StatementStripBlanksPinLaw", name := "make", desc := "(I[C)Ljava/lang/String;" } : Jvm.MethodName)).before a0 Z = true := hw _ (List.mem_of_getElem? (i := 6) rfl)
theorem ow7 {a0 : Array Value} {Z : State} (hw : ∀ d ∈ tables_1, d.before a0 Z = true) : (Jvm.Cond.static ({ cls := "com/example/redress/redress/definition/StatementStripBlanksPinLaw", name := "make", desc := "(I[C)Ljava/lang/String;" } : Jvm.MethodName)).before a0 Z = true := hw _ (List.mem_of_getElem? (i := 7) rfl)
theorem ow8 {a0 : Array Value} {Z : State} (hw : ∀ d ∈ tables_1, d.before a0 Z = true) : (Jvm.Cond.code ({ cls := "com/example/redress/redress/definition/StatementStripBlanksPinLaw", name := "make", desc := "(I[C)Ljava/lang/String;" } : Jvm.MethodName) method_5_code (2 : Nat) (Option.some (Jvm.ClassFile.FieldType.object "java/lang/String"))).before a0 Z = true := hw _ (List.mem_of_getElem? (i := 8) rfl)
theorem ow9 {a0 : Array Value} {Z : State} (hw : ∀ d ∈ tables_1, d.before a0 Z = true) : (Jvm.Cond.classLink "com/example/redress/redress/definition/StatementStripBlanksPinLaw" (29 : Nat) "java/lang/String").before a0 Z = true := hw _ (List.mem_of_getElem? (i := 9) rfl)
theorem ow10 {a0 : Array Value} {Z : State} (hw : ∀ d ∈ tables_1, d.before a0 Z = true) : (Jvm.Cond.instantiable "java/lang/String" (4 : Nat)).before a0 Z = true := hw _ (List.mem_of_getElem? (i := 10) rfl)
theorem ow11 {a0 : Array Value} {Z : State} (hw : ∀ d ∈ tables_1, d.before a0 Z = true) : (Jvm.Cond.initialized "java/lang/String").before a0 Z = true := hw _ (List.mem_of_getElem? (i := 11) rfl)
theorem ow12 {a0 : Array Value} {Z : State} (hw : ∀ d ∈ tables_1, d.before a0 Z = true) : (Jvm.Cond.methodLink "com/example/redress/redress/definition/StatementStripBlanksPinLaw" (38 : Nat) ({ cls := "java/lang/String", name := "<init>", desc := "([C)V" } : Jvm.MethodName)).before a0 Z = true := hw _ (List.mem_of_getElem? (i := 12) rfl)
theorem ow13 {a0 : Array Value} {Z : State} (hw : ∀ d ∈ tables_1, d.before a0 Z = true) : (Jvm.Cond.instanceMethod ({ cls := "java/lang/String", name := "<init>", desc := "([C)V" } : Jvm.MethodName)).before a0 Z = true := hw _ (List.mem_of_getElem? (i := 13) rfl)
theorem ow14 {a0 : Array Value} {Z : State} (hw : ∀ d ∈ tables_1, d.before a0 Z = true) : (Jvm.Cond.code ({ cls := "java/lang/String", name := "<init>", desc := "([C)V" } : Jvm.MethodName) jdk_42_method_3_code (2 : Nat) (Option.none : Option Jvm.ClassFile.FieldType)).before a0 Z = true := hw _ (List.mem_of_getElem? (i := 14) rfl)
theorem ow15 {a0 : Array Value} {Z : State} (hw : ∀ d ∈ tables_1, d.before a0 Z = true) : (Jvm.Cond.methodLink "java/lang/String" (27 : Nat) ({ cls := "java/lang/String", name := "<init>", desc := "([CIILjava/lang/Void;)V" } : Jvm.MethodName)).before a0 Z = true := hw _ (List.mem_of_getElem? (i := 15) rfl)
theorem ow16 {a0 : Array Value} {Z : State} (hw : ∀ d ∈ tables_1, d.before a0 Z = true) : (Jvm.Cond.instanceMethod ({ cls := "java/lang/String", name := "<init>", desc := "([CIILjava/lang/Void;)V" } : Jvm.MethodName)).before a0 Z = true := hw _ (List.mem_of_getElem? (i := 16) rfl)
theorem ow18 {a0 : Array Value} {Z : State} (hw : ∀ d ∈ tables_1, d.before a0 Z = true) : (Jvm.Cond.code ({ cls := "java/lang/String", name := "<init>", desc := "([CIILjava/lang/Void;)V" } : Jvm.MethodName) jdk_42_method_149_code (6 : Nat) (Option.none : Option Jvm.ClassFile.FieldType)).before a0 Z = true := hw _ (List.mem_of_getElem? (i := 18) rfl)
theorem ow19 {a0 : Array Value} {Z : State} (hw : ∀ d ∈ tables_1, d.before a0 Z = true) : (Jvm.Cond.methodLink "java/lang/String" (1 : Nat) ({ cls := "java/lang/Object", name := "<init>", desc := "()V" } : Jvm.MethodName)).before a0 Z = true := hw _ (List.mem_of_getElem? (i := 19) rfl)
theorem ow20 {a0 : Array Value} {Z : State} (hw : ∀ d ∈ tables_1, d.before a0 Z = true) : (Jvm.Cond.instanceMethod ({ cls := "java/lang/Object", name := "<init>", desc := "()V" } : Jvm.MethodName)).before a0 Z = true := hw _ (List.mem_of_getElem? (i := 20) rfl)
theorem ow21 {a0 : Array Value} {Z : State} (hw : ∀ d ∈ tables_1, d.before a0 Z = true) : (Jvm.Cond.code ({ cls := "java/lang/Object", name := "<init>", desc := "()V" } : Jvm.MethodName) object_method_1_code (1 : Nat) (Option.none : Option Jvm.ClassFile.FieldType)).before a0 Z = true := hw _ (List.mem_of_getElem? (i := 21) rfl)
theorem ow22 {a0 : Array Value} {Z : State} (hw : ∀ d ∈ tables_1, d.before a0 Z = true) : (Jvm.Cond.stringLink "java/lang/String" (7 : Nat) "").before a0 Z = true := hw _ (List.mem_of_getElem? (i := 22) rfl)
theorem ow23 {a0 : Array Value} {Z : State} (hw : ∀ d ∈ tables_1, d.before a0 Z = true) : (Jvm.Cond.arrayClass Jvm.ClassFile.FieldType.byte).before a0 Z = true := hw _ (List.mem_of_getElem? (i := 23) rfl)
theorem ow24 {a0 : Array Value} {Z : State} (hw : ∀ d ∈ tables_1, d.before a0 Z = true) : (Jvm.Cond.laysFinal "java/lang/String" "java/lang/String" "value" "[B").before a0 Z = true := hw _ (List.mem_of_getElem? (i := 24) rfl)
theorem ow25 {a0 : Array Value} {Z : State} (hw : ∀ d ∈ tables_1, d.before a0 Z = true) : (Jvm.Cond.laysFinal "java/lang/String" "java/lang/String" "coder" "B").before a0 Z = true := hw _ (List.mem_of_getElem? (i := 25) rfl)
theorem ow28 {a0 : Array Value} {Z : State} (hw : ∀ d ∈ tables_1, d.before a0 Z = true) : (Jvm.Cond.fieldLink "java/lang/String" (9 : Nat) "java/lang/String" "value" "[B").before a0 Z = true := hw _ (List.mem_of_getElem? (i := 28) rfl)
theorem ow29 {a0 : Array Value} {Z : State} (hw : ∀ d ∈ tables_1, d.before a0 Z = true) : (Jvm.Cond.fieldLink "java/lang/String" (15 : Nat) "java/lang/String" "coder" "B").before a0 Z = true := hw _ (List.mem_of_getElem? (i := 29) rfl)
theorem ow30 {a0 : Array Value} {Z : State} (hw : ∀ d ∈ tables_1, d.before a0 Z = true) : (Jvm.Cond.methodLink "com/example/redress/redress/definition/StatementStripBlanksPinLaw" (18 : Nat) ({ cls := "com/example/redress/redress/definition/Statement", name := "stripBlanks", desc := "(Ljava/lang/String;)Ljava/lang/String;" } : Jvm.MethodName)).before a0 Z = true := hw _ (List.mem_of_getElem? (i := 30) rfl)
theorem ow31 {a0 : Array Value} {Z : State} (hw : ∀ d ∈ tables_1, d.before a0 Z = true) : (Jvm.Cond.static ({ cls := "com/example/redress/redress/definition/Statement", name := "stripBlanks", desc := "(Ljava/lang/String;)Ljava/lang/String;" } : Jvm.MethodName)).before a0 Z = true := hw _ (List.mem_of_getElem? (i := 31) rfl)
theorem ow32 {a0 : Array Value} {Z : State} (hw : ∀ d ∈ tables_1, d.before a0 Z = true) : (Jvm.Cond.initialized "com/example/redress/redress/definition/Statement").before a0 Z = true := hw _ (List.mem_of_getElem? (i := 32) rfl)
theorem ow33 {a0 : Array Value} {Z : State} (hw : ∀ d ∈ tables_1, d.before a0 Z = true) : (Jvm.Cond.code ({ cls := "com/example/redress/redress/definition/Statement", name := "stripBlanks", desc := "(Ljava/lang/String;)Ljava/lang/String;" } : Jvm.MethodName) prog_32_method_5_code (3 : Nat) (Option.some (Jvm.ClassFile.FieldType.object "java/lang/String"))).before a0 Z = true := hw _ (List.mem_of_getElem? (i := 33) rfl)
theorem ow34 {a0 : Array Value} {Z : State} (hw : ∀ d ∈ tables_1, d.before a0 Z = true) : (Jvm.Cond.methodLink "com/example/redress/redress/definition/Statement" (98 : Nat) ({ cls := "java/lang/String", name := "length", desc := "()I" } : Jvm.MethodName)).before a0 Z = true := hw _ (List.mem_of_getElem? (i := 34) rfl)
theorem ow35 {a0 : Array Value} {Z : State} (hw : ∀ d ∈ tables_1, d.before a0 Z = true) : (Jvm.Cond.declares ({ cls := "java/lang/String", name := "length", desc := "()I" } : Jvm.MethodName)).before a0 Z = true := hw _ (List.mem_of_getElem? (i := 35) rfl)
theorem ow36 {a0 : Array Value} {Z : State} (hw : ∀ d ∈ tables_1, d.before a0 Z = true) : (Jvm.Cond.instanceMethod ({ cls := "java/lang/String", name := "length", desc := "()I" } : Jvm.MethodName)).before a0 Z = true := hw _ (List.mem_of_getElem? (i := 36) rfl)
theorem ow37 {a0 : Array Value} {Z : State} (hw : ∀ d ∈ tables_1, d.before a0 Z = true) : (Jvm.Cond.selects "java/lang/String" ({ cls := "java/lang/String", name := "length", desc := "()I" } : Jvm.MethodName) ({ cls := "java/lang/String", name := "length", desc := "()I" } : Jvm.MethodName)).before a0 Z = true := hw _ (List.mem_of_getElem? (i := 37) rfl)
theorem ow38 {a0 : Array Value} {Z : State} (hw : ∀ d ∈ tables_1, d.before a0 Z = true) : (Jvm.Cond.code ({ cls := "java/lang/String", name := "length", desc := "()I" } : Jvm.MethodName) jdk_42_method_54_code (1 : Nat) (Option.some Jvm.ClassFile.FieldType.int)).before a0 Z = true := hw _ (List.mem_of_getElem? (i := 38) rfl)
theorem ow44 {a0 : Array Value} {Z : State} (hw : ∀ d ∈ tables_1, d.before a0 Z = true) : (Jvm.Cond.fieldLink "java/lang/String" (38 : Nat) "java/lang/String" "COMPACT_STRINGS" "Z").before a0 Z = true := hw _ (List.mem_of_getElem? (i := 44) rfl)
theorem ow45 {a0 : Array Value} {Z : State} (hw : ∀ d ∈ tables_1, d.before a0 Z = true) : (Jvm.Cond.methodLink "com/example/redress/redress/definition/Statement" (101 : Nat) ({ cls := "java/lang/String", name := "substring", desc := "(II)Ljava/lang/String;" } : Jvm.MethodName)).before a0 Z = true := hw _ (List.mem_of_getElem? (i := 45) rfl)
theorem ow46 {a0 : Array Value} {Z : State} (hw : ∀ d ∈ tables_1, d.before a0 Z = true) : (Jvm.Cond.declares ({ cls := "java/lang/String", name := "substring", desc := "(II)Ljava/lang/String;" } : Jvm.MethodName)).before a0 Z = true := hw _ (List.mem_of_getElem? (i := 46) rfl)
theorem ow47 {a0 : Array Value} {Z : State} (hw : ∀ d ∈ tables_1, d.before a0 Z = true) : (Jvm.Cond.instanceMethod ({ cls := "java/lang/String", name := "substring", desc := "(II)Ljava/lang/String;" } : Jvm.MethodName)).before a0 Z = true := hw _ (List.mem_of_getElem? (i := 47) rfl)
theorem ow48 {a0 : Array Value} {Z : State} (hw : ∀ d ∈ tables_1, d.before a0 Z = true) : (Jvm.Cond.selects "java/lang/String" ({ cls := "java/lang/String", name := "substring", desc := "(II)Ljava/lang/String;" } : Jvm.MethodName) ({ cls := "java/lang/String", name := "substring", desc := "(II)Ljava/lang/String;" } : Jvm.MethodName)).before a0 Z = true := hw _ (List.mem_of_getElem? (i := 48) rfl)
theorem ow49 {a0 : Array Value} {Z : State} (hw : ∀ d ∈ tables_1, d.before a0 Z = true) : (Jvm.Cond.code ({ cls := "java/lang/String", name := "substring", desc := "(II)Ljava/lang/String;" } : Jvm.MethodName) jdk_42_method_92_code (5 : Nat) (Option.some (Jvm.ClassFile.FieldType.object "java/lang/String"))).before a0 Z = true := hw _ (List.mem_of_getElem? (i := 49) rfl)
theorem ow50 {a0 : Array Value} {Z : State} (hw : ∀ d ∈ tables_1, d.before a0 Z = true) : (Jvm.Cond.methodLink "java/lang/String" (505 : Nat) ({ cls := "java/lang/String", name := "length", desc := "()I" } : Jvm.MethodName)).before a0 Z = true := hw _ (List.mem_of_getElem? (i := 50) rfl)
theorem ow51 {a0 : Array Value} {Z : State} (hw : ∀ d ∈ tables_1, d.before a0 Z = true) : (Jvm.Cond.methodLink "java/lang/String" (521 : Nat) ({ cls := "java/lang/String", name := "checkBoundsBeginEnd", desc := "(III)V" } : Jvm.MethodName)).before a0 Z = true := hw _ (List.mem_of_getElem? (i := 51) rfl)
theorem ow52 {a0 : Array Value} {Z : State} (hw : ∀ d ∈ tables_1, d.before a0 Z = true) : (Jvm.Cond.static ({ cls := "java/lang/String", name := "checkBoundsBeginEnd", desc := "(III)V" } : Jvm.MethodName)).before a0 Z = true := hw _ (List.mem_of_getElem? (i := 52) rfl)
theorem ow53 {a0 : Array Value} {Z : State} (hw : ∀ d ∈ tables_1, d.before a0 Z = true) : (Jvm.Cond.code ({ cls := "java/lang/String", name := "checkBoundsBeginEnd", desc := "(III)V" } : Jvm.MethodName) jdk_42_method_158_code (3 : Nat) (Option.none : Option Jvm.ClassFile.FieldType)).before a0 Z = true := hw _ (List.mem_of_getElem? (i := 53) rfl)
theorem ow54 {a0 : Array Value} {Z : State} (hw : ∀ d ∈ tables_1, d.before a0 Z = true) : (Jvm.Cond.fieldLink "java/lang/String" (1053 : Nat) "jdk/internal/util/Preconditions" "SIOOBE_FORMATTER" "Ljava/util/function/BiFunction;").before a0 Z = true := hw _ (List.mem_of_getElem? (i := 54) rfl)
theorem ow55 {a0 : Array Value} {Z : State} (hw : ∀ d ∈ tables_1, d.before a0 Z = true) : (Jvm.Cond.initialized "jdk/internal/util/Preconditions").before a0 Z = true := hw _ (List.mem_of_getElem? (i := 55) rfl)
theorem ow56 {a0 : Array Value} {Z : State} (hw : ∀ d ∈ tables_1, d.before a0 Z = true) : (Jvm.Cond.methodLink "java/lang/String" (1062 : Nat) ({ cls := "jdk/internal/util/Preconditions", name := "checkFromToIndex", desc := "(IIILjava/util/function/BiFunction;)I" } : Jvm.MethodName)).before a0 Z = true := hw _ (List.mem_of_getElem? (i := 56) rfl)
theorem ow57 {a0 : Array Value} {Z : State} (hw : ∀ d ∈ tables_1, d.before a0 Z = true) : (Jvm.Cond.static ({ cls := "jdk/internal/util/Preconditions", name := "checkFromToIndex", desc := "(IIILjava/util/function/BiFunction;)I" } : Jvm.MethodName)).before a0 Z = true := hw _ (List.mem_of_getElem? (i := 57) rfl)
theorem ow58 {a0 : Array Value} {Z : State} (hw : ∀ d ∈ tables_1, d.before a0 Z = true) : (Jvm.Cond.code ({ cls := "jdk/internal/util/Preconditions", name := "checkFromToIndex", desc := "(IIILjava/util/function/BiFunction;)I" } : Jvm.MethodName) jdk_41_method_12_code (4 : Nat) (Option.some Jvm.ClassFile.FieldType.int)).before a0 Z = true := hw _ (List.mem_of_getElem? (i := 58) rfl)
theorem ow59 {a0 : Array Value} {Z : State} (hw : ∀ d ∈ tables_1, d.before a0 Z = true) : (Jvm.Cond.methodLink "com/example/redress/redress/definition/StatementStripBlanksPinLaw" (28 : Nat) ({ cls := "java/lang/String", name := "length", desc := "()I" } : Jvm.MethodName)).before a0 Z = true := hw _ (List.mem_of_getElem? (i := 59) rfl)
theorem ow60 {a0 : Array Value} {Z : State} (hw : ∀ d ∈ tables_1, d.before a0 Z = true) : (Jvm.Cond.methodLink "com/example/redress/redress/definition/StatementStripBlanksPinLaw" (34 : Nat) ({ cls := "com/example/redress/redress/definition/StatementStripBlanksPinLaw", name := "at", desc := "(Ljava/lang/String;I[CII)Z" } : Jvm.MethodName)).before a0 Z = true := hw _ (List.mem_of_getElem? (i := 60) rfl)
theorem ow61 {a0 : Array Value} {Z : State} (hw : ∀ d ∈ tables_1, d.before a0 Z = true) : (Jvm.Cond.static ({ cls := "com/example/redress/redress/definition/StatementStripBlanksPinLaw", name := "at", desc := "(Ljava/lang/String;I[CII)Z" } : Jvm.MethodName)).before a0 Z = true := hw _ (List.mem_of_getElem? (i := 61) rfl)
theorem ow62 {a0 : Array Value} {Z : State} (hw : ∀ d ∈ tables_1, d.before a0 Z = true) : (Jvm.Cond.code ({ cls := "com/example/redress/redress/definition/StatementStripBlanksPinLaw", name := "at", desc := "(Ljava/lang/String;I[CII)Z" } : Jvm.MethodName) method_6_code (5 : Nat) (Option.some Jvm.ClassFile.FieldType.boolean)).before a0 Z = true := hw _ (List.mem_of_getElem? (i := 62) rfl)
theorem ow73 {a0 : Array Value} {Z : State} (hw : ∀ d ∈ tables_1, d.before a0 Z = true) : (Jvm.Cond.methodLink "com/example/redress/redress/definition/Statement" (39 : Nat) ({ cls := "java/lang/String", name := "charAt", desc := "(I)C" } : Jvm.MethodName)).before a0 Z = true := hw _ (List.mem_of_getElem? (i := 73) rfl)
theorem ow74 {a0 : Array Value} {Z : State} (hw : ∀ d ∈ tables_1, d.before a0 Z = true) : (Jvm.Cond.declares ({ cls := "java/lang/String", name := "charAt", desc := "(I)C" } : Jvm.MethodName)).before a0 Z = true := hw _ (List.mem_of_getElem? (i := 74) rfl)
theorem ow75 {a0 : Array Value} {Z : State} (hw : ∀ d ∈ tables_1, d.before a0 Z = true) : (Jvm.Cond.instanceMethod ({ cls := "java/lang/String", name := "charAt", desc := "(I)C" } : Jvm.MethodName)).before a0 Z = true := hw _ (List.mem_of_getElem? (i := 75) rfl)
theorem ow76 {a0 : Array Value} {Z : State} (hw : ∀ d ∈ tables_1, d.before a0 Z = true) : (Jvm.Cond.selects "java/lang/String" ({ cls := "java/lang/String", name := "charAt", desc := "(I)C" } : Jvm.MethodName) ({ cls := "java/lang/String", name := "charAt", desc := "(I)C" } : Jvm.MethodName)).before a0 Z = true := hw _ (List.mem_of_getElem? (i := 76) rfl)
theorem ow77 {a0 : Array Value} {Z : State} (hw : ∀ d ∈ tables_1, d.before a0 Z = true) : (Jvm.Cond.code ({ cls := "java/lang/String", name := "charAt", desc := "(I)C" } : Jvm.MethodName) jdk_42_method_56_code (2 : Nat) (Option.some Jvm.ClassFile.FieldType.char)).before a0 Z = true := hw _ (List.mem_of_getElem? (i := 77) rfl)
theorem ow78 {a0 : Array Value} {Z : State} (hw : ∀ d ∈ tables_1, d.before a0 Z = true) : (Jvm.Cond.methodLink "java/lang/String" (492 : Nat) ({ cls := "java/lang/String", name := "isLatin1", desc := "()Z" } : Jvm.MethodName)).before a0 Z = true := hw _ (List.mem_of_getElem? (i := 78) rfl)
theorem ow79 {a0 : Array Value} {Z : State} (hw : ∀ d ∈ tables_1, d.before a0 Z = true) : (Jvm.Cond.declares ({ cls := "java/lang/String", name := "isLatin1", desc := "()Z" } : Jvm.MethodName)).before a0 Z = true := hw _ (List.mem_of_getElem? (i := 79) rfl)
theorem ow80 {a0 : Array Value} {Z : State} (hw : ∀ d ∈ tables_1, d.before a0 Z = true) : (Jvm.Cond.instanceMethod ({ cls := "java/lang/String", name := "isLatin1", desc := "()Z" } : Jvm.MethodName)).before a0 Z = true := hw _ (List.mem_of_getElem? (i := 80) rfl)
theorem ow81 {a0 : Array Value} {Z : State} (hw : ∀ d ∈ tables_1, d.before a0 Z = true) : (Jvm.Cond.selects "java/lang/String" ({ cls := "java/lang/String", name := "isLatin1", desc := "()Z" } : Jvm.MethodName) ({ cls := "java/lang/String", name := "isLatin1", desc := "()Z" } : Jvm.MethodName)).before a0 Z = true := hw _ (List.mem_of_getElem? (i := 81) rfl)
theorem ow82 {a0 : Array Value} {Z : State} (hw : ∀ d ∈ tables_1, d.before a0 Z = true) : (Jvm.Cond.code ({ cls := "java/lang/String", name := "isLatin1", desc := "()Z" } : Jvm.MethodName) jdk_42_method_154_code (1 : Nat) (Option.some Jvm.ClassFile.FieldType.boolean)).before a0 Z = true := hw _ (List.mem_of_getElem? (i := 82) rfl)
theorem ow85 {a0 : Array Value} {Z : State} (hw : ∀ d ∈ tables_1, d.before a0 Z = true) : (Jvm.Cond.initialized "java/lang/StringLatin1").before a0 Z = true := hw _ (List.mem_of_getElem? (i := 85) rfl)
theorem ow93 {a0 : Array Value} {Z : State} (hw : ∀ d ∈ tables_1, d.before a0 Z = true) : (Jvm.Cond.methodLink "com/example/redress/redress/definition/Statement" (43 : Nat) ({ cls := "com/example/redress/redress/definition/Statement", name := "isBlank", desc := "(C)Z" } : Jvm.MethodName)).before a0 Z = true := hw _ (List.mem_of_getElem? (i := 93) rfl)
theorem ow94 {a0 : Array Value} {Z : State} (hw : ∀ d ∈ tables_1, d.before a0 Z = true) : (Jvm.Cond.static ({ cls := "com/example/redress/redress/definition/Statement", name := "isBlank", desc := "(C)Z" } : Jvm.MethodName)).before a0 Z = true := hw _ (List.mem_of_getElem? (i := 94) rfl)
theorem ow95 {a0 : Array Value} {Z : State} (hw : ∀ d ∈ tables_1, d.before a0 Z = true) : (Jvm.Cond.code ({ cls := "com/example/redress/redress/definition/Statement", name := "isBlank", desc := "(C)Z" } : Jvm.MethodName) prog_32_method_4_code (1 : Nat) (Option.some Jvm.ClassFile.FieldType.boolean)).before a0 Z = true := hw _ (List.mem_of_getElem? (i := 95) rfl)
theorem ow96 {a0 : Array Value} {Z : State} (hw : ∀ d ∈ tables_1, d.before a0 Z = true) : (Jvm.Cond.methodLink "java/lang/String" (685 : Nat) ({ cls := "java/lang/StringLatin1", name := "newString", desc := "([BII)Ljava/lang/String;" } : Jvm.MethodName)).before a0 Z = true := hw _ (List.mem_of_getElem? (i := 96) rfl)
theorem ow97 {a0 : Array Value} {Z : State} (hw : ∀ d ∈ tables_1, d.before a0 Z = true) : (Jvm.Cond.static ({ cls := "java/lang/StringLatin1", name := "newString", desc := "([BII)Ljava/lang/String;" } : Jvm.MethodName)).before a0 Z = true := hw _ (List.mem_of_getElem? (i := 97) rfl)
theorem ow98 {a0 : Array Value} {Z : State} (hw : ∀ d ∈ tables_1, d.before a0 Z = true) : (Jvm.Cond.code ({ cls := "java/lang/StringLatin1", name := "newString", desc := "([BII)Ljava/lang/String;" } : Jvm.MethodName) jdk_43_method_47_code (3 : Nat) (Option.some (Jvm.ClassFile.FieldType.object "java/lang/String"))).before a0 Z = true := hw _ (List.mem_of_getElem? (i := 98) rfl)
theorem ow99 {a0 : Array Value} {Z : State} (hw : ∀ d ∈ tables_1, d.before a0 Z = true) : (Jvm.Cond.classLink "java/lang/StringLatin1" (1 : Nat) "java/lang/String").before a0 Z = true := hw _ (List.mem_of_getElem? (i := 99) rfl)
theorem ow100 {a0 : Array Value} {Z : State} (hw : ∀ d ∈ tables_1, d.before a0 Z = true) : (Jvm.Cond.methodLink "java/lang/StringLatin1" (232 : Nat) ({ cls := "java/util/Arrays", name := "copyOfRange", desc := "([BII)[B" } : Jvm.MethodName)).before a0 Z = true := hw _ (List.mem_of_getElem? (i := 100) rfl)
theorem ow101 {a0 : Array Value} {Z : State} (hw : ∀ d ∈ tables_1, d.before a0 Z = true) : (Jvm.Cond.static ({ cls := "java/util/Arrays", name := "copyOfRange", desc := "([BII)[B" } : Jvm.MethodName)).before a0 Z = true := hw _ (List.mem_of_getElem? (i := 101) rfl)
theorem ow102 {a0 : Array Value} {Z : State} (hw : ∀ d ∈ tables_1, d.before a0 Z = true) : (Jvm.Cond.initialized "java/util/Arrays").before a0 Z = true := hw _ (List.mem_of_getElem? (i := 102) rfl)
theorem ow103 {a0 : Array Value} {Z : State} (hw : ∀ d ∈ tables_1, d.before a0 Z = true) : (Jvm.Cond.code ({ cls := "java/util/Arrays", name := "copyOfRange", desc := "([BII)[B" } : Jvm.MethodName) jdk_65_method_132_code (3 : Nat) (Option.some (Jvm.ClassFile.FieldType.array Jvm.ClassFile.FieldType.byte))).before a0 Z = true := hw _ (List.mem_of_getElem? (i := 103) rfl)
theorem ow104 {a0 : Array Value} {Z : State} (hw : ∀ d ∈ tables_1, d.before a0 Z = true) : (Jvm.Cond.methodLink "java/util/Arrays" (339 : Nat) ({ cls := "java/util/Arrays", name := "copyOfRangeByte", desc := "([BII)[B" } : Jvm.MethodName)).before a0 Z = true := hw _ (List.mem_of_getElem? (i := 104) rfl)
theorem ow105 {a0 : Array Value} {Z : State} (hw : ∀ d ∈ tables_1, d.before a0 Z = true) : (Jvm.Cond.static ({ cls := "java/util/Arrays", name := "copyOfRangeByte", desc := "([BII)[B" } : Jvm.MethodName)).before a0 Z = true := hw _ (List.mem_of_getElem? (i := 105) rfl)
theorem ow106 {a0 : Array Value} {Z : State} (hw : ∀ d ∈ tables_1, d.before a0 Z = true) : (Jvm.Cond.code ({ cls := "java/util/Arrays", name := "copyOfRangeByte", desc := "([BII)[B" } : Jvm.MethodName) jdk_65_method_133_code (5 : Nat) (Option.some (Jvm.ClassFile.FieldType.array Jvm.ClassFile.FieldType.byte))).before a0 Z = true := hw _ (List.mem_of_getElem? (i := 106) rfl)
theorem ow107 {a0 : Array Value} {Z : State} (hw : ∀ d ∈ tables_1, d.before a0 Z = true) : (Jvm.Cond.methodLink "java/util/Arrays" (343 : Nat) ({ cls := "java/util/Arrays", name := "checkLength", desc := "(II)V" } : Jvm.MethodName)).before a0 Z = true := hw _ (List.mem_of_getElem? (i := 107) rfl)
theorem ow108 {a0 : Array Value} {Z : State} (hw : ∀ d ∈ tables_1, d.before a0 Z = true) : (Jvm.Cond.static ({ cls := "java/util/Arrays", name := "checkLength", desc := "(II)V" } : Jvm.MethodName)).before a0 Z = true := hw _ (List.mem_of_getElem? (i := 108) rfl)
theorem ow109 {a0 : Array Value} {Z : State} (hw : ∀ d ∈ tables_1, d.before a0 Z = true) : (Jvm.Cond.code ({ cls := "java/util/Arrays", name := "checkLength", desc := "(II)V" } : Jvm.MethodName) jdk_65_method_131_code (2 : Nat) (Option.none : Option Jvm.ClassFile.FieldType)).before a0 Z = true := hw _ (List.mem_of_getElem? (i := 109) rfl)
theorem ow110 {a0 : Array Value} {Z : State} (hw : ∀ d ∈ tables_1, d.before a0 Z = true) : (Jvm.Cond.methodLink "java/util/Arrays" (304 : Nat) ({ cls := "java/lang/Math", name := "min", desc := "(II)I" } : Jvm.MethodName)).before a0 Z = true := hw _ (List.mem_of_getElem? (i := 110) rfl)
theorem ow111 {a0 : Array Value} {Z : State} (hw : ∀ d ∈ tables_1, d.before a0 Z = true) : (Jvm.Cond.static ({ cls := "java/lang/Math", name := "min", desc := "(II)I" } : Jvm.MethodName)).before a0 Z = true := hw _ (List.mem_of_getElem? (i := 111) rfl)
theorem ow112 {a0 : Array Value} {Z : State} (hw : ∀ d ∈ tables_1, d.before a0 Z = true) : (Jvm.Cond.initialized "java/lang/Math").before a0 Z = true := hw _ (List.mem_of_getElem? (i := 112) rfl)
theorem ow113 {a0 : Array Value} {Z : State} (hw : ∀ d ∈ tables_1, d.before a0 Z = true) : (Jvm.Cond.code ({ cls := "java/lang/Math", name := "min", desc := "(II)I" } : Jvm.MethodName) jdk_29_method_69_code (2 : Nat) (Option.some Jvm.ClassFile.FieldType.int)).before a0 Z = true := hw _ (List.mem_of_getElem? (i := 113) rfl)
theorem ow114 {a0 : Array Value} {Z : State} (hw : ∀ d ∈ tables_1, d.before a0 Z = true) : (Jvm.Cond.methodLink "java/util/Arrays" (150 : Nat) ({ cls := "java/lang/System", name := "arraycopy", desc := "(Ljava/lang/Object;ILjava/lang/Object;II)V" } : Jvm.MethodName)).before a0 Z = true := hw _ (List.mem_of_getElem? (i := 114) rfl)
theorem ow115 {a0 : Array Value} {Z : State} (hw : ∀ d ∈ tables_1, d.before a0 Z = true) : (Jvm.Cond.static ({ cls := "java/lang/System", name := "arraycopy", desc := "(Ljava/lang/Object;ILjava/lang/Object;II)V" } : Jvm.MethodName)).before a0 Z = true := hw _ (List.mem_of_getElem? (i := 115) rfl)
theorem ow116 {a0 : Array Value} {Z : State} (hw : ∀ d ∈ tables_1, d.before a0 Z = true) : (Jvm.Cond.initialized "java/lang/System").before a0 Z = true := hw _ (List.mem_of_getElem? (i := 116) rfl)
theorem ow117 {a0 : Array Value} {Z : State} (hw : ∀ d ∈ tables_1, d.before a0 Z = true) : (Jvm.Cond.native ({ cls := "java/lang/System", name := "arraycopy", desc := "(Ljava/lang/Object;ILjava/lang/Object;II)V" } : Jvm.MethodName)).before a0 Z = true := hw _ (List.mem_of_getElem? (i := 117) rfl)
theorem ow118 {a0 : Array Value} {Z : State} (hw : ∀ d ∈ tables_1, d.before a0 Z = true) : (Jvm.Cond.methodLink "java/lang/StringLatin1" (112 : Nat) ({ cls := "java/lang/String", name := "<init>", desc := "([BB)V" } : Jvm.MethodName)).before a0 Z = true := hw _ (List.mem_of_getElem? (i := 118) rfl)
theorem ow119 {a0 : Array Value} {Z : State} (hw : ∀ d ∈ tables_1, d.before a0 Z = true) : (Jvm.Cond.instanceMethod ({ cls := "java/lang/String", name := "<init>", desc := "([BB)V" } : Jvm.MethodName)).before a0 Z = true := hw _ (List.mem_of_getElem? (i := 119) rfl)
theorem ow120 {a0 : Array Value} {Z : State} (hw : ∀ d ∈ tables_1, d.before a0 Z = true) : (Jvm.Cond.code ({ cls := "java/lang/String", name := "<init>", desc := "([BB)V" } : Jvm.MethodName) jdk_42_method_151_code (3 : Nat) (Option.none : Option Jvm.ClassFile.FieldType)).before a0 Z = true := hw _ (List.mem_of_getElem? (i := 120) rfl)
theorem ow121 {a0 : Array Value} {Z : State} (hw : ∀ d ∈ tables_1, d.before a0 Z = true) : (Jvm.Cond.methodLink "com/example/redress/redress/definition/StatementStripBlanksPinLaw" (24 : Nat) ({ cls := "com/example/redress/redress/definition/StatementStripBlanksPinLaw", name := "blank", desc := "(C)Z" } : Jvm.MethodName)).before a0 Z = true := hw _ (List.mem_of_getElem? (i := 121) rfl)
theorem ow122 {a0 : Array Value} {Z : State} (hw : ∀ d ∈ tables_1, d.before a0 Z = true) : (Jvm.Cond.static ({ cls := "com/example/redress/redress/definition/StatementStripBlanksPinLaw", name := "blank", desc := "(C)Z" } : Jvm.MethodName)).before a0 Z = true := hw _ (List.mem_of_getElem? (i := 122) rfl)
theorem ow123 {a0 : Array Value} {Z : State} (hw : ∀ d ∈ tables_1, d.before a0 Z = true) : (Jvm.Cond.code ({ cls := "com/example/redress/redress/definition/StatementStripBlanksPinLaw", name := "blank", desc := "(C)Z" } : Jvm.MethodName) method_3_code (1 : Nat) (Option.some Jvm.ClassFile.FieldType.boolean)).before a0 Z = true := hw _ (List.mem_of_getElem? (i := 123) rfl)
theorem ow124 {a0 : Array Value} {Z : State} (hw : ∀ d ∈ tables_1, d.before a0 Z = true) : (Jvm.Cond.methodLink "com/example/redress/redress/definition/StatementStripBlanksPinLaw" (41 : Nat) ({ cls := "java/lang/String", name := "charAt", desc := "(I)C" } : Jvm.MethodName)).before a0 Z = true := hw _ (List.mem_of_getElem? (i := 124) rfl)
theorem ow125 {a0 : Array Value} {Z : State} (hw : ∀ d ∈ tables_1, d.before a0 Z = true) : (Jvm.Cond.stringLink "java/lang/StringLatin1" (151 : Nat) "").before a0 Z = true := hw _ (List.mem_of_getElem? (i := 125) rfl)
theorem pd0 : parseMethodDescriptor "([CIILjava/lang/Void;)V" = some ⟨[(.array .char), .int, .int, (.object "java/lang/Void")], none⟩ := by decide +kernel
theorem pd1 : parseMethodDescriptor "(IIILjava/util/function/BiFunction;)I" = some ⟨[.int, .int, .int, (.object "java/util/function/BiFunction")], some .int⟩ := by decide +kernel
theorem pd2 : parseMethodDescriptor "([C)V" = some ⟨[(.array .char)], none⟩ := by decide +kernel
theorem pd3 : parseMethodDescriptor "(II)V" = some ⟨[.int, .int], none⟩ := by decide +kernel
theorem pd4 : parseMethodDescriptor "(II)I" = some ⟨[.int, .int], some .int⟩ := by decide +kernel
theorem pd5 : parseMethodDescriptor "([BII)[B" = some ⟨[(.array .byte), .int, .int], some (.array .byte)⟩ := by decide +kernel
theorem pd6 : parseMethodDescriptor "([BB)V" = some ⟨[(.array .byte), .byte], none⟩ := by decide +kernel
theorem pd7 : parseMethodDescriptor "()I" = some ⟨[], some .int⟩ := by decide +kernel
theorem pd8 : parseMethodDescriptor "(III)V" = some ⟨[.int, .int, .int], none⟩ := by decide +kernel
theorem pd9 : parseMethodDescriptor "()Z" = some ⟨[], some .boolean⟩ := by decide +kernel
theorem pd10 : parseMethodDescriptor "([BII)Ljava/lang/String;" = some ⟨[(.array .byte), .int, .int], some (.object "java/lang/String")⟩ := by decide +kernel
theorem pd11 : parseMethodDescriptor "(I)C" = some ⟨[.int], some .char⟩ := by decide +kernel
theorem pd12 : parseMethodDescriptor "(C)Z" = some ⟨[.char], some .boolean⟩ := by decide +kernel
theorem pd13 : parseMethodDescriptor "(II)Ljava/lang/String;" = some ⟨[.int, .int], some (.object "java/lang/String")⟩ := by decide +kernel
theorem pd14 : parseMethodDescriptor "(I[C)Ljava/lang/String;" = some ⟨[.int, (.array .char)], some (.object "java/lang/String")⟩ := by decide +kernel
theorem pd15 : parseMethodDescriptor "(Ljava/lang/String;)Ljava/lang/String;" = some ⟨[(.object "java/lang/String")], some (.object "java/lang/String")⟩ := by decide +kernel
theorem pd16 : parseMethodDescriptor "(Ljava/lang/String;I[CII)Z" = some ⟨[(.object "java/lang/String"), .int, (.array .char), .int, .int], some .boolean⟩ := by decide +kernel
theorem pn0 : plainName "java/lang/String" = true := by first | (simp [plainName, overriddenIn]; done) | decide +kernel
theorem pn1 : plainName "jdk/internal/util/Preconditions" = true := by first | (simp [plainName, overriddenIn]; done) | decide +kernel
theorem pn2 : plainName "java/util/Arrays" = true := by first | (simp [plainName, overriddenIn]; done) | decide +kernel
theorem pn3 : plainName "com/example/redress/redress/definition/StatementStripBlanksPinLaw" = true := by first | (simp [plainName, overriddenIn]; done) | decide +kernel
theorem pn4 : plainName "com/example/redress/redress/definition/Statement" = true := by first | (simp [plainName, overriddenIn]; done) | decide +kernel
theorem pn5 : plainName "java/lang/StringLatin1" = true := by first | (simp [plainName, overriddenIn]; done) | decide +kernel
def EL0 : List (String × Nat) := [("java/lang/String", 7), ("java/lang/StringLatin1", 151)]
theorem own_EW {a0 : Array Value} {Z : State} (hw : ∀ d ∈ tables_1, d.before a0 Z = true) : EW Z a0 EL0 := (EW.cons (ow22 hw) (by decide) (EW.cons (ow125 hw) (by decide) EW.nil))
theorem own_wS {a0 : Array Value} {Z : State} (hw : ∀ d ∈ tables_1, d.before a0 Z = true) : ∀ a ∈ Bundle.stringAtoms, a.before a0 Z = true := fun d hd => hw d ((by decide +kernel : ∀ d ∈ Bundle.stringAtoms, d ∈ tables_1) d hd)
theorem and255_chars (x : Int32) : ¬ nar .char ((x &&& (255 : Int32)).toUInt32.toUInt16.toUInt32.toInt32) < 0 ∧ ¬ (255 : Int32) < nar .char ((x &&& (255 : Int32)).toUInt32.toUInt16.toUInt32.toInt32) := by
  have t : ∀ k : Fin 256, ¬ nar .char ((Int32.ofNat k.val).toUInt32.toUInt16.toUInt32.toInt32) < 0 ∧ ¬ (255 : Int32) < nar .char ((Int32.ofNat k.val).toUInt32.toUInt16.toUInt32.toInt32) := by decide +kernel
  have h : (x &&& 255).toBitVec.toNat < 256 := by
    simp only [Int32.toBitVec_and, BitVec.toNat_and]
    exact Nat.lt_succ_of_le Nat.and_le_right
  have e : (x &&& 255) = Int32.ofNat (x &&& 255).toBitVec.toNat := by
    apply Int32.toBitVec_inj.mp
    show _ = BitVec.ofNat 32 _
    rw [BitVec.ofNat_toNat]; simp
  rw [e]
  exact t ⟨_, h⟩
theorem own_c255 (x : Int32) : nar .char ((x &&& (255 : Int32)).toUInt32.toUInt16.toUInt32.toInt32) = x &&& (255 : Int32) := by
  have t : ∀ k : Fin 256, nar .char ((Int32.ofNat k.val).toUInt32.toUInt16.toUInt32.toInt32) = Int32.ofNat k.val := by decide +kernel
  have h : (x &&& 255).toBitVec.toNat < 256 := by
    simp only [Int32.toBitVec_and, BitVec.toNat_and]
    exact Nat.lt_succ_of_le Nat.and_le_right
  have e : (x &&& 255) = Int32.ofNat (x &&& 255).toBitVec.toNat := by
    apply Int32.toBitVec_inj.mp
    show _ = BitVec.ofNat 32 _
    rw [BitVec.ofNat_toNat]; simp
  rw [e]
  exact t ⟨_, h⟩
theorem own_up (cs : List Int32) (h : ∀ c ∈ cs, ¬ c < 0 ∧ ¬ (255 : Int32) < c) : ∀ c ∈ cs, ¬ c < 0 ∧ ¬ (65535 : Int32) < c := fun c hc => ⟨(h c hc).1, fun q => (h c hc).2 (by rw [Int32.lt_iff_toInt_lt] at q ⊢; have e1 : (65535 : Int32).toInt = 65535 := rfl; have e2 : (255 : Int32).toInt = 255 := rfl; omega)⟩
/-- the String at b spells the chars cs (each 0 to 255) -/
def StrP (Z : State) (h : Heap) (b : Addr) (cs : List Int32) : Prop := Exa Z h b "java/lang/String" ∧ Fld Z h b "java/lang/String" "coder" "B" (.int 0) ∧ (∀ c ∈ cs, ¬ c < 0 ∧ ¬ (255 : Int32) < c) ∧ cs.length ≤ 4000 ∧ ∃ (t : Addr) (kb : ClassId), Fld Z h b "java/lang/String" "value" "[B" (.ref t) ∧ Arv Z h t kb .byte (Int32.ofNat cs.length) ((cs.map fun c => c.toInt8.toInt32).map Value.int) (.int 0)
theorem StrP.lt {Z : State} {h : Heap} {b : Addr} {cs : List Int32} (F : StrP Z h b cs) : b < h.size := F.1.lt
theorem StrP.ext {Z : State} {h h' : Heap} {b : Addr} {cs : List Int32} (F : StrP Z h b cs) (E : Ext h h') : StrP Z h' b cs := by
  obtain ⟨f1, f2, f3, f4, t, kb, f5, f6⟩ := F
  exact ⟨f1.ext E, f2.ext E, f3, f4, t, kb, f5.ext E, f6.ext E⟩
theorem StrP.exk {Z : State} {h h' : Heap} {b : Addr} {cs : List Int32} (F : StrP Z h b cs) (K : Keep h h' []) : StrP Z h' b cs := by
  obtain ⟨f1, f2, f3, f4, t, kb, f5, f6⟩ := F
  exact ⟨f1.keep K, f2.keep K nin0, f3, f4, t, kb, f5.keep K nin0, f6.keep K nin0⟩
theorem Ext.of_keep {h h' : Heap} (K : Keep h h' []) : Ext h h' := ⟨K.1, fun a c q => K.2.1 a c q nin0⟩
theorem own_safe_null {Z : State} {EL : List (String × Nat)} {vm : Vm} {h : Heap} {a : Addr} (hal : Z.vm.Alike vm) (E : Exa Z h a "java/lang/String") (F : Fld Z h a "java/lang/String" "value" "[B" .null) : Safe Z EL vm h a := fun B => by
  obtain ⟨p, -, u, b, -, q, -, G, hy⟩ := B
  obtain ⟨cS, ⟨⟨s1, s2, s3, ⟨cv, kv, iv, s4, s4'⟩, ⟨cc, kc, ic, s5, s5'⟩, s6, s7, s8, s9, s10, s11, s12, s13, s14, s15, s16⟩, hfS, hcS⟩, ⟨kS, k1, k2, k3⟩, hB, hbyt⟩ := G
  rcases hy with rfl | rfl
  · obtain ⟨cell, cf, k, i, f, h1, h2, h3, h4, h5, h6, h7⟩ := F
    cases h1.symm.trans s1
    obtain ⟨k', e1, -⟩ := State.fieldFound?_setVm (s := Z) hal h2
    have e2 := (show (Wst Z vm h).fieldFound? _ _ _ = _ from e1).symm.trans s4
    simp only [Option.some.injEq, Prod.mk.injEq] at e2
    rw [e2.2.2.2] at h7
    rw [h7] at s8
    cases s8
  · obtain ⟨cell, k, h1, h2, h3, -, -⟩ := E
    cases h1.symm.trans s10
    have e1 : vm.findClass "java/lang/String" = some q.SA.cls := by rw [hal.findClass]; exact h2
    have e2 : vm.findClass "[B" = some q.SA.cls := hB
    obtain ⟨ka, a1, a2⟩ := Vm.findClass_spec e1
    obtain ⟨kb, b1, b2⟩ := Vm.findClass_spec e2
    cases a1.symm.trans b1
    rw [a2] at b2
    exact absurd b2 (by decide)
theorem own_frn {L : List Loc} (h : L = []) (k : Nat) : Fr k L := by rw [h]; exact Fr.nil k
theorem own_eqv {v : Option Value} {p : Prop} [Decidable p] (h : (v = some (.int 1) ∧ p) ∨ (v = some (.int 0) ∧ ¬ p)) : v = some (.int (if p then (1 : Int32) else (0 : Int32))) := by
  rcases h with ⟨rfl, q⟩ | ⟨rfl, q⟩
  · rw [if_pos q]
  · rw [if_neg q]
theorem own_cw {args : Array Value} {s : State} (hsets : ∀ w ∈ jdkStatics_1, w.before args s = true) : Jvm.Lit.compactW.before args s = true := hsets _ (List.mem_of_getElem? (i := 2) rfl)
theorem on_ti {i : Nat} (hi : i ≤ 4000) : (Int32.ofNat i).toInt = i := Int32.toInt_ofNat_small (by omega)
theorem on_lt {i j : Nat} (hi : i ≤ 4000) (hj : j ≤ 4000) : Int32.ofNat i < Int32.ofNat j ↔ i < j := by rw [Int32.lt_iff_toInt_lt, on_ti hi, on_ti hj]; omega
theorem on_eq {i j : Nat} (hi : i ≤ 4000) (hj : j ≤ 4000) : Int32.ofNat i = Int32.ofNat j ↔ i = j := ⟨fun q => by have := congrArg Int32.toInt q; rw [on_ti hi, on_ti hj] at this; omega, fun q => by rw [q]⟩
theorem on_n0 {i : Nat} (hi : i ≤ 4000) : ¬ Int32.ofNat i < 0 := by rw [Int32.lt_iff_toInt_lt, on_ti hi]; have : (0 : Int32).toInt = 0 := rfl; omega
theorem on_add (i j : Nat) : Int32.ofNat i + Int32.ofNat j = Int32.ofNat (i + j) := (Int32.ofNat_add i j).symm
theorem on_inc (i : Nat) : Int32.ofNat i + (1 : Int32) = Int32.ofNat (i + 1) := (Int32.ofNat_add i 1).symm
theorem on_sub {i j : Nat} (h : j ≤ i) (hi : i ≤ 4000) : Int32.ofNat i - Int32.ofNat j = Int32.ofNat (i - j) := by
  have := on_add (i - j) j
  rw [Nat.sub_add_cancel h] at this
  rw [← this, Int32.add_sub_cancel]
theorem on_dec {i : Nat} (h : 0 < i) (hi : i ≤ 4000) : Int32.ofNat i - (1 : Int32) = Int32.ofNat (i - 1) := on_sub (j := 1) h hi
theorem on_decn {i : Nat} (h : 0 < i) (hi : i ≤ 4000) : Int32.ofNat i + (-1 : Int32) = Int32.ofNat (i - 1) := by
  rw [← on_dec h hi, Int32.sub_eq_add_neg]
theorem on_cl {i : Nat} (hi : i ≤ 4000) : (Int32.ofNat i).toNatClampNeg = i := by simp only [Int32.toNatClampNeg]; rw [on_ti hi]; omega
theorem own_ws {a0 : Array Value} {Z : State} (hw : ∀ d ∈ tables_1, d.before a0 Z = true) : ∀ d ∈ StrChars.Road.words, d.before a0 Z = true := fun d hd => hw d ((by decide +kernel : ∀ d ∈ StrChars.Road.words, d ∈ tables_1) d hd)
theorem own_wlen {a0 : Array Value} {Z : State} (hw : ∀ d ∈ tables_1, d.before a0 Z = true) : ∀ d ∈ StrChars.Road.wordsLen, d.before a0 Z = true := fun d hd => hw d ((by decide +kernel : ∀ d ∈ StrChars.Road.wordsLen, d ∈ tables_1) d hd)
theorem own_wch {a0 : Array Value} {Z : State} (hw : ∀ d ∈ tables_1, d.before a0 Z = true) : ∀ d ∈ StrChars.Road.wordsChN, d.before a0 Z = true := fun d hd => hw d ((by decide +kernel : ∀ d ∈ StrChars.Road.wordsChN, d ∈ tables_1) d hd)
theorem d_jdk_42_method_149_code_0 : decode jdk_42_method_149_code 0 = .ok (.aload_n 0, 1) := by decide +kernel
theorem d_jdk_42_method_149_code_1 : decode jdk_42_method_149_code 1 = .ok (.invokespecial 1, 3) := by decide +kernel
theorem d_jdk_42_method_149_code_4 : decode jdk_42_method_149_code 4 = .ok (.iload_n 3, 1) := by decide +kernel
theorem d_jdk_42_method_149_code_5 : decode jdk_42_method_149_code 5 = .ok (.ifCond .ne 22, 3) := by decide +kernel
theorem d_jdk_42_method_149_code_8 : decode jdk_42_method_149_code 8 = .ok (.aload_n 0, 1) := by decide +kernel
theorem d_jdk_42_method_149_code_9 : decode jdk_42_method_149_code 9 = .ok (.ldc 7, 2) := by decide +kernel
theorem d_jdk_42_method_149_code_11 : decode jdk_42_method_149_code 11 = .ok (.getfield 9, 3) := by decide +kernel
theorem d_jdk_42_method_149_code_14 : decode jdk_42_method_149_code 14 = .ok (.putfield 9, 3) := by decide +kernel
theorem d_jdk_42_method_149_code_17 : decode jdk_42_method_149_code 17 = .ok (.aload_n 0, 1) := by decide +kernel
theorem d_jdk_42_method_149_code_18 : decode jdk_42_method_149_code 18 = .ok (.ldc 7, 2) := by decide +kernel
theorem d_jdk_42_method_149_code_20 : decode jdk_42_method_149_code 20 = .ok (.getfield 15, 3) := by decide +kernel
theorem d_jdk_42_method_149_code_23 : decode jdk_42_method_149_code 23 = .ok (.putfield 15, 3) := by decide +kernel
theorem d_jdk_42_method_149_code_26 : decode jdk_42_method_149_code 26 = .ok (.return_, 1) := by decide +kernel
def Q_rme4 (Z : State) (a : Addr) (b : Addr) (h0 : Heap) (n0 : Nat) (v : Option Value) (h : Heap) (L : List Loc) : Prop := v = none ∧ Fr n0 L ∧ Keep h0 h [a] ∧ StrP Z h a []
theorem ef_rme4 (m : MethodId) (a : Addr) (b : Addr) : entryFrame m #[(.ref a), (.ref b), (.int (0 : Int32)), (.int (0 : Int32)), .null] 6 = mkF m 0 #[.val (.ref a), .val (.ref b), .val (.int (0 : Int32)), .val (.int (0 : Int32)), .val .null, .unset] [] := by first | (simp [entryFrame, mkF, argsToLocals, Value.category]; done) | rfl
set_option maxRecDepth 65536 in
set_option maxHeartbeats 40000000 in
theorem rme4 (l : Launch) (Z : State) (a0 : Array Value) (hw : ∀ d ∈ tables_1, d.before a0 Z = true) (ws : List Jvm.Cond) (a : Addr) (b : Addr) (h0 : Heap) (n0 : Nat) (O0 : Old Z n0 h0) (Ea : Exa Z h0 a "java/lang/String") (Fv : Fld Z h0 a "java/lang/String" "value" "[B" .null) (Fc : Fld Z h0 a "java/lang/String" "coder" "B" (.int (0 : Int32))) (ga : n0 ≤ a) :
    MetFree l (⟨"java/lang/String", "<init>", "([CIILjava/lang/Void;)V"⟩ : MethodName) (head1 (Jvm.Cond.code (⟨"java/lang/String", "<init>", "([CIILjava/lang/Void;)V"⟩ : MethodName) jdk_42_method_149_code 6 none :: ws) ({ frames := 1, cells := 4, slots := 8, locals := 12 } : Room)) (fun aa U => aa = #[(.ref a), (.ref b), (.int (0 : Int32)), (.int (0 : Int32)), .null] ∧ Z.Warmed39 U.vm ∧ U.heap = h0 ∧ CHv Z EL0 U.vm h0) (fun _ _ _ _ _ => True) (fun _ U o U' => ∃ v L, o = .returned v ∧ Q_rme4 Z a b h0 n0 v U'.heap L ∧ CHr Z EL0 U.vm U.heap U'.vm U'.heap ∧ ReturnedEndW U o U' L ({ frames := 1, cells := 4, slots := 8, locals := 12 } : Room).cells ({ frames := 1, cells := 4, slots := 8, locals := 12 } : Room).slots) := by
  refine MetFree.of_bodySF (plainFor_of_name pn0) hisR ?_
  intro p e s m args below meth c s₁ Bd hml0 hP hK
  obtain ⟨rfl, hZ, hh, hCH⟩ := hP
  have hx := Bd.exec
  have hby := Bd.bytes
  have hml : c.maxLocals = 6 := hml0
  have hown : s.vm.findClass "java/lang/String" = some m.cls := findClass_of_methodNamed Bd.named
  have hnm := (name_of_methodNamed Bd.named Bd.method).1
  have X0 : Stand p l e ({ frames := 1, cells := 4, slots := 8, locals := 12 } : Room) (s.setVm s.vm) m #[(.ref a), (.ref b), (.int (0 : Int32)), (.int (0 : Int32)), .null] below meth c s₁ [] 0 0 := Stand.of_body Bd
  have e0 : s₁.heap = h0 := by rw [← hh, Bd.state]; rfl
  have N0 := Fr.nil n0
  have K0 : Keep h0 h0 [a] := Keep.refl _ _
  have pre0 : ∀ tgt, Steps p.tables e below (s₁.setTop (mkF m 0 #[.val (.ref a), .val (.ref b), .val (.int (0 : Int32)), .val (.int (0 : Int32)), .val .null, .unset] [])) tgt → Steps p.tables e below (s₁.setTop (entryFrame m #[(.ref a), (.ref b), (.int (0 : Int32)), (.int (0 : Int32)), .null] 6)) tgt := fun tgt kgo => castTop (ef_rme4 m a b) kgo
  have hS0 : s.Since s.vm 0 := (State.WarmedH.refl s).since 0
  have hk0 : 0 ≤ h0.size := Nat.zero_le _
  have CH0 : CHr Z EL0 s.vm h0 s.vm h0 := CHr.refl hCH
  have Ya : Safe Z EL0 s.vm h0 a := own_safe_null hZ.alike Ea Fv
  obtain ⟨T1, X1, e1, st1⟩ := initO X0 hx hZ hown (ow19 hw) (ow20 hw) (ow21 hw) e0 (g := (mkF m 1 #[.val (.ref a), .val (.ref b), .val (.int (0 : Int32)), .val (.int (0 : Int32)), .val .null, .unset] [(.ref a)])) rfl (by rw [hml]; rfl) rfl (hb hby d_jdk_42_method_149_code_1) (by decide) (W := 0) (by show 2 * 0 + _ ≤ _; exact Nat.le_of_eq rfl) (by decide)
  obtain ⟨b2, T2, h2, kk2, d2, k2, X2, e2, E2, hS2, hk2, hZ2, hown2, Ex2, Fc2, Fv2, Av2, -, -, CR2, -, sn2, st2⟩ := ldcCH X1 hx hZ hown (ow22 hw) (own_wS hw) e1 hS0 hk0 (own_EW hw) (by decide) CH0.1 (vs := []) (z := (0 : Int32)) ⟨by decide, rfl⟩ (by decide) (by decide) (g := (mkF m 9 #[.val (.ref a), .val (.ref b), .val (.int (0 : Int32)), .val (.int (0 : Int32)), .val .null, .unset] [(.ref a)])) rfl (hb hby d_jdk_42_method_149_code_9) (n := 0) (by decide) (by decide) (by decide) (by decide)
  have O3 := O0.ext E2
  have K3 := K0.ext E2
  have CH3 := CH0.trans CR2
  have f4 := (CHr.safe CR2 Ea.lt Ya)
  have sq2_0 := sn2 a f4
  obtain ⟨T5, X5, e5, st5⟩ := getF X2 hx hZ2 hown2 (host := "") (Or.inl (ow28 hw)) Via.refl e2 Fv2 (g := (mkF m 11 #[.val (.ref a), .val (.ref b), .val (.int (0 : Int32)), .val (.int (0 : Int32)), .val .null, .unset] [(.ref b2), (.ref a)])) rfl rfl (hb hby d_jdk_42_method_149_code_11)
  have f6 := (Ea.ext E2)
  have f7 := (Fv.ext E2)
  obtain ⟨T8, h8, X8, e8, W8, st8⟩ := putF X5 hx hZ2 hown2 (host := "") (Or.inl (ow28 hw)) Via.refl e5 f7 f6 (Or.inr ⟨(ow24 hw), rfl, hnm⟩) (ow10 hw) (ty := (.array .byte)) (by decide) rfl rfl (g := (mkF m 14 #[.val (.ref a), .val (.ref b), .val (.int (0 : Int32)), .val (.int (0 : Int32)), .val .null, .unset] [(.ref d2), (.ref a)])) rfl rfl (hb hby d_jdk_42_method_149_code_14)
  have Fw8 := f7.same W8
  have CH9 := CH3.trans (CHr.wr W8 f4 CH3.1)
  have hk9 := Nat.le_trans hk2 (Keep.of_wr W8).1
  have N10 := Fr.snoc X8 N0 ga
  have O10 := O3.wr W8 ga
  have K10 := K3.wr W8 (Or.inl (List.mem_of_getElem? (i := 0) rfl))
  have f11 := (f6.wr W8)
  have f12 := (Ex2.wr W8)
  have f13 := (Av2.other W8 (Ne.symm sq2_0.2))
  obtain ⟨b14, T14, h14, kk14, d14, k14, X14, e14, E14, hS14, hk14, hZ14, hown14, Ex14, Fc14, Fv14, Av14, -, -, CR14, -, sn14, st14⟩ := ldcCH X8 hx hZ2 hown2 (ow22 hw) (own_wS hw) e8 hS2 hk9 (own_EW hw) (by decide) CH9.1 (vs := []) (z := (0 : Int32)) ⟨by decide, rfl⟩ (by decide) (by decide) (g := (mkF m 18 #[.val (.ref a), .val (.ref b), .val (.int (0 : Int32)), .val (.int (0 : Int32)), .val .null, .unset] [(.ref a)])) rfl (hb hby d_jdk_42_method_149_code_18) (n := 0) (by decide) (by decide) (by decide) (by decide)
  have O15 := O10.ext E14
  have K15 := K10.ext E14
  have CH15 := CH9.trans CR14
  have f16 := (CHr.safe CR14 f11.lt (Safe.wr W8 f4 CH3.1 f4))
  have sq14_0 := sn14 a f16
  obtain ⟨T17, X17, e17, st17⟩ := getF X14 hx hZ14 hown14 (host := "") (Or.inl (ow29 hw)) Via.refl e14 Fc14 (g := (mkF m 20 #[.val (.ref a), .val (.ref b), .val (.int (0 : Int32)), .val (.int (0 : Int32)), .val .null, .unset] [(.ref b14), (.ref a)])) rfl rfl (hb hby d_jdk_42_method_149_code_20)
  have f18 := (f11.ext E14)
  have f19 := (((Fc.ext E2).other W8 (Or.inr (slot_ne (Or.inr (ow25 hw)) (Or.inr (ow24 hw)) (by decide) (t := .byte) (t' := (.array .byte)) (by decide) (by decide)))).ext E14)
  obtain ⟨T20, h20, X20, e20, W20, st20⟩ := putFN X17 hx hZ14 hown14 (ow29 hw) Via.refl e17 f19 f18 (Or.inr ⟨(ow25 hw), rfl, hnm⟩) (ow10 hw) (ty := .byte) (v' := (.int (nar .byte 0))) (by decide) rfl (fits_nar_byte _) (g := (mkF m 23 #[.val (.ref a), .val (.ref b), .val (.int (0 : Int32)), .val (.int (0 : Int32)), .val .null, .unset] [(.int 0), (.ref a)])) rfl rfl (hb hby d_jdk_42_method_149_code_23)
  have Fw20 := f19.same W20
  have CH21 := CH15.trans (CHr.wr W20 f16 CH15.1)
  have hk21 := Nat.le_trans hk14 (Keep.of_wr W20).1
  have N22 := Fr.snoc X20 N10 ga
  have O22 := O15.wr W20 ga
  have K22 := K15.wr W20 (Or.inl (List.mem_of_getElem? (i := 0) rfl))
  have f23 := (f18.wr W20)
  have f24 := ((Fw8.ext E14).other W20 (Or.inr (slot_ne (Or.inr (ow24 hw)) (Or.inr (ow25 hw)) (by decide) (t := (.array .byte)) (t' := .byte) (by decide) (by decide))))
  have f25 := ((f13.ext E14).other W20 (Ne.symm sq2_0.2))
  obtain ⟨fs, hretL, hrun, hended, hEnd⟩ := Stand.leaveW X20 hS14 (by rw [e20]; exact hk21) (v := none) (fun _ => rfl)
  have hCf : CHr Z EL0 s.vm s.heap T20.vm T20.heap := by rw [hh, e20]; exact CH21.trans (CHv.at X20 hZ14 (own_EW hw) CH21.1)
  refine ⟨_, _, pre0 _ ?_, hrun, hended, _, _, rfl, ?_, hCf, hEnd.1, hEnd.2.1, hEnd.2.2.1, hEnd.2.2.2.mono (by decide) (by decide)⟩
  · refine XS.aloadN X0.here hx rfl (hb hby d_jdk_42_method_149_code_0) rfl rfl ?_
    show Steps p.tables e below (s₁.setTop (mkF m 1 #[.val (.ref a), .val (.ref b), .val (.int (0 : Int32)), .val (.int (0 : Int32)), .val .null, .unset] [(.ref a)])) _
    refine st1 _ ?_
    show Steps p.tables e below (T1.setTop (mkF m 4 #[.val (.ref a), .val (.ref b), .val (.int (0 : Int32)), .val (.int (0 : Int32)), .val .null, .unset] [])) _
    refine XS.iloadN X1.here hx rfl (hb hby d_jdk_42_method_149_code_4) rfl ?_
    show Steps p.tables e below (T1.setTop (mkF m 5 #[.val (.ref a), .val (.ref b), .val (.int (0 : Int32)), .val (.int (0 : Int32)), .val .null, .unset] [(.int (0 : Int32))])) _
    refine XS.ifNo X1.here hx rfl (hb hby d_jdk_42_method_149_code_5) rfl ((if0 _ _).trans (teq (by decide : (0 : Int32) = (0 : Int32))).2) ?_
    show Steps p.tables e below (T1.setTop (mkF m 8 #[.val (.ref a), .val (.ref b), .val (.int (0 : Int32)), .val (.int (0 : Int32)), .val .null, .unset] [])) _
    refine XS.aloadN X1.here hx rfl (hb hby d_jdk_42_method_149_code_8) rfl rfl ?_
    show Steps p.tables e below (T1.setTop (mkF m 9 #[.val (.ref a), .val (.ref b), .val (.int (0 : Int32)), .val (.int (0 : Int32)), .val .null, .unset] [(.ref a)])) _
    refine st2 _ ?_
    show Steps p.tables e below (T2.setTop (mkF m 11 #[.val (.ref a), .val (.ref b), .val (.int (0 : Int32)), .val (.int (0 : Int32)), .val .null, .unset] [(.ref b2), (.ref a)])) _
    refine st5 _ ?_
    show Steps p.tables e below (T5.setTop (mkF m 14 #[.val (.ref a), .val (.ref b), .val (.int (0 : Int32)), .val (.int (0 : Int32)), .val .null, .unset] [(.ref d2), (.ref a)])) _
    refine st8 _ ?_
    show Steps p.tables e below (T8.setTop (mkF m 17 #[.val (.ref a), .val (.ref b), .val (.int (0 : Int32)), .val (.int (0 : Int32)), .val .null, .unset] [])) _
    refine XS.aloadN X8.here hx rfl (hb hby d_jdk_42_method_149_code_17) rfl rfl ?_
    show Steps p.tables e below (T8.setTop (mkF m 18 #[.val (.ref a), .val (.ref b), .val (.int (0 : Int32)), .val (.int (0 : Int32)), .val .null, .unset] [(.ref a)])) _
    refine st14 _ ?_
    show Steps p.tables e below (T14.setTop (mkF m 20 #[.val (.ref a), .val (.ref b), .val (.int (0 : Int32)), .val (.int (0 : Int32)), .val .null, .unset] [(.ref b14), (.ref a)])) _
    refine st17 _ ?_
    show Steps p.tables e below (T17.setTop (mkF m 23 #[.val (.ref a), .val (.ref b), .val (.int (0 : Int32)), .val (.int (0 : Int32)), .val .null, .unset] [(.int 0), (.ref a)])) _
    refine st20 _ ?_
    show Steps p.tables e below (T20.setTop (mkF m 26 #[.val (.ref a), .val (.ref b), .val (.int (0 : Int32)), .val (.int (0 : Int32)), .val .null, .unset] [])) _
    exact X20.returnOut hx Bd.returns (hb hby d_jdk_42_method_149_code_26) hretL
  · show Q_rme4 Z a b h0 n0 _ T20.heap _
    rw [e20]
    exact ⟨rfl, N22, K22, f23, Fw20, (fun _ q => nomatch q), Nat.zero_le _, d2, k2, f24, f25⟩
theorem d_jdk_42_method_3_code_0 : decode jdk_42_method_3_code 0 = .ok (.aload_n 0, 1) := by decide +kernel
theorem d_jdk_42_method_3_code_1 : decode jdk_42_method_3_code 1 = .ok (.aload_n 1, 1) := by decide +kernel
theorem d_jdk_42_method_3_code_2 : decode jdk_42_method_3_code 2 = .ok (.iconst 0, 1) := by decide +kernel
theorem d_jdk_42_method_3_code_3 : decode jdk_42_method_3_code 3 = .ok (.aload_n 1, 1) := by decide +kernel
theorem d_jdk_42_method_3_code_4 : decode jdk_42_method_3_code 4 = .ok (.arraylength, 1) := by decide +kernel
theorem d_jdk_42_method_3_code_5 : decode jdk_42_method_3_code 5 = .ok (.aconst_null, 1) := by decide +kernel
theorem d_jdk_42_method_3_code_6 : decode jdk_42_method_3_code 6 = .ok (.invokespecial 27, 3) := by decide +kernel
theorem d_jdk_42_method_3_code_9 : decode jdk_42_method_3_code 9 = .ok (.return_, 1) := by decide +kernel
def Q_rme1 (Z : State) (a : Addr) (b : Addr) (kb : ClassId) (h0 : Heap) (n0 : Nat) (v : Option Value) (h : Heap) (L : List Loc) : Prop := v = none ∧ Fr n0 L ∧ Keep h0 h [a] ∧ StrP Z h a []
theorem ef_rme1 (m : MethodId) (a : Addr) (b : Addr) : entryFrame m #[(.ref a), (.ref b)] 2 = mkF m 0 #[.val (.ref a), .val (.ref b)] [] := by first | (simp [entryFrame, mkF, argsToLocals, Value.category]; done) | rfl
set_option maxRecDepth 65536 in
set_option maxHeartbeats 40000000 in
theorem rme1 (l : Launch) (Z : State) (a0 : Array Value) (hw : ∀ d ∈ tables_1, d.before a0 Z = true) (ws : List Jvm.Cond) (a : Addr) (b : Addr) (kb : ClassId) (h0 : Heap) (n0 : Nat) (O0 : Old Z n0 h0) (Ea : Exa Z h0 a "java/lang/String") (Fv : Fld Z h0 a "java/lang/String" "value" "[B" .null) (Fc : Fld Z h0 a "java/lang/String" "coder" "B" (.int (0 : Int32))) (ga : n0 ≤ a) (Ab : Arv Z h0 b kb .char (0 : Int32) [] (.int (0 : Int32))) :
    MetFree l (⟨"java/lang/String", "<init>", "([C)V"⟩ : MethodName) (head1 (Jvm.Cond.code (⟨"java/lang/String", "<init>", "([C)V"⟩ : MethodName) jdk_42_method_3_code 2 none :: ws) ({ frames := 2, cells := 4, slots := 8, locals := 29 } : Room)) (fun aa U => aa = #[(.ref a), (.ref b)] ∧ Z.Warmed39 U.vm ∧ U.heap = h0 ∧ CHv Z EL0 U.vm h0) (fun _ _ _ _ _ => True) (fun _ U o U' => ∃ v L, o = .returned v ∧ Q_rme1 Z a b kb h0 n0 v U'.heap L ∧ CHr Z EL0 U.vm U.heap U'.vm U'.heap ∧ ReturnedEndW U o U' L ({ frames := 2, cells := 4, slots := 8, locals := 29 } : Room).cells ({ frames := 2, cells := 4, slots := 8, locals := 29 } : Room).slots) := by
  refine MetFree.of_bodySF (plainFor_of_name pn0) hisR ?_
  intro p e s m args below meth c s₁ Bd hml0 hP hK
  obtain ⟨rfl, hZ, hh, hCH⟩ := hP
  have hx := Bd.exec
  have hby := Bd.bytes
  have hml : c.maxLocals = 2 := hml0
  have hown : s.vm.findClass "java/lang/String" = some m.cls := findClass_of_methodNamed Bd.named
  have hnm := (name_of_methodNamed Bd.named Bd.method).1
  have X0 : Stand p l e ({ frames := 2, cells := 4, slots := 8, locals := 29 } : Room) (s.setVm s.vm) m #[(.ref a), (.ref b)] below meth c s₁ [] 0 0 := Stand.of_body Bd
  have e0 : s₁.heap = h0 := by rw [← hh, Bd.state]; rfl
  have N0 := Fr.nil n0
  have K0 : Keep h0 h0 [a] := Keep.refl _ _
  have pre0 : ∀ tgt, Steps p.tables e below (s₁.setTop (mkF m 0 #[.val (.ref a), .val (.ref b)] [])) tgt → Steps p.tables e below (s₁.setTop (entryFrame m #[(.ref a), (.ref b)] 2)) tgt := fun tgt kgo => castTop (ef_rme1 m a b) kgo
  have hS0 : s.Since s.vm 0 := (State.WarmedH.refl s).since 0
  have hk0 : 0 ≤ h0.size := Nat.zero_le _
  have CH0 : CHr Z EL0 s.vm h0 s.vm h0 := CHr.refl hCH
  obtain ⟨cl1, Ar1, q1, S1, M1, H1, G1⟩ := id Ab
  obtain ⟨_, _, ⟨T2, L2, k2, n2⟩, -, Xr2, hSr2, hgr2, ⟨Lc2, hQ2, l2, y2, z2, CR2⟩, st2⟩ := X0.specialBackS hx (y := (⟨"java/lang/String", "<init>", "([CIILjava/lang/Void;)V"⟩ : MethodName)) rfl hown (mvT hZ (ow15 hw)) (mvT hZ (ow16 hw)) (mvT hZ (ow18 hw)) (by decide) (backOfSH (W := 0) (rme4 l Z a0 hw [] a b  h0 n0 O0 Ea Fv Fc ga) hZ (ow18 hw) (ow11 hw) (by decide) (by decide) (own_EW hw) CH0.1) (g := (mkF m 6 #[.val (.ref a), .val (.ref b)] [.null, (.int (0 : Int32)), (.int (0 : Int32)), (.ref b), (.ref a)])) rfl (by rw [hml]; rfl) (Steps.refl _) (a := a) (argsL := [(.ref b), (.int (0 : Int32)), (.int (0 : Int32)), .null]) (rest := []) (lenOf pd0 rfl) rfl (by show 2 * 0 + _ ≤ _; exact Nat.le_of_eq rfl) (hb hby d_jdk_42_method_3_code_6) (fun _ _ => ⟨rfl, e0, (by decide : 0 + 4 ≤ _), (by decide : 0 + 8 ≤ _)⟩)
  dsimp only [Pt.U, Pt.locs, Pt.cells, Pt.slots] at Xr2 hSr2 hgr2 l2 y2 z2 CR2 st2 hQ2
  subst l2 y2 z2
  obtain ⟨X2, hS2, hZ2, hown2⟩ := rebS hS0 (by rw [e0]; exact hk0) Xr2 hSr2 hgr2 hZ hown
  have hk2 : T2.heap.size ≤ T2.heap.size := Nat.le_refl _
  obtain ⟨rfl, Nq2, kp2, Sp2⟩ := hQ2
  have N3 := Fr.app N0 Nq2
  have CH4 := CH0.trans CR2
  have O5 := O0.keep kp2 (allS ga all0)
  have K5 := K0.trans kp2 (allS (Or.inl (List.mem_of_getElem? (i := 0) rfl)) all0)
  obtain ⟨fs, hretL, hrun, hended, hEnd⟩ := Stand.leaveW X2 hS2 hk2 (v := none) (fun _ => rfl)
  have hCf : CHr Z EL0 s.vm s.heap T2.vm T2.heap := by rw [hh]; exact CH4.trans (CHv.at X2 hZ2 (own_EW hw) CH4.1)
  refine ⟨_, _, pre0 _ ?_, hrun, hended, _, _, rfl, ?_, hCf, hEnd.1, hEnd.2.1, hEnd.2.2.1, hEnd.2.2.2.mono (by decide) (by decide)⟩
  · refine XS.aloadN X0.here hx rfl (hb hby d_jdk_42_method_3_code_0) rfl rfl ?_
    show Steps p.tables e below (s₁.setTop (mkF m 1 #[.val (.ref a), .val (.ref b)] [(.ref a)])) _
    refine XS.aloadN X0.here hx rfl (hb hby d_jdk_42_method_3_code_1) rfl rfl ?_
    show Steps p.tables e below (s₁.setTop (mkF m 2 #[.val (.ref a), .val (.ref b)] [(.ref b), (.ref a)])) _
    refine XS.iconst X0.here hx rfl (hb hby d_jdk_42_method_3_code_2) ?_
    show Steps p.tables e below (s₁.setTop (mkF m 3 #[.val (.ref a), .val (.ref b)] [(.int (0 : Int32)), (.ref b), (.ref a)])) _
    refine XS.aloadN X0.here hx rfl (hb hby d_jdk_42_method_3_code_3) rfl rfl ?_
    show Steps p.tables e below (s₁.setTop (mkF m 4 #[.val (.ref a), .val (.ref b)] [(.ref b), (.int (0 : Int32)), (.ref b), (.ref a)])) _
    refine X0.arraylength hx (by rw [e0]; exact Ar1.1) (State.isArrayOf_alike hZ.alike Ar1.2.1) (g := (mkF m 4 #[.val (.ref a), .val (.ref b)] [(.ref b), (.int (0 : Int32)), (.ref b), (.ref a)])) rfl rfl (hb hby d_jdk_42_method_3_code_4) _ ?_
    rw [len_of S1 M1]
    show Steps p.tables e below (s₁.setTop (mkF m 5 #[.val (.ref a), .val (.ref b)] [(.int (0 : Int32)), (.int (0 : Int32)), (.ref b), (.ref a)])) _
    refine XS.aconstNull X0.here hx rfl (hb hby d_jdk_42_method_3_code_5) ?_
    show Steps p.tables e below (s₁.setTop (mkF m 6 #[.val (.ref a), .val (.ref b)] [.null, (.int (0 : Int32)), (.int (0 : Int32)), (.ref b), (.ref a)])) _
    refine st2.trans ?_
    show Steps p.tables e below (T2.setTop (mkF m 9 #[.val (.ref a), .val (.ref b)] [])) _
    exact X2.returnOut hx Bd.returns (hb hby d_jdk_42_method_3_code_9) hretL
  · show Q_rme1 Z a b kb h0 n0 _ T2.heap _
    exact ⟨rfl, N3, K5, Sp2⟩
theorem d_jdk_41_method_12_code_0 : decode jdk_41_method_12_code 0 = .ok (.iload_n 0, 1) := by decide +kernel
theorem d_jdk_41_method_12_code_1 : decode jdk_41_method_12_code 1 = .ok (.ifCond .lt 13, 3) := by decide +kernel
theorem d_jdk_41_method_12_code_4 : decode jdk_41_method_12_code 4 = .ok (.iload_n 0, 1) := by decide +kernel
theorem d_jdk_41_method_12_code_5 : decode jdk_41_method_12_code 5 = .ok (.iload_n 1, 1) := by decide +kernel
theorem d_jdk_41_method_12_code_6 : decode jdk_41_method_12_code 6 = .ok (.if_icmp .gt 8, 3) := by decide +kernel
theorem d_jdk_41_method_12_code_9 : decode jdk_41_method_12_code 9 = .ok (.iload_n 1, 1) := by decide +kernel
theorem d_jdk_41_method_12_code_10 : decode jdk_41_method_12_code 10 = .ok (.iload_n 2, 1) := by decide +kernel
theorem d_jdk_41_method_12_code_11 : decode jdk_41_method_12_code 11 = .ok (.if_icmp .le 11, 3) := by decide +kernel
theorem d_jdk_41_method_12_code_22 : decode jdk_41_method_12_code 22 = .ok (.iload_n 0, 1) := by decide +kernel
theorem d_jdk_41_method_12_code_23 : decode jdk_41_method_12_code 23 = .ok (.ireturn, 1) := by decide +kernel
def Q_rmcf (Z : State) (x0 : Int32) (x1 : Int32) (x2 : Int32) (fm : Value) (h0 : Heap) (n0 : Nat) (v : Option Value) (h : Heap) (L : List Loc) : Prop := v = some (.int x0) ∧ Fr n0 L ∧ h = h0
theorem ef_rmcf (m : MethodId) (x0 : Int32) (x1 : Int32) (x2 : Int32) (fm : Value) (rf : fm.isRef = true) : entryFrame m #[(.int x0), (.int x1), (.int x2), fm] 4 = mkF m 0 #[.val (.int x0), .val (.int x1), .val (.int x2), .val fm] [] := by rcases ref_cases rf with rfl | ⟨_, rfl⟩ <;> first | (simp [entryFrame, mkF, argsToLocals, Value.category]; done) | rfl
set_option maxRecDepth 65536 in
set_option maxHeartbeats 40000000 in
theorem rmcf (l : Launch) (Z : State) (a0 : Array Value) (hw : ∀ d ∈ tables_1, d.before a0 Z = true) (ws : List Jvm.Cond) (x0 : Int32) (x1 : Int32) (x2 : Int32) (fm : Value) (h0 : Heap) (n0 : Nat) (O0 : Old Z n0 h0) (hb1 : ¬ x0 < (0 : Int32)) (hb2 : ¬ x1 < x0) (hb3 : ¬ x2 < x1) (rf : fm.isRef = true) :
    MetFree l (⟨"jdk/internal/util/Preconditions", "checkFromToIndex", "(IIILjava/util/function/BiFunction;)I"⟩ : MethodName) (head1 (Jvm.Cond.code (⟨"jdk/internal/util/Preconditions", "checkFromToIndex", "(IIILjava/util/function/BiFunction;)I"⟩ : MethodName) jdk_41_method_12_code 4 (some .int) :: ws) ({ frames := 0, cells := 0, slots := 0, locals := 0 } : Room)) (fun aa U => aa = #[(.int x0), (.int x1), (.int x2), fm] ∧ Z.Warmed39 U.vm ∧ U.heap = h0) (fun _ _ _ _ _ => True) (fun _ U o U' => ∃ v L, o = .returned v ∧ Q_rmcf Z x0 x1 x2 fm h0 n0 v U'.heap L ∧ FrameEnd U o U' L ({ frames := 0, cells := 0, slots := 0, locals := 0 } : Room).cells ({ frames := 0, cells := 0, slots := 0, locals := 0 } : Room).slots) := by
  refine MetFree.of_bodySF (plainFor_of_name pn1) hisR ?_
  intro p e s m args below meth c s₁ Bd hml0 hP hK
  obtain ⟨rfl, hZ, hh⟩ := hP
  have hx := Bd.exec
  have hby := Bd.bytes
  have hml : c.maxLocals = 4 := hml0
  have hown : s.vm.findClass "jdk/internal/util/Preconditions" = some m.cls := findClass_of_methodNamed Bd.named
  have hnm := (name_of_methodNamed Bd.named Bd.method).1
  have X0 : Stand p l e ({ frames := 0, cells := 0, slots := 0, locals := 0 } : Room) s m #[(.int x0), (.int x1), (.int x2), fm] below meth c s₁ [] 0 0 := Stand.of_body Bd
  have e0 : s₁.heap = h0 := by rw [← hh, Bd.state]; rfl
  have N0 := Fr.nil n0
  have K0 : Keep h0 h0 [] := Keep.refl _ _
  have pre0 : ∀ tgt, Steps p.tables e below (s₁.setTop (mkF m 0 #[.val (.int x0), .val (.int x1), .val (.int x2), .val fm] [])) tgt → Steps p.tables e below (s₁.setTop (entryFrame m #[(.int x0), (.int x1), (.int x2), fm] 4)) tgt := fun tgt kgo => castTop (ef_rmcf m x0 x1 x2 fm rf) kgo
  obtain ⟨fs, hretL, hrun, hended, hW, hsame⟩ := X0.leave (v := some (.int x0)) (fun h => by rw [Bd.returns] at h; cases h)
  refine ⟨_, _, pre0 _ ?_, hrun, hended, _, _, rfl, ?_, ⟨_, rfl⟩, hW, hsame.mono (by decide) (by decide)⟩
  · refine XS.iloadN X0.here hx rfl (hb hby d_jdk_41_method_12_code_0) rfl ?_
    show Steps p.tables e below (s₁.setTop (mkF m 1 #[.val (.int x0), .val (.int x1), .val (.int x2), .val fm] [(.int x0)])) _
    refine XS.ifNo X0.here hx rfl (hb hby d_jdk_41_method_12_code_1) rfl ((if0 _ _).trans (flt hb1).1) ?_
    show Steps p.tables e below (s₁.setTop (mkF m 4 #[.val (.int x0), .val (.int x1), .val (.int x2), .val fm] [])) _
    refine XS.iloadN X0.here hx rfl (hb hby d_jdk_41_method_12_code_4) rfl ?_
    show Steps p.tables e below (s₁.setTop (mkF m 5 #[.val (.int x0), .val (.int x1), .val (.int x2), .val fm] [(.int x0)])) _
    refine XS.iloadN X0.here hx rfl (hb hby d_jdk_41_method_12_code_5) rfl ?_
    show Steps p.tables e below (s₁.setTop (mkF m 6 #[.val (.int x0), .val (.int x1), .val (.int x2), .val fm] [(.int x1), (.int x0)])) _
    refine XS.icmpNo X0.here hx rfl (hb hby d_jdk_41_method_12_code_6) rfl (flt hb2).2.2.1 ?_
    show Steps p.tables e below (s₁.setTop (mkF m 9 #[.val (.int x0), .val (.int x1), .val (.int x2), .val fm] [])) _
    refine XS.iloadN X0.here hx rfl (hb hby d_jdk_41_method_12_code_9) rfl ?_
    show Steps p.tables e below (s₁.setTop (mkF m 10 #[.val (.int x0), .val (.int x1), .val (.int x2), .val fm] [(.int x1)])) _
    refine XS.iloadN X0.here hx rfl (hb hby d_jdk_41_method_12_code_10) rfl ?_
    show Steps p.tables e below (s₁.setTop (mkF m 11 #[.val (.int x0), .val (.int x1), .val (.int x2), .val fm] [(.int x2), (.int x1)])) _
    refine XS.icmpYes X0.here hx rfl (pc0 := 11) (pc' := 22) rfl (hb hby d_jdk_41_method_12_code_11) rfl (flt hb3).2.2.2 (by decide) (by decide) ?_
    show Steps p.tables e below (s₁.setTop (mkF m 22 #[.val (.int x0), .val (.int x1), .val (.int x2), .val fm] [])) _
    refine XS.iloadN X0.here hx rfl (hb hby d_jdk_41_method_12_code_22) rfl ?_
    show Steps p.tables e below (s₁.setTop (mkF m 23 #[.val (.int x0), .val (.int x1), .val (.int x2), .val fm] [(.int x0)])) _
    exact retOut X0 hx Bd.returns rfl (Or.inl ⟨rfl, Or.inl rfl, _, rfl⟩) (hb hby d_jdk_41_method_12_code_23) hretL
  · show Q_rmcf Z x0 x1 x2 fm h0 n0 _ s₁.heap _
    rw [e0]
    exact ⟨rfl, N0, rfl⟩
theorem d_jdk_42_method_158_code_0 : decode jdk_42_method_158_code 0 = .ok (.iload_n 0, 1) := by decide +kernel
theorem d_jdk_42_method_158_code_1 : decode jdk_42_method_158_code 1 = .ok (.iload_n 1, 1) := by decide +kernel
theorem d_jdk_42_method_158_code_2 : decode jdk_42_method_158_code 2 = .ok (.iload_n 2, 1) := by decide +kernel
theorem d_jdk_42_method_158_code_3 : decode jdk_42_method_158_code 3 = .ok (.getstatic 1053, 3) := by decide +kernel
theorem d_jdk_42_method_158_code_6 : decode jdk_42_method_158_code 6 = .ok (.invokestatic 1062, 3) := by decide +kernel
theorem d_jdk_42_method_158_code_9 : decode jdk_42_method_158_code 9 = .ok (.pop, 1) := by decide +kernel
theorem d_jdk_42_method_158_code_10 : decode jdk_42_method_158_code 10 = .ok (.return_, 1) := by decide +kernel
def Q_rmcb (Z : State) (x0 : Int32) (x1 : Int32) (x2 : Int32) (G1 : Int32) (fm : Value) (h0 : Heap) (n0 : Nat) (v : Option Value) (h : Heap) (L : List Loc) : Prop := v = none ∧ Fr n0 L ∧ h = h0
theorem ef_rmcb (m : MethodId) (x0 : Int32) (x1 : Int32) (x2 : Int32) : entryFrame m #[(.int x0), (.int x1), (.int x2)] 3 = mkF m 0 #[.val (.int x0), .val (.int x1), .val (.int x2)] [] := by first | (simp [entryFrame, mkF, argsToLocals, Value.category]; done) | rfl
set_option maxRecDepth 65536 in
set_option maxHeartbeats 40000000 in
theorem rmcb (l : Launch) (Z : State) (a0 : Array Value) (hw : ∀ d ∈ tables_1, d.before a0 Z = true) (ws : List Jvm.Cond) (x0 : Int32) (x1 : Int32) (x2 : Int32) (G1 : Int32) (fm : Value) (h0 : Heap) (n0 : Nat) (O0 : Old Z n0 h0) (O2 : Sta Z Z.heap "java/lang/String" "COMPACT_STRINGS" "Z" (.int G1)) (P5 : ¬ (G1 = (0 : Int32))) (O4 : Sta Z Z.heap "jdk/internal/util/Preconditions" "SIOOBE_FORMATTER" "Ljava/util/function/BiFunction;" fm) (rf : fm.isRef = true) (hb1 : ¬ x0 < (0 : Int32)) (hb2 : ¬ x1 < x0) (hb3 : ¬ x2 < x1) :
    MetFree l (⟨"java/lang/String", "checkBoundsBeginEnd", "(III)V"⟩ : MethodName) (head1 (Jvm.Cond.code (⟨"java/lang/String", "checkBoundsBeginEnd", "(III)V"⟩ : MethodName) jdk_42_method_158_code 3 none :: ws) ({ frames := 1, cells := 0, slots := 0, locals := 15 } : Room)) (fun aa U => aa = #[(.int x0), (.int x1), (.int x2)] ∧ Z.Warmed39 U.vm ∧ U.heap = h0) (fun _ _ _ _ _ => True) (fun _ U o U' => ∃ v L, o = .returned v ∧ Q_rmcb Z x0 x1 x2 G1 fm h0 n0 v U'.heap L ∧ FrameEnd U o U' L ({ frames := 1, cells := 0, slots := 0, locals := 15 } : Room).cells ({ frames := 1, cells := 0, slots := 0, locals := 15 } : Room).slots) := by
  refine MetFree.of_bodySF (plainFor_of_name pn0) hisR ?_
  intro p e s m args below meth c s₁ Bd hml0 hP hK
  obtain ⟨rfl, hZ, hh⟩ := hP
  have hx := Bd.exec
  have hby := Bd.bytes
  have hml : c.maxLocals = 3 := hml0
  have hown : s.vm.findClass "java/lang/String" = some m.cls := findClass_of_methodNamed Bd.named
  have hnm := (name_of_methodNamed Bd.named Bd.method).1
  have X0 : Stand p l e ({ frames := 1, cells := 0, slots := 0, locals := 15 } : Room) s m #[(.int x0), (.int x1), (.int x2)] below meth c s₁ [] 0 0 := Stand.of_body Bd
  have e0 : s₁.heap = h0 := by rw [← hh, Bd.state]; rfl
  have N0 := Fr.nil n0
  have K0 : Keep h0 h0 [] := Keep.refl _ _
  have pre0 : ∀ tgt, Steps p.tables e below (s₁.setTop (mkF m 0 #[.val (.int x0), .val (.int x1), .val (.int x2)] [])) tgt → Steps p.tables e below (s₁.setTop (entryFrame m #[(.int x0), (.int x1), (.int x2)] 3)) tgt := fun tgt kgo => castTop (ef_rmcb m x0 x1 x2) kgo
  obtain ⟨T1, X1, e1, st1⟩ := getS2 X0 hx hZ hown (host := "") (Or.inl (ow54 hw)) Via.refl e0 (O4.ext O0.2) (g := (mkF m 3 #[.val (.int x0), .val (.int x1), .val (.int x2)] [(.int x2), (.int x1), (.int x0)])) rfl (hb hby d_jdk_42_method_158_code_3)
  obtain ⟨_, _, ⟨T2, L2, k2, n2⟩, -, X2, ⟨Lc2, hQ2, l2, y2, z2⟩, st2⟩ := Jvm.LawKit.callS X1 hx (y := (⟨"jdk/internal/util/Preconditions", "checkFromToIndex", "(IIILjava/util/function/BiFunction;)I"⟩ : MethodName)) hown (mvT hZ (ow56 hw)) (mvT hZ (ow57 hw)) (mvT hZ (ow55 hw)) (mvT hZ (ow58 hw)) (by decide) (backOf (W := 0) (rmcf l Z a0 hw [] x0 x1 x2 fm  h0 n0 O0 hb1 hb2 hb3 rf) hZ (ow58 hw) (ow55 hw) (by decide) (by decide)) (g := (mkF m 6 #[.val (.int x0), .val (.int x1), .val (.int x2)] [fm, (.int x2), (.int x1), (.int x0)])) rfl (by rw [hml]; rfl) (argsL := [(.int x0), (.int x1), (.int x2), fm]) (rest := []) (lenOf pd1 rfl) rfl (by show 2 * 0 + _ ≤ _; exact Nat.le_of_eq rfl) (hb hby d_jdk_42_method_158_code_6) (fun _ _ => ⟨rfl, e1, (by decide : 0 + 0 ≤ _), (by decide : 0 + 0 ≤ _)⟩)
  dsimp only [Pt.U, Pt.locs, Pt.cells, Pt.slots] at X2 l2 y2 z2 st2 hQ2
  subst l2 y2 z2
  obtain ⟨rfl, Nq2, eq2⟩ := hQ2
  have N3 := Fr.app N0 Nq2
  obtain ⟨fs, hretL, hrun, hended, hW, hsame⟩ := X2.leave (v := none) (fun _ => rfl)
  refine ⟨_, _, pre0 _ ?_, hrun, hended, _, _, rfl, ?_, ⟨_, rfl⟩, hW, hsame.mono (by decide) (by decide)⟩
  · refine XS.iloadN X0.here hx rfl (hb hby d_jdk_42_method_158_code_0) rfl ?_
    show Steps p.tables e below (s₁.setTop (mkF m 1 #[.val (.int x0), .val (.int x1), .val (.int x2)] [(.int x0)])) _
    refine XS.iloadN X0.here hx rfl (hb hby d_jdk_42_method_158_code_1) rfl ?_
    show Steps p.tables e below (s₁.setTop (mkF m 2 #[.val (.int x0), .val (.int x1), .val (.int x2)] [(.int x1), (.int x0)])) _
    refine XS.iloadN X0.here hx rfl (hb hby d_jdk_42_method_158_code_2) rfl ?_
    show Steps p.tables e below (s₁.setTop (mkF m 3 #[.val (.int x0), .val (.int x1), .val (.int x2)] [(.int x2), (.int x1), (.int x0)])) _
    refine st1 _ ?_
    show Steps p.tables e below (T1.setTop (mkF m 6 #[.val (.int x0), .val (.int x1), .val (.int x2)] [fm, (.int x2), (.int x1), (.int x0)])) _
    refine st2 _ ?_
    show Steps p.tables e below (T2.setTop (mkF m 9 #[.val (.int x0), .val (.int x1), .val (.int x2)] [(.int x0)])) _
    refine XS.pop X2.here hx rfl (hb hby d_jdk_42_method_158_code_9) rfl rfl ?_
    show Steps p.tables e below (T2.setTop (mkF m 10 #[.val (.int x0), .val (.int x1), .val (.int x2)] [])) _
    exact X2.returnOut hx Bd.returns (hb hby d_jdk_42_method_158_code_10) hretL
  · show Q_rmcb Z x0 x1 x2 G1 fm h0 n0 _ T2.heap _
    rw [eq2]
    exact ⟨rfl, N3, rfl⟩
theorem d_jdk_42_method_154_code_0 : decode jdk_42_method_154_code 0 = .ok (.getstatic 38, 3) := by decide +kernel
theorem d_jdk_42_method_154_code_3 : decode jdk_42_method_154_code 3 = .ok (.ifCond .eq 14, 3) := by decide +kernel
theorem d_jdk_42_method_154_code_6 : decode jdk_42_method_154_code 6 = .ok (.aload_n 0, 1) := by decide +kernel
theorem d_jdk_42_method_154_code_7 : decode jdk_42_method_154_code 7 = .ok (.getfield 15, 3) := by decide +kernel
theorem d_jdk_42_method_154_code_10 : decode jdk_42_method_154_code 10 = .ok (.ifCond .ne 7, 3) := by decide +kernel
theorem d_jdk_42_method_154_code_13 : decode jdk_42_method_154_code 13 = .ok (.iconst 1, 1) := by decide +kernel
theorem d_jdk_42_method_154_code_14 : decode jdk_42_method_154_code 14 = .ok (.goto 4, 3) := by decide +kernel
theorem d_jdk_42_method_154_code_18 : decode jdk_42_method_154_code 18 = .ok (.ireturn, 1) := by decide +kernel
def Q_rmil (Z : State) (a : Addr) (G1 : Int32) (h0 : Heap) (n0 : Nat) (v : Option Value) (h : Heap) (L : List Loc) : Prop := v = some (.int (1 : Int32)) ∧ Fr n0 L ∧ h = h0
theorem ef_rmil (m : MethodId) (a : Addr) : entryFrame m #[(.ref a)] 1 = mkF m 0 #[.val (.ref a)] [] := by first | (simp [entryFrame, mkF, argsToLocals, Value.category]; done) | rfl
set_option maxRecDepth 65536 in
set_option maxHeartbeats 40000000 in
theorem rmil (l : Launch) (Z : State) (a0 : Array Value) (hw : ∀ d ∈ tables_1, d.before a0 Z = true) (ws : List Jvm.Cond) (a : Addr) (G1 : Int32) (h0 : Heap) (n0 : Nat) (O0 : Old Z n0 h0) (O2 : Sta Z Z.heap "java/lang/String" "COMPACT_STRINGS" "Z" (.int G1)) (P5 : ¬ (G1 = (0 : Int32))) (Fc : Fld Z h0 a "java/lang/String" "coder" "B" (.int (0 : Int32))) :
    MetFree l (⟨"java/lang/String", "isLatin1", "()Z"⟩ : MethodName) (head1 (Jvm.Cond.code (⟨"java/lang/String", "isLatin1", "()Z"⟩ : MethodName) jdk_42_method_154_code 1 (some .boolean) :: ws) ({ frames := 0, cells := 0, slots := 0, locals := 0 } : Room)) (fun aa U => aa = #[(.ref a)] ∧ Z.Warmed39 U.vm ∧ U.heap = h0) (fun _ _ _ _ _ => True) (fun _ U o U' => ∃ v L, o = .returned v ∧ Q_rmil Z a G1 h0 n0 v U'.heap L ∧ FrameEnd U o U' L ({ frames := 0, cells := 0, slots := 0, locals := 0 } : Room).cells ({ frames := 0, cells := 0, slots := 0, locals := 0 } : Room).slots) := by
  refine MetFree.of_bodySF (plainFor_of_name pn0) hisR ?_
  intro p e s m args below meth c s₁ Bd hml0 hP hK
  obtain ⟨rfl, hZ, hh⟩ := hP
  have hx := Bd.exec
  have hby := Bd.bytes
  have hml : c.maxLocals = 1 := hml0
  have hown : s.vm.findClass "java/lang/String" = some m.cls := findClass_of_methodNamed Bd.named
  have hnm := (name_of_methodNamed Bd.named Bd.method).1
  have X0 : Stand p l e ({ frames := 0, cells := 0, slots := 0, locals := 0 } : Room) s m #[(.ref a)] below meth c s₁ [] 0 0 := Stand.of_body Bd
  have e0 : s₁.heap = h0 := by rw [← hh, Bd.state]; rfl
  have N0 := Fr.nil n0
  have K0 : Keep h0 h0 [] := Keep.refl _ _
  have pre0 : ∀ tgt, Steps p.tables e below (s₁.setTop (mkF m 0 #[.val (.ref a)] [])) tgt → Steps p.tables e below (s₁.setTop (entryFrame m #[(.ref a)] 1)) tgt := fun tgt kgo => castTop (ef_rmil m a) kgo
  obtain ⟨T1, X1, e1, st1⟩ := getS2 X0 hx hZ hown (host := "") (Or.inl (ow44 hw)) Via.refl e0 (O2.ext O0.2) (g := (mkF m 0 #[.val (.ref a)] [])) rfl (hb hby d_jdk_42_method_154_code_0)
  obtain ⟨T2, X2, e2, st2⟩ := getF X1 hx hZ hown (host := "") (Or.inl (ow29 hw)) Via.refl e1 Fc (g := (mkF m 7 #[.val (.ref a)] [(.ref a)])) rfl rfl (hb hby d_jdk_42_method_154_code_7)
  obtain ⟨fs, hretL, hrun, hended, hW, hsame⟩ := X2.leave (v := some (.int (1 : Int32))) (fun h => by rw [Bd.returns] at h; cases h)
  refine ⟨_, _, pre0 _ ?_, hrun, hended, _, _, rfl, ?_, ⟨_, rfl⟩, hW, hsame.mono (by decide) (by decide)⟩
  · refine st1 _ ?_
    show Steps p.tables e below (T1.setTop (mkF m 3 #[.val (.ref a)] [(.int G1)])) _
    refine XS.ifNo X1.here hx rfl (hb hby d_jdk_42_method_154_code_3) rfl ((if0 _ _).trans (feq P5).1) ?_
    show Steps p.tables e below (T1.setTop (mkF m 6 #[.val (.ref a)] [])) _
    refine XS.aloadN X1.here hx rfl (hb hby d_jdk_42_method_154_code_6) rfl rfl ?_
    show Steps p.tables e below (T1.setTop (mkF m 7 #[.val (.ref a)] [(.ref a)])) _
    refine st2 _ ?_
    show Steps p.tables e below (T2.setTop (mkF m 10 #[.val (.ref a)] [(.int (0 : Int32))])) _
    refine XS.ifNo X2.here hx rfl (hb hby d_jdk_42_method_154_code_10) rfl ((if0 _ _).trans (teq (by decide : (0 : Int32) = (0 : Int32))).2) ?_
    show Steps p.tables e below (T2.setTop (mkF m 13 #[.val (.ref a)] [])) _
    refine XS.iconst X2.here hx rfl (hb hby d_jdk_42_method_154_code_13) ?_
    show Steps p.tables e below (T2.setTop (mkF m 14 #[.val (.ref a)] [(.int (1 : Int32))])) _
    refine XS.goto X2.here hx rfl (pc0 := 14) (pc' := 18) rfl (hb hby d_jdk_42_method_154_code_14) (by decide) (by decide) ?_
    show Steps p.tables e below (T2.setTop (mkF m 18 #[.val (.ref a)] [(.int (1 : Int32))])) _
    exact retOut X2 hx Bd.returns rfl (Or.inl ⟨rfl, Or.inr (Or.inl rfl), _, rfl⟩) (hb hby d_jdk_42_method_154_code_18) hretL
  · show Q_rmil Z a G1 h0 n0 _ T2.heap _
    rw [e2]
    exact ⟨rfl, N0, rfl⟩
theorem d_jdk_65_method_131_code_0 : decode jdk_65_method_131_code 0 = .ok (.iload_n 1, 1) := by decide +kernel
theorem d_jdk_65_method_131_code_1 : decode jdk_65_method_131_code 1 = .ok (.iload_n 0, 1) := by decide +kernel
theorem d_jdk_65_method_131_code_2 : decode jdk_65_method_131_code 2 = .ok (.if_icmp .ge 35, 3) := by decide +kernel
theorem d_jdk_65_method_131_code_37 : decode jdk_65_method_131_code 37 = .ok (.return_, 1) := by decide +kernel
def Q_rmcl (Z : State) (x0 : Int32) (x1 : Int32) (h0 : Heap) (n0 : Nat) (v : Option Value) (h : Heap) (L : List Loc) : Prop := v = none ∧ Fr n0 L ∧ h = h0
theorem ef_rmcl (m : MethodId) (x0 : Int32) (x1 : Int32) : entryFrame m #[(.int x0), (.int x1)] 2 = mkF m 0 #[.val (.int x0), .val (.int x1)] [] := by first | (simp [entryFrame, mkF, argsToLocals, Value.category]; done) | rfl
set_option maxRecDepth 65536 in
set_option maxHeartbeats 40000000 in
theorem rmcl (l : Launch) (Z : State) (a0 : Array Value) (hw : ∀ d ∈ tables_1, d.before a0 Z = true) (ws : List Jvm.Cond) (x0 : Int32) (x1 : Int32) (h0 : Heap) (n0 : Nat) (O0 : Old Z n0 h0) (hq : ¬ x1 < x0) :
    MetFree l (⟨"java/util/Arrays", "checkLength", "(II)V"⟩ : MethodName) (head1 (Jvm.Cond.code (⟨"java/util/Arrays", "checkLength", "(II)V"⟩ : MethodName) jdk_65_method_131_code 2 none :: ws) ({ frames := 0, cells := 0, slots := 0, locals := 0 } : Room)) (fun aa U => aa = #[(.int x0), (.int x1)] ∧ Z.Warmed39 U.vm ∧ U.heap = h0) (fun _ _ _ _ _ => True) (fun _ U o U' => ∃ v L, o = .returned v ∧ Q_rmcl Z x0 x1 h0 n0 v U'.heap L ∧ FrameEnd U o U' L ({ frames := 0, cells := 0, slots := 0, locals := 0 } : Room).cells ({ frames := 0, cells := 0, slots := 0, locals := 0 } : Room).slots) := by
  refine MetFree.of_bodySF (plainFor_of_name pn2) hisR ?_
  intro p e s m args below meth c s₁ Bd hml0 hP hK
  obtain ⟨rfl, hZ, hh⟩ := hP
  have hx := Bd.exec
  have hby := Bd.bytes
  have hml : c.maxLocals = 2 := hml0
  have hown : s.vm.findClass "java/util/Arrays" = some m.cls := findClass_of_methodNamed Bd.named
  have hnm := (name_of_methodNamed Bd.named Bd.method).1
  have X0 : Stand p l e ({ frames := 0, cells := 0, slots := 0, locals := 0 } : Room) s m #[(.int x0), (.int x1)] below meth c s₁ [] 0 0 := Stand.of_body Bd
  have e0 : s₁.heap = h0 := by rw [← hh, Bd.state]; rfl
  have N0 := Fr.nil n0
  have K0 : Keep h0 h0 [] := Keep.refl _ _
  have pre0 : ∀ tgt, Steps p.tables e below (s₁.setTop (mkF m 0 #[.val (.int x0), .val (.int x1)] [])) tgt → Steps p.tables e below (s₁.setTop (entryFrame m #[(.int x0), (.int x1)] 2)) tgt := fun tgt kgo => castTop (ef_rmcl m x0 x1) kgo
  obtain ⟨fs, hretL, hrun, hended, hW, hsame⟩ := X0.leave (v := none) (fun _ => rfl)
  refine ⟨_, _, pre0 _ ?_, hrun, hended, _, _, rfl, ?_, ⟨_, rfl⟩, hW, hsame.mono (by decide) (by decide)⟩
  · refine XS.iloadN X0.here hx rfl (hb hby d_jdk_65_method_131_code_0) rfl ?_
    show Steps p.tables e below (s₁.setTop (mkF m 1 #[.val (.int x0), .val (.int x1)] [(.int x1)])) _
    refine XS.iloadN X0.here hx rfl (hb hby d_jdk_65_method_131_code_1) rfl ?_
    show Steps p.tables e below (s₁.setTop (mkF m 2 #[.val (.int x0), .val (.int x1)] [(.int x0), (.int x1)])) _
    refine XS.icmpYes X0.here hx rfl (pc0 := 2) (pc' := 37) rfl (hb hby d_jdk_65_method_131_code_2) rfl (flt hq).2.1 (by decide) (by decide) ?_
    show Steps p.tables e below (s₁.setTop (mkF m 37 #[.val (.int x0), .val (.int x1)] [])) _
    exact X0.returnOut hx Bd.returns (hb hby d_jdk_65_method_131_code_37) hretL
  · show Q_rmcl Z x0 x1 h0 n0 _ s₁.heap _
    rw [e0]
    exact ⟨rfl, N0, rfl⟩
def bl (x : Int32) : Int32 := if x = 32 then 1 else if x = 9 then 1 else 0
def pkc (x : Int32) : Int32 := if (x &&& (3 : Int32)) = (0 : Int32) then 32 else if (x &&& (3 : Int32)) = (1 : Int32) then 9 else (((((x.toUInt32 >>> ((2 : Int32) &&& 31).toUInt32).toInt32) &&& (255 : Int32)).toUInt32.toUInt16.toUInt32).toInt32)
theorem own_nnc (x : Int32) : (nar .char ((x &&& (255 : Int32)).toUInt32.toUInt16.toUInt32.toInt32)) = ((x &&& (255 : Int32)).toUInt32.toUInt16.toUInt32.toInt32) := by
  have t : ∀ k : Fin 256, nar .char ((Int32.ofNat k.val).toUInt32.toUInt16.toUInt32.toInt32) = ((Int32.ofNat k.val).toUInt32.toUInt16.toUInt32.toInt32) := by decide +kernel
  have h : (x &&& 255).toBitVec.toNat < 256 := by
    simp only [Int32.toBitVec_and, BitVec.toNat_and]
    exact Nat.lt_succ_of_le Nat.and_le_right
  have e : (x &&& 255) = Int32.ofNat (x &&& 255).toBitVec.toNat := by
    apply Int32.toBitVec_inj.mp
    show _ = BitVec.ofNat 32 _
    rw [BitVec.ofNat_toNat]; simp
  rw [e]
  exact t ⟨_, h⟩
theorem own_nrc (x : Int32) : narrow .char (.int ((x &&& (255 : Int32)).toUInt32.toUInt16.toUInt32.toInt32)) = .int ((x &&& (255 : Int32)).toUInt32.toUInt16.toUInt32.toInt32) := congrArg Value.int (own_nnc x)
theorem own_dc (x : Int32) : ¬ nar .char (pkc x) < 0 ∧ ¬ (255 : Int32) < nar .char (pkc x) := by
  unfold pkc
  split
  · decide
  · split
    · decide
    · exact and255_chars _
theorem own_nc {x : Int32} (h : ¬ x < 0 ∧ ¬ (255 : Int32) < x) : nar .char x = x := by
  obtain ⟨h1, h2⟩ := h
  have t : ∀ k : Fin 256, nar .char (Int32.ofNat k.val) = Int32.ofNat k.val := by decide +kernel
  rw [Int32.lt_iff_toInt_lt] at h1 h2
  have e1 : (0 : Int32).toInt = 0 := rfl
  have e2 : (255 : Int32).toInt = 255 := rfl
  have e : x = Int32.ofNat x.toInt.toNat := Int32.toInt_inj.mp (by rw [Int32.toInt_ofNat_small (by omega)]; omega)
  rw [e]
  exact t ⟨x.toInt.toNat, by omega⟩
theorem d_method_4_code_0 : decode method_4_code 0 = .ok (.iload_n 0, 1) := by decide +kernel
theorem d_method_4_code_1 : decode method_4_code 1 = .ok (.iconst 3, 1) := by decide +kernel
theorem d_method_4_code_2 : decode method_4_code 2 = .ok (.iand, 1) := by decide +kernel
theorem d_method_4_code_3 : decode method_4_code 3 = .ok (.istore_n 1, 1) := by decide +kernel
theorem d_method_4_code_4 : decode method_4_code 4 = .ok (.iload_n 1, 1) := by decide +kernel
theorem d_method_4_code_5 : decode method_4_code 5 = .ok (.ifCond .ne 6, 3) := by decide +kernel
theorem d_method_4_code_8 : decode method_4_code 8 = .ok (.bipush 32, 2) := by decide +kernel
theorem d_method_4_code_10 : decode method_4_code 10 = .ok (.ireturn, 1) := by decide +kernel
theorem d_method_4_code_11 : decode method_4_code 11 = .ok (.iload_n 1, 1) := by decide +kernel
theorem d_method_4_code_12 : decode method_4_code 12 = .ok (.iconst 1, 1) := by decide +kernel
theorem d_method_4_code_13 : decode method_4_code 13 = .ok (.if_icmp .ne 6, 3) := by decide +kernel
theorem d_method_4_code_16 : decode method_4_code 16 = .ok (.bipush 9, 2) := by decide +kernel
theorem d_method_4_code_18 : decode method_4_code 18 = .ok (.ireturn, 1) := by decide +kernel
theorem d_method_4_code_19 : decode method_4_code 19 = .ok (.iload_n 0, 1) := by decide +kernel
theorem d_method_4_code_20 : decode method_4_code 20 = .ok (.iconst 2, 1) := by decide +kernel
theorem d_method_4_code_21 : decode method_4_code 21 = .ok (.iushr, 1) := by decide +kernel
theorem d_method_4_code_22 : decode method_4_code 22 = .ok (.sipush 255, 3) := by decide +kernel
theorem d_method_4_code_25 : decode method_4_code 25 = .ok (.iand, 1) := by decide +kernel
theorem d_method_4_code_26 : decode method_4_code 26 = .ok (.i2c, 1) := by decide +kernel
theorem d_method_4_code_27 : decode method_4_code 27 = .ok (.ireturn, 1) := by decide +kernel
def Q_rmpick (Z : State) (x0 : Int32) (h0 : Heap) (n0 : Nat) (v : Option Value) (h : Heap) (L : List Loc) : Prop := v = some (.int (pkc x0)) ∧ Fr n0 L ∧ h = h0
theorem ef_rmpick (m : MethodId) (x0 : Int32) : entryFrame m #[(.int x0)] 2 = mkF m 0 #[.val (.int x0), .unset] [] := by first | (simp [entryFrame, mkF, argsToLocals, Value.category]; done) | rfl
set_option maxRecDepth 65536 in
set_option maxHeartbeats 40000000 in
theorem rmpick (l : Launch) (Z : State) (a0 : Array Value) (hw : ∀ d ∈ tables_1, d.before a0 Z = true) (ws : List Jvm.Cond) (x0 : Int32) (h0 : Heap) (n0 : Nat) (O0 : Old Z n0 h0) :
    MetFree l (⟨"com/example/redress/redress/definition/StatementStripBlanksPinLaw", "pick", "(I)C"⟩ : MethodName) (head1 (Jvm.Cond.code (⟨"com/example/redress/redress/definition/StatementStripBlanksPinLaw", "pick", "(I)C"⟩ : MethodName) method_4_code 2 (some .char) :: ws) ({ frames := 0, cells := 0, slots := 0, locals := 0 } : Room)) (fun aa U => aa = #[(.int x0)] ∧ Z.Warmed39 U.vm ∧ U.heap = h0) (fun _ _ _ _ _ => True) (fun _ U o U' => ∃ v L, o = .returned v ∧ Q_rmpick Z x0 h0 n0 v U'.heap L ∧ FrameEnd U o U' L ({ frames := 0, cells := 0, slots := 0, locals := 0 } : Room).cells ({ frames := 0, cells := 0, slots := 0, locals := 0 } : Room).slots) := by
  refine MetFree.of_bodySF (plainFor_of_name pn3) hisR ?_
  intro p e s m args below meth c s₁ Bd hml0 hP hK
  obtain ⟨rfl, hZ, hh⟩ := hP
  have hx := Bd.exec
  have hby := Bd.bytes
  have hml : c.maxLocals = 2 := hml0
  have hown : s.vm.findClass "com/example/redress/redress/definition/StatementStripBlanksPinLaw" = some m.cls := findClass_of_methodNamed Bd.named
  have hnm := (name_of_methodNamed Bd.named Bd.method).1
  have X0 : Stand p l e ({ frames := 0, cells := 0, slots := 0, locals := 0 } : Room) s m #[(.int x0)] below meth c s₁ [] 0 0 := Stand.of_body Bd
  have e0 : s₁.heap = h0 := by rw [← hh, Bd.state]; rfl
  have N0 := Fr.nil n0
  have K0 : Keep h0 h0 [] := Keep.refl _ _
  have pre0 : ∀ tgt, Steps p.tables e below (s₁.setTop (mkF m 0 #[.val (.int x0), .unset] [])) tgt → Steps p.tables e below (s₁.setTop (entryFrame m #[(.int x0)] 2)) tgt := fun tgt kgo => castTop (ef_rmpick m x0) kgo
  have pre1 : ∀ tgt, Steps p.tables e below (s₁.setTop (mkF m 5 #[.val (.int x0), .val (.int (x0 &&& (3 : Int32)))] [(.int (x0 &&& (3 : Int32)))])) tgt → Steps p.tables e below (s₁.setTop (entryFrame m #[(.int x0)] 2)) tgt := by
    intro tgt kgo
    refine pre0 _ ?_
    refine XS.iloadN X0.here hx rfl (hb hby d_method_4_code_0) rfl ?_
    show Steps p.tables e below (s₁.setTop (mkF m 1 #[.val (.int x0), .unset] [(.int x0)])) _
    refine XS.iconst X0.here hx rfl (hb hby d_method_4_code_1) ?_
    show Steps p.tables e below (s₁.setTop (mkF m 2 #[.val (.int x0), .unset] [(.int (3 : Int32)), (.int x0)])) _
    refine XS.iand X0.here hx rfl (hb hby d_method_4_code_2) rfl ?_
    show Steps p.tables e below (s₁.setTop (mkF m 3 #[.val (.int x0), .unset] [(.int (x0 &&& (3 : Int32)))])) _
    refine XS.istoreN X0.here hx rfl (hb hby d_method_4_code_3) rfl (l' := #[.val (.int x0), .val (.int (x0 &&& (3 : Int32)))]) rfl ?_
    show Steps p.tables e below (s₁.setTop (mkF m 4 #[.val (.int x0), .val (.int (x0 &&& (3 : Int32)))] [])) _
    refine XS.iloadN X0.here hx rfl (hb hby d_method_4_code_4) rfl ?_
    show Steps p.tables e below (s₁.setTop (mkF m 5 #[.val (.int x0), .val (.int (x0 &&& (3 : Int32)))] [(.int (x0 &&& (3 : Int32)))])) _
    exact kgo
  by_cases hc5_2 : (x0 &&& (3 : Int32)) = (0 : Int32)
  · obtain ⟨fs, hretL, hrun, hended, hW, hsame⟩ := X0.leave (v := some (.int (32 : Int32))) (fun h => by rw [Bd.returns] at h; cases h)
    refine ⟨_, _, pre1 _ ?_, hrun, hended, _, _, rfl, ?_, ⟨_, rfl⟩, hW, hsame.mono (by decide) (by decide)⟩
    · refine XS.ifNo X0.here hx rfl (hb hby d_method_4_code_5) rfl ((if0 _ _).trans (teq hc5_2).2) ?_
      show Steps p.tables e below (s₁.setTop (mkF m 8 #[.val (.int x0), .val (.int (x0 &&& (3 : Int32)))] [])) _
      refine XS.bipush X0.here hx rfl (hb hby d_method_4_code_8) ?_
      show Steps p.tables e below (s₁.setTop (mkF m 10 #[.val (.int x0), .val (.int (x0 &&& (3 : Int32)))] [(.int (32 : Int32))])) _
      exact retOut X0 hx Bd.returns rfl (Or.inl ⟨rfl, Or.inr (Or.inr (Or.inr (Or.inl rfl))), _, rfl⟩) (hb hby d_method_4_code_10) hretL
    · show Q_rmpick Z x0 h0 n0 _ s₁.heap _
      rw [e0]
      exact ⟨by simp only [pkc, if_pos hc5_2], N0, rfl⟩
  · have pre3 : ∀ tgt, Steps p.tables e below (s₁.setTop (mkF m 13 #[.val (.int x0), .val (.int (x0 &&& (3 : Int32)))] [(.int (1 : Int32)), (.int (x0 &&& (3 : Int32)))])) tgt → Steps p.tables e below (s₁.setTop (entryFrame m #[(.int x0)] 2)) tgt := by
      intro tgt kgo
      refine pre1 _ ?_
      refine XS.ifYes X0.here hx rfl (pc0 := 5) (pc' := 11) rfl (hb hby d_method_4_code_5) rfl ((if0 _ _).trans (feq hc5_2).2) (by decide) (by decide) ?_
      show Steps p.tables e below (s₁.setTop (mkF m 11 #[.val (.int x0), .val (.int (x0 &&& (3 : Int32)))] [])) _
      refine XS.iloadN X0.here hx rfl (hb hby d_method_4_code_11) rfl ?_
      show Steps p.tables e below (s₁.setTop (mkF m 12 #[.val (.int x0), .val (.int (x0 &&& (3 : Int32)))] [(.int (x0 &&& (3 : Int32)))])) _
      refine XS.iconst X0.here hx rfl (hb hby d_method_4_code_12) ?_
      show Steps p.tables e below (s₁.setTop (mkF m 13 #[.val (.int x0), .val (.int (x0 &&& (3 : Int32)))] [(.int (1 : Int32)), (.int (x0 &&& (3 : Int32)))])) _
      exact kgo
    by_cases hc13_4 : (x0 &&& (3 : Int32)) = (1 : Int32)
    · obtain ⟨fs, hretL, hrun, hended, hW, hsame⟩ := X0.leave (v := some (.int (9 : Int32))) (fun h => by rw [Bd.returns] at h; cases h)
      refine ⟨_, _, pre3 _ ?_, hrun, hended, _, _, rfl, ?_, ⟨_, rfl⟩, hW, hsame.mono (by decide) (by decide)⟩
      · refine XS.icmpNo X0.here hx rfl (hb hby d_method_4_code_13) rfl (teq hc13_4).2 ?_
        show Steps p.tables e below (s₁.setTop (mkF m 16 #[.val (.int x0), .val (.int (x0 &&& (3 : Int32)))] [])) _
        refine XS.bipush X0.here hx rfl (hb hby d_method_4_code_16) ?_
        show Steps p.tables e below (s₁.setTop (mkF m 18 #[.val (.int x0), .val (.int (x0 &&& (3 : Int32)))] [(.int (9 : Int32))])) _
        exact retOut X0 hx Bd.returns rfl (Or.inl ⟨rfl, Or.inr (Or.inr (Or.inr (Or.inl rfl))), _, rfl⟩) (hb hby d_method_4_code_18) hretL
      · show Q_rmpick Z x0 h0 n0 _ s₁.heap _
        rw [e0]
        exact ⟨by simp only [pkc, if_neg hc5_2, if_pos hc13_4], N0, rfl⟩
    · obtain ⟨fs, hretL, hrun, hended, hW, hsame⟩ := X0.leave (v := some (.int (((x0.toUInt32 >>> ((2 : Int32) &&& 31).toUInt32).toInt32) &&& (255 : Int32)).toUInt32.toUInt16.toUInt32.toInt32)) (fun h => by rw [Bd.returns] at h; cases h)
      refine ⟨_, _, pre3 _ ?_, hrun, hended, _, _, rfl, ?_, ⟨_, rfl⟩, hW, hsame.mono (by decide) (by decide)⟩
      · refine XS.icmpYes X0.here hx rfl (pc0 := 13) (pc' := 19) rfl (hb hby d_method_4_code_13) rfl (feq hc13_4).2 (by decide) (by decide) ?_
        show Steps p.tables e below (s₁.setTop (mkF m 19 #[.val (.int x0), .val (.int (x0 &&& (3 : Int32)))] [])) _
        refine XS.iloadN X0.here hx rfl (hb hby d_method_4_code_19) rfl ?_
        show Steps p.tables e below (s₁.setTop (mkF m 20 #[.val (.int x0), .val (.int (x0 &&& (3 : Int32)))] [(.int x0)])) _
        refine XS.iconst X0.here hx rfl (hb hby d_method_4_code_20) ?_
        show Steps p.tables e below (s₁.setTop (mkF m 21 #[.val (.int x0), .val (.int (x0 &&& (3 : Int32)))] [(.int (2 : Int32)), (.int x0)])) _
        refine XS.iushr X0.here hx rfl (hb hby d_method_4_code_21) rfl ?_
        show Steps p.tables e below (s₁.setTop (mkF m 22 #[.val (.int x0), .val (.int (x0 &&& (3 : Int32)))] [(.int ((x0.toUInt32 >>> ((2 : Int32) &&& 31).toUInt32).toInt32))])) _
        refine XS.sipush X0.here hx rfl (hb hby d_method_4_code_22) ?_
        show Steps p.tables e below (s₁.setTop (mkF m 25 #[.val (.int x0), .val (.int (x0 &&& (3 : Int32)))] [(.int (255 : Int32)), (.int ((x0.toUInt32 >>> ((2 : Int32) &&& 31).toUInt32).toInt32))])) _
        refine XS.iand X0.here hx rfl (hb hby d_method_4_code_25) rfl ?_
        show Steps p.tables e below (s₁.setTop (mkF m 26 #[.val (.int x0), .val (.int (x0 &&& (3 : Int32)))] [(.int (((x0.toUInt32 >>> ((2 : Int32) &&& 31).toUInt32).toInt32) &&& (255 : Int32)))])) _
        refine XS.i2c X0.here hx rfl (hb hby d_method_4_code_26) rfl ?_
        show Steps p.tables e below (s₁.setTop (mkF m 27 #[.val (.int x0), .val (.int (x0 &&& (3 : Int32)))] [(.int (((x0.toUInt32 >>> ((2 : Int32) &&& 31).toUInt32).toInt32) &&& (255 : Int32)).toUInt32.toUInt16.toUInt32.toInt32)])) _
        exact retOut X0 hx Bd.returns (own_nrc _) (Or.inl ⟨rfl, Or.inr (Or.inr (Or.inr (Or.inl rfl))), _, rfl⟩) (hb hby d_method_4_code_27) hretL
      · show Q_rmpick Z x0 h0 n0 _ s₁.heap _
        rw [e0]
        exact ⟨by simp only [pkc, if_neg hc5_2, if_neg hc13_4], N0, rfl⟩
theorem d_method_3_code_0 : decode method_3_code 0 = .ok (.iload_n 0, 1) := by decide +kernel
theorem d_method_3_code_1 : decode method_3_code 1 = .ok (.bipush 32, 2) := by decide +kernel
theorem d_method_3_code_3 : decode method_3_code 3 = .ok (.if_icmp .eq 9, 3) := by decide +kernel
theorem d_method_3_code_6 : decode method_3_code 6 = .ok (.iload_n 0, 1) := by decide +kernel
theorem d_method_3_code_7 : decode method_3_code 7 = .ok (.bipush 9, 2) := by decide +kernel
theorem d_method_3_code_9 : decode method_3_code 9 = .ok (.if_icmp .ne 7, 3) := by decide +kernel
theorem d_method_3_code_12 : decode method_3_code 12 = .ok (.iconst 1, 1) := by decide +kernel
theorem d_method_3_code_13 : decode method_3_code 13 = .ok (.goto 4, 3) := by decide +kernel
theorem d_method_3_code_16 : decode method_3_code 16 = .ok (.iconst 0, 1) := by decide +kernel
theorem d_method_3_code_17 : decode method_3_code 17 = .ok (.ireturn, 1) := by decide +kernel
def Q_rmbl (Z : State) (x0 : Int32) (h0 : Heap) (n0 : Nat) (v : Option Value) (h : Heap) (L : List Loc) : Prop := v = some (.int (bl x0)) ∧ Fr n0 L ∧ h = h0
theorem ef_rmbl (m : MethodId) (x0 : Int32) : entryFrame m #[(.int x0)] 1 = mkF m 0 #[.val (.int x0)] [] := by first | (simp [entryFrame, mkF, argsToLocals, Value.category]; done) | rfl
set_option maxRecDepth 65536 in
set_option maxHeartbeats 40000000 in
theorem rmbl (l : Launch) (Z : State) (a0 : Array Value) (hw : ∀ d ∈ tables_1, d.before a0 Z = true) (ws : List Jvm.Cond) (x0 : Int32) (h0 : Heap) (n0 : Nat) (O0 : Old Z n0 h0) :
    MetFree l (⟨"com/example/redress/redress/definition/StatementStripBlanksPinLaw", "blank", "(C)Z"⟩ : MethodName) (head1 (Jvm.Cond.code (⟨"com/example/redress/redress/definition/StatementStripBlanksPinLaw", "blank", "(C)Z"⟩ : MethodName) method_3_code 1 (some .boolean) :: ws) ({ frames := 0, cells := 0, slots := 0, locals := 0 } : Room)) (fun aa U => aa = #[(.int x0)] ∧ Z.Warmed39 U.vm ∧ U.heap = h0) (fun _ _ _ _ _ => True) (fun _ U o U' => ∃ v L, o = .returned v ∧ Q_rmbl Z x0 h0 n0 v U'.heap L ∧ FrameEnd U o U' L ({ frames := 0, cells := 0, slots := 0, locals := 0 } : Room).cells ({ frames := 0, cells := 0, slots := 0, locals := 0 } : Room).slots) := by
  refine MetFree.of_bodySF (plainFor_of_name pn3) hisR ?_
  intro p e s m args below meth c s₁ Bd hml0 hP hK
  obtain ⟨rfl, hZ, hh⟩ := hP
  have hx := Bd.exec
  have hby := Bd.bytes
  have hml : c.maxLocals = 1 := hml0
  have hown : s.vm.findClass "com/example/redress/redress/definition/StatementStripBlanksPinLaw" = some m.cls := findClass_of_methodNamed Bd.named
  have hnm := (name_of_methodNamed Bd.named Bd.method).1
  have X0 : Stand p l e ({ frames := 0, cells := 0, slots := 0, locals := 0 } : Room) s m #[(.int x0)] below meth c s₁ [] 0 0 := Stand.of_body Bd
  have e0 : s₁.heap = h0 := by rw [← hh, Bd.state]; rfl
  have N0 := Fr.nil n0
  have K0 : Keep h0 h0 [] := Keep.refl _ _
  have pre0 : ∀ tgt, Steps p.tables e below (s₁.setTop (mkF m 0 #[.val (.int x0)] [])) tgt → Steps p.tables e below (s₁.setTop (entryFrame m #[(.int x0)] 1)) tgt := fun tgt kgo => castTop (ef_rmbl m x0) kgo
  have pre1 : ∀ tgt, Steps p.tables e below (s₁.setTop (mkF m 3 #[.val (.int x0)] [(.int (32 : Int32)), (.int x0)])) tgt → Steps p.tables e below (s₁.setTop (entryFrame m #[(.int x0)] 1)) tgt := by
    intro tgt kgo
    refine pre0 _ ?_
    refine XS.iloadN X0.here hx rfl (hb hby d_method_3_code_0) rfl ?_
    show Steps p.tables e below (s₁.setTop (mkF m 1 #[.val (.int x0)] [(.int x0)])) _
    refine XS.bipush X0.here hx rfl (hb hby d_method_3_code_1) ?_
    show Steps p.tables e below (s₁.setTop (mkF m 3 #[.val (.int x0)] [(.int (32 : Int32)), (.int x0)])) _
    exact kgo
  by_cases hc3_2 : x0 = (32 : Int32)
  · obtain ⟨fs, hretL, hrun, hended, hW, hsame⟩ := X0.leave (v := some (.int (1 : Int32))) (fun h => by rw [Bd.returns] at h; cases h)
    refine ⟨_, _, pre1 _ ?_, hrun, hended, _, _, rfl, ?_, ⟨_, rfl⟩, hW, hsame.mono (by decide) (by decide)⟩
    · refine XS.icmpYes X0.here hx rfl (pc0 := 3) (pc' := 12) rfl (hb hby d_method_3_code_3) rfl (teq hc3_2).1 (by decide) (by decide) ?_
      show Steps p.tables e below (s₁.setTop (mkF m 12 #[.val (.int x0)] [])) _
      refine XS.iconst X0.here hx rfl (hb hby d_method_3_code_12) ?_
      show Steps p.tables e below (s₁.setTop (mkF m 13 #[.val (.int x0)] [(.int (1 : Int32))])) _
      refine XS.goto X0.here hx rfl (pc0 := 13) (pc' := 17) rfl (hb hby d_method_3_code_13) (by decide) (by decide) ?_
      show Steps p.tables e below (s₁.setTop (mkF m 17 #[.val (.int x0)] [(.int (1 : Int32))])) _
      exact retOut X0 hx Bd.returns rfl (Or.inl ⟨rfl, Or.inr (Or.inl rfl), _, rfl⟩) (hb hby d_method_3_code_17) hretL
    · show Q_rmbl Z x0 h0 n0 _ s₁.heap _
      rw [e0]
      exact ⟨by simp only [bl, if_pos hc3_2], N0, rfl⟩
  · have pre3 : ∀ tgt, Steps p.tables e below (s₁.setTop (mkF m 9 #[.val (.int x0)] [(.int (9 : Int32)), (.int x0)])) tgt → Steps p.tables e below (s₁.setTop (entryFrame m #[(.int x0)] 1)) tgt := by
      intro tgt kgo
      refine pre1 _ ?_
      refine XS.icmpNo X0.here hx rfl (hb hby d_method_3_code_3) rfl (feq hc3_2).1 ?_
      show Steps p.tables e below (s₁.setTop (mkF m 6 #[.val (.int x0)] [])) _
      refine XS.iloadN X0.here hx rfl (hb hby d_method_3_code_6) rfl ?_
      show Steps p.tables e below (s₁.setTop (mkF m 7 #[.val (.int x0)] [(.int x0)])) _
      refine XS.bipush X0.here hx rfl (hb hby d_method_3_code_7) ?_
      show Steps p.tables e below (s₁.setTop (mkF m 9 #[.val (.int x0)] [(.int (9 : Int32)), (.int x0)])) _
      exact kgo
    by_cases hc9_4 : x0 = (9 : Int32)
    · obtain ⟨fs, hretL, hrun, hended, hW, hsame⟩ := X0.leave (v := some (.int (1 : Int32))) (fun h => by rw [Bd.returns] at h; cases h)
      refine ⟨_, _, pre3 _ ?_, hrun, hended, _, _, rfl, ?_, ⟨_, rfl⟩, hW, hsame.mono (by decide) (by decide)⟩
      · refine XS.icmpNo X0.here hx rfl (hb hby d_method_3_code_9) rfl (teq hc9_4).2 ?_
        show Steps p.tables e below (s₁.setTop (mkF m 12 #[.val (.int x0)] [])) _
        refine XS.iconst X0.here hx rfl (hb hby d_method_3_code_12) ?_
        show Steps p.tables e below (s₁.setTop (mkF m 13 #[.val (.int x0)] [(.int (1 : Int32))])) _
        refine XS.goto X0.here hx rfl (pc0 := 13) (pc' := 17) rfl (hb hby d_method_3_code_13) (by decide) (by decide) ?_
        show Steps p.tables e below (s₁.setTop (mkF m 17 #[.val (.int x0)] [(.int (1 : Int32))])) _
        exact retOut X0 hx Bd.returns rfl (Or.inl ⟨rfl, Or.inr (Or.inl rfl), _, rfl⟩) (hb hby d_method_3_code_17) hretL
      · show Q_rmbl Z x0 h0 n0 _ s₁.heap _
        rw [e0]
        exact ⟨by simp only [bl, if_neg hc3_2, if_pos hc9_4], N0, rfl⟩
    · obtain ⟨fs, hretL, hrun, hended, hW, hsame⟩ := X0.leave (v := some (.int (0 : Int32))) (fun h => by rw [Bd.returns] at h; cases h)
      refine ⟨_, _, pre3 _ ?_, hrun, hended, _, _, rfl, ?_, ⟨_, rfl⟩, hW, hsame.mono (by decide) (by decide)⟩
      · refine XS.icmpYes X0.here hx rfl (pc0 := 9) (pc' := 16) rfl (hb hby d_method_3_code_9) rfl (feq hc9_4).2 (by decide) (by decide) ?_
        show Steps p.tables e below (s₁.setTop (mkF m 16 #[.val (.int x0)] [])) _
        refine XS.iconst X0.here hx rfl (hb hby d_method_3_code_16) ?_
        show Steps p.tables e below (s₁.setTop (mkF m 17 #[.val (.int x0)] [(.int (0 : Int32))])) _
        exact retOut X0 hx Bd.returns rfl (Or.inl ⟨rfl, Or.inr (Or.inl rfl), _, rfl⟩) (hb hby d_method_3_code_17) hretL
      · show Q_rmbl Z x0 h0 n0 _ s₁.heap _
        rw [e0]
        exact ⟨by simp only [bl, if_neg hc3_2, if_neg hc9_4], N0, rfl⟩
theorem d_prog_32_method_4_code_0 : decode prog_32_method_4_code 0 = .ok (.iload_n 0, 1) := by decide +kernel
theorem d_prog_32_method_4_code_1 : decode prog_32_method_4_code 1 = .ok (.bipush 32, 2) := by decide +kernel
theorem d_prog_32_method_4_code_3 : decode prog_32_method_4_code 3 = .ok (.if_icmp .eq 9, 3) := by decide +kernel
theorem d_prog_32_method_4_code_6 : decode prog_32_method_4_code 6 = .ok (.iload_n 0, 1) := by decide +kernel
theorem d_prog_32_method_4_code_7 : decode prog_32_method_4_code 7 = .ok (.bipush 9, 2) := by decide +kernel
theorem d_prog_32_method_4_code_9 : decode prog_32_method_4_code 9 = .ok (.if_icmp .ne 7, 3) := by decide +kernel
theorem d_prog_32_method_4_code_12 : decode prog_32_method_4_code 12 = .ok (.iconst 1, 1) := by decide +kernel
theorem d_prog_32_method_4_code_13 : decode prog_32_method_4_code 13 = .ok (.goto 4, 3) := by decide +kernel
theorem d_prog_32_method_4_code_16 : decode prog_32_method_4_code 16 = .ok (.iconst 0, 1) := by decide +kernel
theorem d_prog_32_method_4_code_17 : decode prog_32_method_4_code 17 = .ok (.ireturn, 1) := by decide +kernel
def Q_rmisb (Z : State) (x0 : Int32) (h0 : Heap) (n0 : Nat) (v : Option Value) (h : Heap) (L : List Loc) : Prop := v = some (.int (bl x0)) ∧ Fr n0 L ∧ h = h0
theorem ef_rmisb (m : MethodId) (x0 : Int32) : entryFrame m #[(.int x0)] 1 = mkF m 0 #[.val (.int x0)] [] := by first | (simp [entryFrame, mkF, argsToLocals, Value.category]; done) | rfl
set_option maxRecDepth 65536 in
set_option maxHeartbeats 40000000 in
theorem rmisb (l : Launch) (Z : State) (a0 : Array Value) (hw : ∀ d ∈ tables_1, d.before a0 Z = true) (ws : List Jvm.Cond) (x0 : Int32) (h0 : Heap) (n0 : Nat) (O0 : Old Z n0 h0) :
    MetFree l (⟨"com/example/redress/redress/definition/Statement", "isBlank", "(C)Z"⟩ : MethodName) (head1 (Jvm.Cond.code (⟨"com/example/redress/redress/definition/Statement", "isBlank", "(C)Z"⟩ : MethodName) prog_32_method_4_code 1 (some .boolean) :: ws) ({ frames := 0, cells := 0, slots := 0, locals := 0 } : Room)) (fun aa U => aa = #[(.int x0)] ∧ Z.Warmed39 U.vm ∧ U.heap = h0) (fun _ _ _ _ _ => True) (fun _ U o U' => ∃ v L, o = .returned v ∧ Q_rmisb Z x0 h0 n0 v U'.heap L ∧ FrameEnd U o U' L ({ frames := 0, cells := 0, slots := 0, locals := 0 } : Room).cells ({ frames := 0, cells := 0, slots := 0, locals := 0 } : Room).slots) := by
  refine MetFree.of_bodySF (plainFor_of_name pn4) hisR ?_
  intro p e s m args below meth c s₁ Bd hml0 hP hK
  obtain ⟨rfl, hZ, hh⟩ := hP
  have hx := Bd.exec
  have hby := Bd.bytes
  have hml : c.maxLocals = 1 := hml0
  have hown : s.vm.findClass "com/example/redress/redress/definition/Statement" = some m.cls := findClass_of_methodNamed Bd.named
  have hnm := (name_of_methodNamed Bd.named Bd.method).1
  have X0 : Stand p l e ({ frames := 0, cells := 0, slots := 0, locals := 0 } : Room) s m #[(.int x0)] below meth c s₁ [] 0 0 := Stand.of_body Bd
  have e0 : s₁.heap = h0 := by rw [← hh, Bd.state]; rfl
  have N0 := Fr.nil n0
  have K0 : Keep h0 h0 [] := Keep.refl _ _
  have pre0 : ∀ tgt, Steps p.tables e below (s₁.setTop (mkF m 0 #[.val (.int x0)] [])) tgt → Steps p.tables e below (s₁.setTop (entryFrame m #[(.int x0)] 1)) tgt := fun tgt kgo => castTop (ef_rmisb m x0) kgo
  have pre1 : ∀ tgt, Steps p.tables e below (s₁.setTop (mkF m 3 #[.val (.int x0)] [(.int (32 : Int32)), (.int x0)])) tgt → Steps p.tables e below (s₁.setTop (entryFrame m #[(.int x0)] 1)) tgt := by
    intro tgt kgo
    refine pre0 _ ?_
    refine XS.iloadN X0.here hx rfl (hb hby d_prog_32_method_4_code_0) rfl ?_
    show Steps p.tables e below (s₁.setTop (mkF m 1 #[.val (.int x0)] [(.int x0)])) _
    refine XS.bipush X0.here hx rfl (hb hby d_prog_32_method_4_code_1) ?_
    show Steps p.tables e below (s₁.setTop (mkF m 3 #[.val (.int x0)] [(.int (32 : Int32)), (.int x0)])) _
    exact kgo
  by_cases hc3_2 : x0 = (32 : Int32)
  · obtain ⟨fs, hretL, hrun, hended, hW, hsame⟩ := X0.leave (v := some (.int (1 : Int32))) (fun h => by rw [Bd.returns] at h; cases h)
    refine ⟨_, _, pre1 _ ?_, hrun, hended, _, _, rfl, ?_, ⟨_, rfl⟩, hW, hsame.mono (by decide) (by decide)⟩
    · refine XS.icmpYes X0.here hx rfl (pc0 := 3) (pc' := 12) rfl (hb hby d_prog_32_method_4_code_3) rfl (teq hc3_2).1 (by decide) (by decide) ?_
      show Steps p.tables e below (s₁.setTop (mkF m 12 #[.val (.int x0)] [])) _
      refine XS.iconst X0.here hx rfl (hb hby d_prog_32_method_4_code_12) ?_
      show Steps p.tables e below (s₁.setTop (mkF m 13 #[.val (.int x0)] [(.int (1 : Int32))])) _
      refine XS.goto X0.here hx rfl (pc0 := 13) (pc' := 17) rfl (hb hby d_prog_32_method_4_code_13) (by decide) (by decide) ?_
      show Steps p.tables e below (s₁.setTop (mkF m 17 #[.val (.int x0)] [(.int (1 : Int32))])) _
      exact retOut X0 hx Bd.returns rfl (Or.inl ⟨rfl, Or.inr (Or.inl rfl), _, rfl⟩) (hb hby d_prog_32_method_4_code_17) hretL
    · show Q_rmisb Z x0 h0 n0 _ s₁.heap _
      rw [e0]
      exact ⟨by simp only [bl, if_pos hc3_2], N0, rfl⟩
  · have pre3 : ∀ tgt, Steps p.tables e below (s₁.setTop (mkF m 9 #[.val (.int x0)] [(.int (9 : Int32)), (.int x0)])) tgt → Steps p.tables e below (s₁.setTop (entryFrame m #[(.int x0)] 1)) tgt := by
      intro tgt kgo
      refine pre1 _ ?_
      refine XS.icmpNo X0.here hx rfl (hb hby d_prog_32_method_4_code_3) rfl (feq hc3_2).1 ?_
      show Steps p.tables e below (s₁.setTop (mkF m 6 #[.val (.int x0)] [])) _
      refine XS.iloadN X0.here hx rfl (hb hby d_prog_32_method_4_code_6) rfl ?_
      show Steps p.tables e below (s₁.setTop (mkF m 7 #[.val (.int x0)] [(.int x0)])) _
      refine XS.bipush X0.here hx rfl (hb hby d_prog_32_method_4_code_7) ?_
      show Steps p.tables e below (s₁.setTop (mkF m 9 #[.val (.int x0)] [(.int (9 : Int32)), (.int x0)])) _
      exact kgo
    by_cases hc9_4 : x0 = (9 : Int32)
    · obtain ⟨fs, hretL, hrun, hended, hW, hsame⟩ := X0.leave (v := some (.int (1 : Int32))) (fun h => by rw [Bd.returns] at h; cases h)
      refine ⟨_, _, pre3 _ ?_, hrun, hended, _, _, rfl, ?_, ⟨_, rfl⟩, hW, hsame.mono (by decide) (by decide)⟩
      · refine XS.icmpNo X0.here hx rfl (hb hby d_prog_32_method_4_code_9) rfl (teq hc9_4).2 ?_
        show Steps p.tables e below (s₁.setTop (mkF m 12 #[.val (.int x0)] [])) _
        refine XS.iconst X0.here hx rfl (hb hby d_prog_32_method_4_code_12) ?_
        show Steps p.tables e below (s₁.setTop (mkF m 13 #[.val (.int x0)] [(.int (1 : Int32))])) _
        refine XS.goto X0.here hx rfl (pc0 := 13) (pc' := 17) rfl (hb hby d_prog_32_method_4_code_13) (by decide) (by decide) ?_
        show Steps p.tables e below (s₁.setTop (mkF m 17 #[.val (.int x0)] [(.int (1 : Int32))])) _
        exact retOut X0 hx Bd.returns rfl (Or.inl ⟨rfl, Or.inr (Or.inl rfl), _, rfl⟩) (hb hby d_prog_32_method_4_code_17) hretL
      · show Q_rmisb Z x0 h0 n0 _ s₁.heap _
        rw [e0]
        exact ⟨by simp only [bl, if_neg hc3_2, if_pos hc9_4], N0, rfl⟩
    · obtain ⟨fs, hretL, hrun, hended, hW, hsame⟩ := X0.leave (v := some (.int (0 : Int32))) (fun h => by rw [Bd.returns] at h; cases h)
      refine ⟨_, _, pre3 _ ?_, hrun, hended, _, _, rfl, ?_, ⟨_, rfl⟩, hW, hsame.mono (by decide) (by decide)⟩
      · refine XS.icmpYes X0.here hx rfl (pc0 := 9) (pc' := 16) rfl (hb hby d_prog_32_method_4_code_9) rfl (feq hc9_4).2 (by decide) (by decide) ?_
        show Steps p.tables e below (s₁.setTop (mkF m 16 #[.val (.int x0)] [])) _
        refine XS.iconst X0.here hx rfl (hb hby d_prog_32_method_4_code_16) ?_
        show Steps p.tables e below (s₁.setTop (mkF m 17 #[.val (.int x0)] [(.int (0 : Int32))])) _
        exact retOut X0 hx Bd.returns rfl (Or.inl ⟨rfl, Or.inr (Or.inl rfl), _, rfl⟩) (hb hby d_prog_32_method_4_code_17) hretL
      · show Q_rmisb Z x0 h0 n0 _ s₁.heap _
        rw [e0]
        exact ⟨by simp only [bl, if_neg hc3_2, if_neg hc9_4], N0, rfl⟩
def mkl (n d0 d1 d2 d3 : Int32) : List Int32 := if n = 0 then [] else if n = 1 then [d0] else if n = 2 then [d0, d1] else if n = 3 then [d0, d1, d2] else [d0, d1, d2, d3]
theorem own_hp1 {d0 : Int32} (hd0 : ¬ d0 < 0 ∧ ¬ (255 : Int32) < d0) : ∀ c ∈ ([nar .char d0] : List Int32), ¬ c < 0 ∧ ¬ (255 : Int32) < c := by
  intro c hc
  simp only [List.mem_cons, List.not_mem_nil, or_false, own_nc hd0] at hc
  rcases hc with rfl
  all_goals assumption
theorem own_hp2 {d0 d1 : Int32} (hd0 : ¬ d0 < 0 ∧ ¬ (255 : Int32) < d0) (hd1 : ¬ d1 < 0 ∧ ¬ (255 : Int32) < d1) : ∀ c ∈ ([nar .char d0, nar .char d1] : List Int32), ¬ c < 0 ∧ ¬ (255 : Int32) < c := by
  intro c hc
  simp only [List.mem_cons, List.not_mem_nil, or_false, own_nc hd0, own_nc hd1] at hc
  rcases hc with rfl | rfl
  all_goals assumption
theorem own_hp3 {d0 d1 d2 : Int32} (hd0 : ¬ d0 < 0 ∧ ¬ (255 : Int32) < d0) (hd1 : ¬ d1 < 0 ∧ ¬ (255 : Int32) < d1) (hd2 : ¬ d2 < 0 ∧ ¬ (255 : Int32) < d2) : ∀ c ∈ ([nar .char d0, nar .char d1, nar .char d2] : List Int32), ¬ c < 0 ∧ ¬ (255 : Int32) < c := by
  intro c hc
  simp only [List.mem_cons, List.not_mem_nil, or_false, own_nc hd0, own_nc hd1, own_nc hd2] at hc
  rcases hc with rfl | rfl | rfl
  all_goals assumption
theorem own_hp4 {d0 d1 d2 d3 : Int32} (hd0 : ¬ d0 < 0 ∧ ¬ (255 : Int32) < d0) (hd1 : ¬ d1 < 0 ∧ ¬ (255 : Int32) < d1) (hd2 : ¬ d2 < 0 ∧ ¬ (255 : Int32) < d2) (hd3 : ¬ d3 < 0 ∧ ¬ (255 : Int32) < d3) : ∀ c ∈ ([nar .char d0, nar .char d1, nar .char d2, nar .char d3] : List Int32), ¬ c < 0 ∧ ¬ (255 : Int32) < c := by
  intro c hc
  simp only [List.mem_cons, List.not_mem_nil, or_false, own_nc hd0, own_nc hd1, own_nc hd2, own_nc hd3] at hc
  rcases hc with rfl | rfl | rfl | rfl
  all_goals assumption
theorem d_method_5_code_0 : decode method_5_code 0 = .ok (.iload_n 0, 1) := by decide +kernel
theorem d_method_5_code_1 : decode method_5_code 1 = .ok (.ifCond .ne 14, 3) := by decide +kernel
theorem d_method_5_code_4 : decode method_5_code 4 = .ok (.new 29, 3) := by decide +kernel
theorem d_method_5_code_7 : decode method_5_code 7 = .ok (.dup, 1) := by decide +kernel
theorem d_method_5_code_8 : decode method_5_code 8 = .ok (.iconst 0, 1) := by decide +kernel
theorem d_method_5_code_9 : decode method_5_code 9 = .ok (.newarray .char, 2) := by decide +kernel
theorem d_method_5_code_11 : decode method_5_code 11 = .ok (.invokespecial 38, 3) := by decide +kernel
theorem d_method_5_code_14 : decode method_5_code 14 = .ok (.areturn, 1) := by decide +kernel
theorem d_method_5_code_15 : decode method_5_code 15 = .ok (.iload_n 0, 1) := by decide +kernel
theorem d_method_5_code_16 : decode method_5_code 16 = .ok (.iconst 1, 1) := by decide +kernel
theorem d_method_5_code_17 : decode method_5_code 17 = .ok (.if_icmp .ne 20, 3) := by decide +kernel
theorem d_method_5_code_20 : decode method_5_code 20 = .ok (.new 29, 3) := by decide +kernel
theorem d_method_5_code_23 : decode method_5_code 23 = .ok (.dup, 1) := by decide +kernel
theorem d_method_5_code_24 : decode method_5_code 24 = .ok (.iconst 1, 1) := by decide +kernel
theorem d_method_5_code_25 : decode method_5_code 25 = .ok (.newarray .char, 2) := by decide +kernel
theorem d_method_5_code_27 : decode method_5_code 27 = .ok (.dup, 1) := by decide +kernel
theorem d_method_5_code_28 : decode method_5_code 28 = .ok (.iconst 0, 1) := by decide +kernel
theorem d_method_5_code_29 : decode method_5_code 29 = .ok (.aload_n 1, 1) := by decide +kernel
theorem d_method_5_code_30 : decode method_5_code 30 = .ok (.iconst 0, 1) := by decide +kernel
theorem d_method_5_code_31 : decode method_5_code 31 = .ok (.caload, 1) := by decide +kernel
theorem d_method_5_code_32 : decode method_5_code 32 = .ok (.castore, 1) := by decide +kernel
theorem d_method_5_code_33 : decode method_5_code 33 = .ok (.invokespecial 38, 3) := by decide +kernel
theorem d_method_5_code_36 : decode method_5_code 36 = .ok (.areturn, 1) := by decide +kernel
theorem d_method_5_code_37 : decode method_5_code 37 = .ok (.iload_n 0, 1) := by decide +kernel
theorem d_method_5_code_38 : decode method_5_code 38 = .ok (.iconst 2, 1) := by decide +kernel
theorem d_method_5_code_39 : decode method_5_code 39 = .ok (.if_icmp .ne 26, 3) := by decide +kernel
theorem d_method_5_code_42 : decode method_5_code 42 = .ok (.new 29, 3) := by decide +kernel
theorem d_method_5_code_45 : decode method_5_code 45 = .ok (.dup, 1) := by decide +kernel
theorem d_method_5_code_46 : decode method_5_code 46 = .ok (.iconst 2, 1) := by decide +kernel
theorem d_method_5_code_47 : decode method_5_code 47 = .ok (.newarray .char, 2) := by decide +kernel
theorem d_method_5_code_49 : decode method_5_code 49 = .ok (.dup, 1) := by decide +kernel
theorem d_method_5_code_50 : decode method_5_code 50 = .ok (.iconst 0, 1) := by decide +kernel
theorem d_method_5_code_51 : decode method_5_code 51 = .ok (.aload_n 1, 1) := by decide +kernel
theorem d_method_5_code_52 : decode method_5_code 52 = .ok (.iconst 0, 1) := by decide +kernel
theorem d_method_5_code_53 : decode method_5_code 53 = .ok (.caload, 1) := by decide +kernel
theorem d_method_5_code_54 : decode method_5_code 54 = .ok (.castore, 1) := by decide +kernel
theorem d_method_5_code_55 : decode method_5_code 55 = .ok (.dup, 1) := by decide +kernel
theorem d_method_5_code_56 : decode method_5_code 56 = .ok (.iconst 1, 1) := by decide +kernel
theorem d_method_5_code_57 : decode method_5_code 57 = .ok (.aload_n 1, 1) := by decide +kernel
theorem d_method_5_code_58 : decode method_5_code 58 = .ok (.iconst 1, 1) := by decide +kernel
theorem d_method_5_code_59 : decode method_5_code 59 = .ok (.caload, 1) := by decide +kernel
theorem d_method_5_code_60 : decode method_5_code 60 = .ok (.castore, 1) := by decide +kernel
theorem d_method_5_code_61 : decode method_5_code 61 = .ok (.invokespecial 38, 3) := by decide +kernel
theorem d_method_5_code_64 : decode method_5_code 64 = .ok (.areturn, 1) := by decide +kernel
theorem d_method_5_code_65 : decode method_5_code 65 = .ok (.iload_n 0, 1) := by decide +kernel
theorem d_method_5_code_66 : decode method_5_code 66 = .ok (.iconst 3, 1) := by decide +kernel
theorem d_method_5_code_67 : decode method_5_code 67 = .ok (.if_icmp .ne 32, 3) := by decide +kernel
theorem d_method_5_code_70 : decode method_5_code 70 = .ok (.new 29, 3) := by decide +kernel
theorem d_method_5_code_73 : decode method_5_code 73 = .ok (.dup, 1) := by decide +kernel
theorem d_method_5_code_74 : decode method_5_code 74 = .ok (.iconst 3, 1) := by decide +kernel
theorem d_method_5_code_75 : decode method_5_code 75 = .ok (.newarray .char, 2) := by decide +kernel
theorem d_method_5_code_77 : decode method_5_code 77 = .ok (.dup, 1) := by decide +kernel
theorem d_method_5_code_78 : decode method_5_code 78 = .ok (.iconst 0, 1) := by decide +kernel
theorem d_method_5_code_79 : decode method_5_code 79 = .ok (.aload_n 1, 1) := by decide +kernel
theorem d_method_5_code_80 : decode method_5_code 80 = .ok (.iconst 0, 1) := by decide +kernel
theorem d_method_5_code_81 : decode method_5_code 81 = .ok (.caload, 1) := by decide +kernel
theorem d_method_5_code_82 : decode method_5_code 82 = .ok (.castore, 1) := by decide +kernel
theorem d_method_5_code_83 : decode method_5_code 83 = .ok (.dup, 1) := by decide +kernel
theorem d_method_5_code_84 : decode method_5_code 84 = .ok (.iconst 1, 1) := by decide +kernel
theorem d_method_5_code_85 : decode method_5_code 85 = .ok (.aload_n 1, 1) := by decide +kernel
theorem d_method_5_code_86 : decode method_5_code 86 = .ok (.iconst 1, 1) := by decide +kernel
theorem d_method_5_code_87 : decode method_5_code 87 = .ok (.caload, 1) := by decide +kernel
theorem d_method_5_code_88 : decode method_5_code 88 = .ok (.castore, 1) := by decide +kernel
theorem d_method_5_code_89 : decode method_5_code 89 = .ok (.dup, 1) := by decide +kernel
theorem d_method_5_code_90 : decode method_5_code 90 = .ok (.iconst 2, 1) := by decide +kernel
theorem d_method_5_code_91 : decode method_5_code 91 = .ok (.aload_n 1, 1) := by decide +kernel
theorem d_method_5_code_92 : decode method_5_code 92 = .ok (.iconst 2, 1) := by decide +kernel
theorem d_method_5_code_93 : decode method_5_code 93 = .ok (.caload, 1) := by decide +kernel
theorem d_method_5_code_94 : decode method_5_code 94 = .ok (.castore, 1) := by decide +kernel
theorem d_method_5_code_95 : decode method_5_code 95 = .ok (.invokespecial 38, 3) := by decide +kernel
theorem d_method_5_code_98 : decode method_5_code 98 = .ok (.areturn, 1) := by decide +kernel
theorem d_method_5_code_99 : decode method_5_code 99 = .ok (.new 29, 3) := by decide +kernel
theorem d_method_5_code_102 : decode method_5_code 102 = .ok (.dup, 1) := by decide +kernel
theorem d_method_5_code_103 : decode method_5_code 103 = .ok (.iconst 4, 1) := by decide +kernel
theorem d_method_5_code_104 : decode method_5_code 104 = .ok (.newarray .char, 2) := by decide +kernel
theorem d_method_5_code_106 : decode method_5_code 106 = .ok (.dup, 1) := by decide +kernel
theorem d_method_5_code_107 : decode method_5_code 107 = .ok (.iconst 0, 1) := by decide +kernel
theorem d_method_5_code_108 : decode method_5_code 108 = .ok (.aload_n 1, 1) := by decide +kernel
theorem d_method_5_code_109 : decode method_5_code 109 = .ok (.iconst 0, 1) := by decide +kernel
theorem d_method_5_code_110 : decode method_5_code 110 = .ok (.caload, 1) := by decide +kernel
theorem d_method_5_code_111 : decode method_5_code 111 = .ok (.castore, 1) := by decide +kernel
theorem d_method_5_code_112 : decode method_5_code 112 = .ok (.dup, 1) := by decide +kernel
theorem d_method_5_code_113 : decode method_5_code 113 = .ok (.iconst 1, 1) := by decide +kernel
theorem d_method_5_code_114 : decode method_5_code 114 = .ok (.aload_n 1, 1) := by decide +kernel
theorem d_method_5_code_115 : decode method_5_code 115 = .ok (.iconst 1, 1) := by decide +kernel
theorem d_method_5_code_116 : decode method_5_code 116 = .ok (.caload, 1) := by decide +kernel
theorem d_method_5_code_117 : decode method_5_code 117 = .ok (.castore, 1) := by decide +kernel
theorem d_method_5_code_118 : decode method_5_code 118 = .ok (.dup, 1) := by decide +kernel
theorem d_method_5_code_119 : decode method_5_code 119 = .ok (.iconst 2, 1) := by decide +kernel
theorem d_method_5_code_120 : decode method_5_code 120 = .ok (.aload_n 1, 1) := by decide +kernel
theorem d_method_5_code_121 : decode method_5_code 121 = .ok (.iconst 2, 1) := by decide +kernel
theorem d_method_5_code_122 : decode method_5_code 122 = .ok (.caload, 1) := by decide +kernel
theorem d_method_5_code_123 : decode method_5_code 123 = .ok (.castore, 1) := by decide +kernel
theorem d_method_5_code_124 : decode method_5_code 124 = .ok (.dup, 1) := by decide +kernel
theorem d_method_5_code_125 : decode method_5_code 125 = .ok (.iconst 3, 1) := by decide +kernel
theorem d_method_5_code_126 : decode method_5_code 126 = .ok (.aload_n 1, 1) := by decide +kernel
theorem d_method_5_code_127 : decode method_5_code 127 = .ok (.iconst 3, 1) := by decide +kernel
theorem d_method_5_code_128 : decode method_5_code 128 = .ok (.caload, 1) := by decide +kernel
theorem d_method_5_code_129 : decode method_5_code 129 = .ok (.castore, 1) := by decide +kernel
theorem d_method_5_code_130 : decode method_5_code 130 = .ok (.invokespecial 38, 3) := by decide +kernel
theorem d_method_5_code_133 : decode method_5_code 133 = .ok (.areturn, 1) := by decide +kernel
def Q_rmmk (Z : State) (n : Int32) (da : Addr) (kd : ClassId) (d0 : Int32) (d1 : Int32) (d2 : Int32) (d3 : Int32) (G1 : Int32) (h0 : Heap) (n0 : Nat) (v : Option Value) (h : Heap) (L : List Loc) : Prop := ∃ b : Addr, v = some (.ref b) ∧ Fr n0 L ∧ Keep h0 h [] ∧ n0 ≤ b ∧ StrP Z h b (mkl n d0 d1 d2 d3)
theorem ef_rmmk (m : MethodId) (n : Int32) (da : Addr) : entryFrame m #[(.int n), (.ref da)] 2 = mkF m 0 #[.val (.int n), .val (.ref da)] [] := by first | (simp [entryFrame, mkF, argsToLocals, Value.category]; done) | rfl
set_option maxRecDepth 65536 in
set_option maxHeartbeats 40000000 in
theorem rmmk (l : Launch) (Z : State) (a0 : Array Value) (hw : ∀ d ∈ tables_1, d.before a0 Z = true) (ws : List Jvm.Cond) (n : Int32) (da : Addr) (kd : ClassId) (d0 : Int32) (d1 : Int32) (d2 : Int32) (d3 : Int32) (G1 : Int32) (h0 : Heap) (n0 : Nat) (O0 : Old Z n0 h0) (O2 : Sta Z Z.heap "java/lang/String" "COMPACT_STRINGS" "Z" (.int G1)) (P5 : ¬ (G1 = (0 : Int32))) (Ad : Arv Z h0 da kd .char (4 : Int32) [.int d0, .int d1, .int d2, .int d3] (.int (0 : Int32))) (hd0 : ¬ d0 < 0 ∧ ¬ (255 : Int32) < d0) (hd1 : ¬ d1 < 0 ∧ ¬ (255 : Int32) < d1) (hd2 : ¬ d2 < 0 ∧ ¬ (255 : Int32) < d2) (hd3 : ¬ d3 < 0 ∧ ¬ (255 : Int32) < d3) :
    MetFree l (⟨"com/example/redress/redress/definition/StatementStripBlanksPinLaw", "make", "(I[C)Ljava/lang/String;"⟩ : MethodName) (head1 (Jvm.Cond.code (⟨"com/example/redress/redress/definition/StatementStripBlanksPinLaw", "make", "(I[C)Ljava/lang/String;"⟩ : MethodName) method_5_code 2 (some (.object "java/lang/String")) :: ws) ({ frames := 4, cells := 6, slots := 12, locals := 66 } : Room)) (fun aa U => aa = #[(.int n), (.ref da)] ∧ Z.Warmed39 U.vm ∧ U.heap = h0 ∧ CHv Z EL0 U.vm h0) (fun _ _ _ _ _ => True) (fun _ U o U' => ∃ v L, o = .returned v ∧ Q_rmmk Z n da kd d0 d1 d2 d3 G1 h0 n0 v U'.heap L ∧ CHr Z EL0 U.vm U.heap U'.vm U'.heap ∧ ReturnedEndW U o U' L ({ frames := 4, cells := 6, slots := 12, locals := 66 } : Room).cells ({ frames := 4, cells := 6, slots := 12, locals := 66 } : Room).slots) := by
  refine MetFree.of_bodySF (plainFor_of_name pn3) hisR ?_
  intro p e s m args below meth c s₁ Bd hml0 hP hK
  obtain ⟨rfl, hZ, hh, hCH⟩ := hP
  have hx := Bd.exec
  have hby := Bd.bytes
  have hml : c.maxLocals = 2 := hml0
  have hown : s.vm.findClass "com/example/redress/redress/definition/StatementStripBlanksPinLaw" = some m.cls := findClass_of_methodNamed Bd.named
  have hnm := (name_of_methodNamed Bd.named Bd.method).1
  have X0 : Stand p l e ({ frames := 4, cells := 6, slots := 12, locals := 66 } : Room) (s.setVm s.vm) m #[(.int n), (.ref da)] below meth c s₁ [] 0 0 := Stand.of_body Bd
  have e0 : s₁.heap = h0 := by rw [← hh, Bd.state]; rfl
  have N0 := Fr.nil n0
  have K0 : Keep h0 h0 [] := Keep.refl _ _
  have pre0 : ∀ tgt, Steps p.tables e below (s₁.setTop (mkF m 0 #[.val (.int n), .val (.ref da)] [])) tgt → Steps p.tables e below (s₁.setTop (entryFrame m #[(.int n), (.ref da)] 2)) tgt := fun tgt kgo => castTop (ef_rmmk m n da) kgo
  have hS0 : s.Since s.vm 0 := (State.WarmedH.refl s).since 0
  have hk0 : 0 ≤ h0.size := Nat.zero_le _
  have CH0 : CHr Z EL0 s.vm h0 s.vm h0 := CHr.refl hCH
  have pre1 : ∀ tgt, Steps p.tables e below (s₁.setTop (mkF m 1 #[.val (.int n), .val (.ref da)] [(.int n)])) tgt → Steps p.tables e below (s₁.setTop (entryFrame m #[(.int n), (.ref da)] 2)) tgt := by
    intro tgt kgo
    refine pre0 _ ?_
    refine XS.iloadN X0.here hx rfl (hb hby d_method_5_code_0) rfl ?_
    show Steps p.tables e below (s₁.setTop (mkF m 1 #[.val (.int n), .val (.ref da)] [(.int n)])) _
    exact kgo
  by_cases hc1_2 : n = (0 : Int32)
  · obtain ⟨T3, h3, X3, e3, E3, A3, D3, U3, st3⟩ := newO X0 hx hZ hown (ow9 hw) (ow10 hw) (ow11 hw) e0 (g := (mkF m 4 #[.val (.int n), .val (.ref da)] [])) rfl (hb hby d_method_5_code_4) (by decide) (by decide)
    obtain ⟨b3, g3⟩ : ∃ z, z = h0.size := ⟨_, rfl⟩
    rw [← g3] at A3 D3 U3 st3
    have gn3 : n0 ≤ b3 := Nat.le_trans (own_sz O0) (Nat.le_of_eq g3.symm)
    have sz3 : h0.size ≤ b3 := Nat.le_trans K0.1 (Nat.le_of_eq g3.symm)
    have neda_3 : da ≠ b3 := Nat.ne_of_lt (Nat.lt_of_lt_of_le Ad.lt (Nat.le_of_eq g3.symm))
    have Y3 := Safe.ext E3 CH0.1 (Safe.new (x := b3) (Nat.le_of_eq g3.symm))
    have CH4 := CH0.trans (CHr.ext E3 CH0.1)
    have hk4 := Nat.le_trans hk0 E3.1
    have O5 := O0.ext E3
    have K5 := K0.ext E3
    have Fvalue_3 : Fld Z h3 b3 "java/lang/String" "value" "[B" .null := D3 (Or.inr (ow24 hw)) (ty := (.array .byte)) (by decide)
    have Fcoder_3 : Fld Z h3 b3 "java/lang/String" "coder" "B" (.int (0 : Int32)) := D3 (Or.inr (ow25 hw)) (ty := .byte) (by decide)
    have f6 := (Ad.ext E3)
    obtain ⟨T7, h7, k7, X7, e7, E7, A7, st7⟩ := newP (aty := .char) X3 hx hZ (ow1 hw) e3 (g := (mkF m 9 #[.val (.int n), .val (.ref da)] [(.int (0 : Int32)), (.ref b3), (.ref b3)])) rfl (hb hby d_method_5_code_9) rfl (by decide) (cap := 0) (by decide) (by decide) (by decide) (by decide)
    obtain ⟨b7, g7⟩ : ∃ z, z = h3.size := ⟨_, rfl⟩
    rw [← g7] at A7 st7
    have V7 : Arv Z h7 b7 k7 .char (0 : Int32) [] (.int (0 : Int32)) := Arv.new A7 (by decide)
    have gn7 : n0 ≤ b7 := Nat.le_trans (own_sz O5) (Nat.le_of_eq g7.symm)
    have sz7 : h0.size ≤ b7 := Nat.le_trans K5.1 (Nat.le_of_eq g7.symm)
    have neda_7 : da ≠ b7 := Nat.ne_of_lt (Nat.lt_of_lt_of_le f6.lt (Nat.le_of_eq g7.symm))
    have neb3_7 : b3 ≠ b7 := Nat.ne_of_lt (Nat.lt_of_lt_of_le A3.lt (Nat.le_of_eq g7.symm))
    have Y7 := Safe.ext E7 CH4.1 (Safe.new (x := b7) (Nat.le_of_eq g7.symm))
    have CH8 := CH4.trans (CHr.ext E7 CH4.1)
    have hk8 := Nat.le_trans hk4 E7.1
    have O9 := O5.ext E7
    have K9 := K5.ext E7
    have f10 := (A3.ext E7)
    have f11 := (Fvalue_3.ext E7)
    have f12 := (Fcoder_3.ext E7)
    obtain ⟨_, _, ⟨T13, L13, k13, n13⟩, -, Xr13, hSr13, hgr13, ⟨Lc13, hQ13, l13, y13, z13, CR13⟩, st13⟩ := X7.specialBackS hx (y := (⟨"java/lang/String", "<init>", "([C)V"⟩ : MethodName)) rfl hown (mvT hZ (ow12 hw)) (mvT hZ (ow13 hw)) (mvT hZ (ow14 hw)) (by decide) (backOfSH (W := 1) (rme1 l Z a0 hw [] b3 b7 k7  h7 n0 O9 f10 f11 f12 gn3 V7) hZ (ow14 hw) (ow11 hw) (by decide) (by decide) (own_EW hw) CH8.1) (g := (mkF m 11 #[.val (.int n), .val (.ref da)] [(.ref b7), (.ref b3), (.ref b3)])) rfl (by rw [hml]; rfl) (Steps.refl _) (a := b3) (argsL := [(.ref b7)]) (rest := [(.ref b3)]) (lenOf pd2 rfl) rfl (by show 2 * 0 + _ ≤ _; exact Nat.le_of_eq rfl) (hb hby d_method_5_code_11) (fun _ _ => ⟨rfl, e7, (by decide : 2 + 4 ≤ _), (by decide : 4 + 8 ≤ _)⟩)
    dsimp only [Pt.U, Pt.locs, Pt.cells, Pt.slots] at Xr13 hSr13 hgr13 l13 y13 z13 CR13 st13 hQ13
    subst l13 y13 z13
    obtain ⟨X13, hS13, hZ13, hown13⟩ := rebS hS0 (by rw [e7]; exact hk8) Xr13 hSr13 hgr13 hZ hown
    have hk13 : T13.heap.size ≤ T13.heap.size := Nat.le_refl _
    obtain ⟨rfl, Nq13, kp13, Sp13⟩ := hQ13
    have N14 := Fr.app N0 Nq13
    have CH15 := CH8.trans CR13
    have O16 := O9.keep kp13 (allS gn3 all0)
    have K16 := K9.trans kp13 (allS (Or.inr sz3) all0)
    obtain ⟨fs, hretL, hrun, hended, hEnd⟩ := Stand.leaveW X13 hS13 hk13 (v := some (.ref b3)) (fun h => by rw [Bd.returns] at h; cases h)
    have hCf : CHr Z EL0 s.vm s.heap T13.vm T13.heap := by rw [hh]; exact CH15.trans (CHv.at X13 hZ13 (own_EW hw) CH15.1)
    refine ⟨_, _, pre1 _ ?_, hrun, hended, _, _, rfl, ?_, hCf, hEnd.1, hEnd.2.1, hEnd.2.2.1, hEnd.2.2.2.mono (by decide) (by decide)⟩
    · refine XS.ifNo X0.here hx rfl (hb hby d_method_5_code_1) rfl ((if0 _ _).trans (teq hc1_2).2) ?_
      show Steps p.tables e below (s₁.setTop (mkF m 4 #[.val (.int n), .val (.ref da)] [])) _
      refine st3 _ ?_
      show Steps p.tables e below (T3.setTop (mkF m 7 #[.val (.int n), .val (.ref da)] [(.ref b3)])) _
      refine XS.dup X3.here hx rfl (hb hby d_method_5_code_7) rfl rfl ?_
      show Steps p.tables e below (T3.setTop (mkF m 8 #[.val (.int n), .val (.ref da)] [(.ref b3), (.ref b3)])) _
      refine XS.iconst X3.here hx rfl (hb hby d_method_5_code_8) ?_
      show Steps p.tables e below (T3.setTop (mkF m 9 #[.val (.int n), .val (.ref da)] [(.int (0 : Int32)), (.ref b3), (.ref b3)])) _
      refine st7 _ ?_
      show Steps p.tables e below (T7.setTop (mkF m 11 #[.val (.int n), .val (.ref da)] [(.ref b7), (.ref b3), (.ref b3)])) _
      refine st13.trans ?_
      show Steps p.tables e below (T13.setTop (mkF m 14 #[.val (.int n), .val (.ref da)] [(.ref b3)])) _
      exact retOut X13 hx Bd.returns rfl (Or.inr (Or.inr (Or.inr (Or.inr ⟨rfl, rfl, rfl⟩)))) (hb hby d_method_5_code_14) hretL
    · show Q_rmmk Z n da kd d0 d1 d2 d3 G1 h0 n0 _ T13.heap _
      refine ⟨_, rfl, N14, K16, gn3, ?_⟩
      simp only [mkl, if_pos hc1_2]
      exact Sp13
  · have pre17 : ∀ tgt, Steps p.tables e below (s₁.setTop (mkF m 17 #[.val (.int n), .val (.ref da)] [(.int (1 : Int32)), (.int n)])) tgt → Steps p.tables e below (s₁.setTop (entryFrame m #[(.int n), (.ref da)] 2)) tgt := by
      intro tgt kgo
      refine pre1 _ ?_
      refine XS.ifYes X0.here hx rfl (pc0 := 1) (pc' := 15) rfl (hb hby d_method_5_code_1) rfl ((if0 _ _).trans (feq hc1_2).2) (by decide) (by decide) ?_
      show Steps p.tables e below (s₁.setTop (mkF m 15 #[.val (.int n), .val (.ref da)] [])) _
      refine XS.iloadN X0.here hx rfl (hb hby d_method_5_code_15) rfl ?_
      show Steps p.tables e below (s₁.setTop (mkF m 16 #[.val (.int n), .val (.ref da)] [(.int n)])) _
      refine XS.iconst X0.here hx rfl (hb hby d_method_5_code_16) ?_
      show Steps p.tables e below (s₁.setTop (mkF m 17 #[.val (.int n), .val (.ref da)] [(.int (1 : Int32)), (.int n)])) _
      exact kgo
    by_cases hc17_18 : n = (1 : Int32)
    · obtain ⟨T19, h19, X19, e19, E19, A19, D19, U19, st19⟩ := newO X0 hx hZ hown (ow9 hw) (ow10 hw) (ow11 hw) e0 (g := (mkF m 20 #[.val (.int n), .val (.ref da)] [])) rfl (hb hby d_method_5_code_20) (by decide) (by decide)
      obtain ⟨b19, g19⟩ : ∃ z, z = h0.size := ⟨_, rfl⟩
      rw [← g19] at A19 D19 U19 st19
      have gn19 : n0 ≤ b19 := Nat.le_trans (own_sz O0) (Nat.le_of_eq g19.symm)
      have sz19 : h0.size ≤ b19 := Nat.le_trans K0.1 (Nat.le_of_eq g19.symm)
      have neda_19 : da ≠ b19 := Nat.ne_of_lt (Nat.lt_of_lt_of_le Ad.lt (Nat.le_of_eq g19.symm))
      have Y19 := Safe.ext E19 CH0.1 (Safe.new (x := b19) (Nat.le_of_eq g19.symm))
      have CH20 := CH0.trans (CHr.ext E19 CH0.1)
      have hk20 := Nat.le_trans hk0 E19.1
      have O21 := O0.ext E19
      have K21 := K0.ext E19
      have Fvalue_19 : Fld Z h19 b19 "java/lang/String" "value" "[B" .null := D19 (Or.inr (ow24 hw)) (ty := (.array .byte)) (by decide)
      have Fcoder_19 : Fld Z h19 b19 "java/lang/String" "coder" "B" (.int (0 : Int32)) := D19 (Or.inr (ow25 hw)) (ty := .byte) (by decide)
      have f22 := (Ad.ext E19)
      obtain ⟨T23, h23, k23, X23, e23, E23, A23, st23⟩ := newP (aty := .char) X19 hx hZ (ow1 hw) e19 (g := (mkF m 25 #[.val (.int n), .val (.ref da)] [(.int (1 : Int32)), (.ref b19), (.ref b19)])) rfl (hb hby d_method_5_code_25) rfl (by decide) (cap := 1) (by decide) (by decide) (by decide) (by decide)
      obtain ⟨b23, g23⟩ : ∃ z, z = h19.size := ⟨_, rfl⟩
      rw [← g23] at A23 st23
      have V23 : Arv Z h23 b23 k23 .char (1 : Int32) [(.int (0 : Int32))] (.int (0 : Int32)) := (Arv.new A23 (by decide)).pad (pad_rep [] (.int (0 : Int32)) 1)
      have gn23 : n0 ≤ b23 := Nat.le_trans (own_sz O21) (Nat.le_of_eq g23.symm)
      have sz23 : h0.size ≤ b23 := Nat.le_trans K21.1 (Nat.le_of_eq g23.symm)
      have neda_23 : da ≠ b23 := Nat.ne_of_lt (Nat.lt_of_lt_of_le f22.lt (Nat.le_of_eq g23.symm))
      have neb19_23 : b19 ≠ b23 := Nat.ne_of_lt (Nat.lt_of_lt_of_le A19.lt (Nat.le_of_eq g23.symm))
      have Y23 := Safe.ext E23 CH20.1 (Safe.new (x := b23) (Nat.le_of_eq g23.symm))
      have CH24 := CH20.trans (CHr.ext E23 CH20.1)
      have hk24 := Nat.le_trans hk20 E23.1
      have O25 := O21.ext E23
      have K25 := K21.ext E23
      have f27 := (f22.ext E23)
      obtain ⟨cl26, Ar26, q26, S26, M26, H26, G26⟩ := id f27
      have hin26 : ¬ ((0 : Int32) < 0 ∨ cl26.slots.size ≤ ((0 : Int32)).toNatClampNeg) := inb_of S26 ⟨by decide, by decide⟩
      have hat26 : cl26.slots[((0 : Int32)).toNatClampNeg]? = some (.int d0) := H26.at hin26 rfl
      obtain ⟨cl28, Ar28, q28, S28, M28, H28, G28⟩ := id V23
      have hin28 : ¬ ((0 : Int32) < 0 ∨ cl28.slots.size ≤ ((0 : Int32)).toNatClampNeg) := inb_of S28 ⟨by decide, by decide⟩
      obtain ⟨T29, h29, X29, e29, W29, st29⟩ := stC X23 hx hZ e23 Ar28 (j := (0 : Int32)) hin28 (g := (mkF m 32 #[.val (.int n), .val (.ref da)] [(.int d0), (.int (0 : Int32)), (.ref b23), (.ref b23), (.ref b19), (.ref b19)])) rfl rfl (hb hby d_method_5_code_32)
      have V29 : Arv Z h29 b23 k23 .char (1 : Int32) [(.int (nar .char d0))] (.int (0 : Int32)) := Arv.set Ar28 q28 S28 M28 H28 G28 (fits_nar_char _) W29 0 rfl (Nat.le_of_ble_eq_true rfl)
      have CH30 := CH24.trans (CHr.wr W29 Y23 CH24.1)
      have hk30 := Nat.le_trans hk24 (Keep.of_wr W29).1
      have N31 := Fr.snoc X29 N0 gn23
      have O31 := O25.wr W29 gn23
      have K31 := K25.wr W29 (Or.inr sz23)
      have f32 := ((A19.ext E23).wr W29)
      have f33 := ((Fvalue_19.ext E23).other W29 (Or.inl neb19_23))
      have f34 := ((Fcoder_19.ext E23).other W29 (Or.inl neb19_23))
      obtain ⟨_, _, ⟨T35, L35, k35, n35⟩, -, X35, ⟨Lc35, hQ35, l35, y35, z35⟩, st35⟩ := X29.specialBack hx (y := (⟨"java/lang/String", "<init>", "([C)V"⟩ : MethodName)) rfl hown (mvT hZ (ow12 hw)) (mvT hZ (ow13 hw)) (mvT hZ (ow14 hw)) (by decide) (StrChars.Road.backV (W := 1) hZ (own_ws hw) (kI := 4) (ow10 hw) (cs := ([nar .char d0] : List Int32)) (bs := ([nar .char d0] : List Int32).map (fun c => c.toInt8.toInt32)) (n := 1) gn19 (own_sz O31) f32 f33 f34 V29 (O2.ext O31.2) P5 rfl rfl (by decide) (by decide) (own_hp1 hd0) rfl (by decide) (by decide)) (g := (mkF m 33 #[.val (.int n), .val (.ref da)] [(.ref b23), (.ref b19), (.ref b19)])) rfl (by rw [hml]; rfl) (Steps.refl _) (a := b19) (argsL := [(.ref b23)]) (rest := [(.ref b19)]) (lenOf pd2 rfl) rfl (by show 2 * 0 + _ ≤ _; exact Nat.le_of_eq rfl) (hb hby d_method_5_code_33) (fun _ _ => ⟨rfl, e29, (by decide : 2 + 1 ≤ _), (by decide : 5 + 1 ≤ _)⟩)
      dsimp only [Pt.U, Pt.locs, Pt.cells, Pt.slots] at X35 l35 y35 z35 st35 hQ35
      subst l35 y35 z35
      obtain ⟨rfl, Nq35, kp35, sE35, sC35, t35, k35_, -, -, -, sV35, sA35⟩ := hQ35
      have sp35 : StrP Z _ b19 [nar .char d0] := ⟨sE35, sC35, (own_hp1 hd0), (Nat.le_of_ble_eq_true rfl), t35, k35_, sV35, sA35⟩
      simp only [own_nc hd0] at sp35
      have N36 := Fr.app N31 Nq35
      have f37 := (Safe.wr W29 Y23 CH24.1 (Safe.ext E23 CH20.1 Y19))
      have CH38 := CH30.trans (CHr.keep kp35 (sfS f37 sf0) CH30.1)
      have hk38 := Nat.le_trans hk30 kp35.1
      have O39 := O31.keep kp35 (allS gn19 all0)
      have K39 := K31.trans kp35 (allS (Or.inr sz19) all0)
      obtain ⟨fs, hretL, hrun, hended, hEnd⟩ := Stand.leaveW X35 hS0 hk38 (v := some (.ref b19)) (fun h => by rw [Bd.returns] at h; cases h)
      have hCf : CHr Z EL0 s.vm s.heap T35.vm T35.heap := by rw [hh]; exact CH38.trans (CHv.at X35 hZ (own_EW hw) CH38.1)
      refine ⟨_, _, pre17 _ ?_, hrun, hended, _, _, rfl, ?_, hCf, hEnd.1, hEnd.2.1, hEnd.2.2.1, hEnd.2.2.2.mono (by decide) (by decide)⟩
      · refine XS.icmpNo X0.here hx rfl (hb hby d_method_5_code_17) rfl (teq hc17_18).2 ?_
        show Steps p.tables e below (s₁.setTop (mkF m 20 #[.val (.int n), .val (.ref da)] [])) _
        refine st19 _ ?_
        show Steps p.tables e below (T19.setTop (mkF m 23 #[.val (.int n), .val (.ref da)] [(.ref b19)])) _
        refine XS.dup X19.here hx rfl (hb hby d_method_5_code_23) rfl rfl ?_
        show Steps p.tables e below (T19.setTop (mkF m 24 #[.val (.int n), .val (.ref da)] [(.ref b19), (.ref b19)])) _
        refine XS.iconst X19.here hx rfl (hb hby d_method_5_code_24) ?_
        show Steps p.tables e below (T19.setTop (mkF m 25 #[.val (.int n), .val (.ref da)] [(.int (1 : Int32)), (.ref b19), (.ref b19)])) _
        refine st23 _ ?_
        show Steps p.tables e below (T23.setTop (mkF m 27 #[.val (.int n), .val (.ref da)] [(.ref b23), (.ref b19), (.ref b19)])) _
        refine XS.dup X23.here hx rfl (hb hby d_method_5_code_27) rfl rfl ?_
        show Steps p.tables e below (T23.setTop (mkF m 28 #[.val (.int n), .val (.ref da)] [(.ref b23), (.ref b23), (.ref b19), (.ref b19)])) _
        refine XS.iconst X23.here hx rfl (hb hby d_method_5_code_28) ?_
        show Steps p.tables e below (T23.setTop (mkF m 29 #[.val (.int n), .val (.ref da)] [(.int (0 : Int32)), (.ref b23), (.ref b23), (.ref b19), (.ref b19)])) _
        refine XS.aloadN X23.here hx rfl (hb hby d_method_5_code_29) rfl rfl ?_
        show Steps p.tables e below (T23.setTop (mkF m 30 #[.val (.int n), .val (.ref da)] [(.ref da), (.int (0 : Int32)), (.ref b23), (.ref b23), (.ref b19), (.ref b19)])) _
        refine XS.iconst X23.here hx rfl (hb hby d_method_5_code_30) ?_
        show Steps p.tables e below (T23.setTop (mkF m 31 #[.val (.int n), .val (.ref da)] [(.int (0 : Int32)), (.ref da), (.int (0 : Int32)), (.ref b23), (.ref b23), (.ref b19), (.ref b19)])) _
        refine X23.caload hx (j := (0 : Int32)) (v := (.int d0)) (by rw [e23]; exact Ar26.1) (State.isArrayOf_alike hZ.alike Ar26.2.1) Ar26.2.2 hin26 hat26 (g := (mkF m 31 #[.val (.int n), .val (.ref da)] [(.int (0 : Int32)), (.ref da), (.int (0 : Int32)), (.ref b23), (.ref b23), (.ref b19), (.ref b19)])) rfl rfl (hb hby d_method_5_code_31) _ ?_
        show Steps p.tables e below (T23.setTop (mkF m 32 #[.val (.int n), .val (.ref da)] [(.int d0), (.int (0 : Int32)), (.ref b23), (.ref b23), (.ref b19), (.ref b19)])) _
        refine st29 _ ?_
        show Steps p.tables e below (T29.setTop (mkF m 33 #[.val (.int n), .val (.ref da)] [(.ref b23), (.ref b19), (.ref b19)])) _
        refine st35.trans ?_
        show Steps p.tables e below (T35.setTop (mkF m 36 #[.val (.int n), .val (.ref da)] [(.ref b19)])) _
        exact retOut X35 hx Bd.returns rfl (Or.inr (Or.inr (Or.inr (Or.inr ⟨rfl, rfl, rfl⟩)))) (hb hby d_method_5_code_36) hretL
      · show Q_rmmk Z n da kd d0 d1 d2 d3 G1 h0 n0 _ T35.heap _
        refine ⟨_, rfl, N36, K39, gn19, ?_⟩
        simp only [mkl, if_neg hc1_2, if_pos hc17_18]
        exact sp35
    · have pre40 : ∀ tgt, Steps p.tables e below (s₁.setTop (mkF m 39 #[.val (.int n), .val (.ref da)] [(.int (2 : Int32)), (.int n)])) tgt → Steps p.tables e below (s₁.setTop (entryFrame m #[(.int n), (.ref da)] 2)) tgt := by
        intro tgt kgo
        refine pre17 _ ?_
        refine XS.icmpYes X0.here hx rfl (pc0 := 17) (pc' := 37) rfl (hb hby d_method_5_code_17) rfl (feq hc17_18).2 (by decide) (by decide) ?_
        show Steps p.tables e below (s₁.setTop (mkF m 37 #[.val (.int n), .val (.ref da)] [])) _
        refine XS.iloadN X0.here hx rfl (hb hby d_method_5_code_37) rfl ?_
        show Steps p.tables e below (s₁.setTop (mkF m 38 #[.val (.int n), .val (.ref da)] [(.int n)])) _
        refine XS.iconst X0.here hx rfl (hb hby d_method_5_code_38) ?_
        show Steps p.tables e below (s₁.setTop (mkF m 39 #[.val (.int n), .val (.ref da)] [(.int (2 : Int32)), (.int n)])) _
        exact kgo
      by_cases hc39_41 : n = (2 : Int32)
      · obtain ⟨T42, h42, X42, e42, E42, A42, D42, U42, st42⟩ := newO X0 hx hZ hown (ow9 hw) (ow10 hw) (ow11 hw) e0 (g := (mkF m 42 #[.val (.int n), .val (.ref da)] [])) rfl (hb hby d_method_5_code_42) (by decide) (by decide)
        obtain ⟨b42, g42⟩ : ∃ z, z = h0.size := ⟨_, rfl⟩
        rw [← g42] at A42 D42 U42 st42
        have gn42 : n0 ≤ b42 := Nat.le_trans (own_sz O0) (Nat.le_of_eq g42.symm)
        have sz42 : h0.size ≤ b42 := Nat.le_trans K0.1 (Nat.le_of_eq g42.symm)
        have neda_42 : da ≠ b42 := Nat.ne_of_lt (Nat.lt_of_lt_of_le Ad.lt (Nat.le_of_eq g42.symm))
        have Y42 := Safe.ext E42 CH0.1 (Safe.new (x := b42) (Nat.le_of_eq g42.symm))
        have CH43 := CH0.trans (CHr.ext E42 CH0.1)
        have hk43 := Nat.le_trans hk0 E42.1
        have O44 := O0.ext E42
        have K44 := K0.ext E42
        have Fvalue_42 : Fld Z h42 b42 "java/lang/String" "value" "[B" .null := D42 (Or.inr (ow24 hw)) (ty := (.array .byte)) (by decide)
        have Fcoder_42 : Fld Z h42 b42 "java/lang/String" "coder" "B" (.int (0 : Int32)) := D42 (Or.inr (ow25 hw)) (ty := .byte) (by decide)
        have f45 := (Ad.ext E42)
        obtain ⟨T46, h46, k46, X46, e46, E46, A46, st46⟩ := newP (aty := .char) X42 hx hZ (ow1 hw) e42 (g := (mkF m 47 #[.val (.int n), .val (.ref da)] [(.int (2 : Int32)), (.ref b42), (.ref b42)])) rfl (hb hby d_method_5_code_47) rfl (by decide) (cap := 2) (by decide) (by decide) (by decide) (by decide)
        obtain ⟨b46, g46⟩ : ∃ z, z = h42.size := ⟨_, rfl⟩
        rw [← g46] at A46 st46
        have V46 : Arv Z h46 b46 k46 .char (2 : Int32) [(.int (0 : Int32)), (.int (0 : Int32))] (.int (0 : Int32)) := (Arv.new A46 (by decide)).pad (pad_rep [] (.int (0 : Int32)) 2)
        have gn46 : n0 ≤ b46 := Nat.le_trans (own_sz O44) (Nat.le_of_eq g46.symm)
        have sz46 : h0.size ≤ b46 := Nat.le_trans K44.1 (Nat.le_of_eq g46.symm)
        have neda_46 : da ≠ b46 := Nat.ne_of_lt (Nat.lt_of_lt_of_le f45.lt (Nat.le_of_eq g46.symm))
        have neb42_46 : b42 ≠ b46 := Nat.ne_of_lt (Nat.lt_of_lt_of_le A42.lt (Nat.le_of_eq g46.symm))
        have Y46 := Safe.ext E46 CH43.1 (Safe.new (x := b46) (Nat.le_of_eq g46.symm))
        have CH47 := CH43.trans (CHr.ext E46 CH43.1)
        have hk47 := Nat.le_trans hk43 E46.1
        have O48 := O44.ext E46
        have K48 := K44.ext E46
        have f50 := (f45.ext E46)
        obtain ⟨cl49, Ar49, q49, S49, M49, H49, G49⟩ := id f50
        have hin49 : ¬ ((0 : Int32) < 0 ∨ cl49.slots.size ≤ ((0 : Int32)).toNatClampNeg) := inb_of S49 ⟨by decide, by decide⟩
        have hat49 : cl49.slots[((0 : Int32)).toNatClampNeg]? = some (.int d0) := H49.at hin49 rfl
        obtain ⟨cl51, Ar51, q51, S51, M51, H51, G51⟩ := id V46
        have hin51 : ¬ ((0 : Int32) < 0 ∨ cl51.slots.size ≤ ((0 : Int32)).toNatClampNeg) := inb_of S51 ⟨by decide, by decide⟩
        obtain ⟨T52, h52, X52, e52, W52, st52⟩ := stC X46 hx hZ e46 Ar51 (j := (0 : Int32)) hin51 (g := (mkF m 54 #[.val (.int n), .val (.ref da)] [(.int d0), (.int (0 : Int32)), (.ref b46), (.ref b46), (.ref b42), (.ref b42)])) rfl rfl (hb hby d_method_5_code_54)
        have V52 : Arv Z h52 b46 k46 .char (2 : Int32) [(.int (nar .char d0)), (.int (0 : Int32))] (.int (0 : Int32)) := Arv.set Ar51 q51 S51 M51 H51 G51 (fits_nar_char _) W52 0 rfl (Nat.le_of_ble_eq_true rfl)
        have CH53 := CH47.trans (CHr.wr W52 Y46 CH47.1)
        have hk53 := Nat.le_trans hk47 (Keep.of_wr W52).1
        have N54 := Fr.snoc X52 N0 gn46
        have O54 := O48.wr W52 gn46
        have K54 := K48.wr W52 (Or.inr sz46)
        have f56 := (f50.other W52 neda_46)
        obtain ⟨cl55, Ar55, q55, S55, M55, H55, G55⟩ := id f56
        have hin55 : ¬ ((1 : Int32) < 0 ∨ cl55.slots.size ≤ ((1 : Int32)).toNatClampNeg) := inb_of S55 ⟨by decide, by decide⟩
        have hat55 : cl55.slots[((1 : Int32)).toNatClampNeg]? = some (.int d1) := H55.at hin55 rfl
        obtain ⟨cl57, Ar57, q57, S57, M57, H57, G57⟩ := id V52
        have hin57 : ¬ ((1 : Int32) < 0 ∨ cl57.slots.size ≤ ((1 : Int32)).toNatClampNeg) := inb_of S57 ⟨by decide, by decide⟩
        obtain ⟨T58, h58, X58, e58, W58, st58⟩ := stC X52 hx hZ e52 Ar57 (j := (1 : Int32)) hin57 (g := (mkF m 60 #[.val (.int n), .val (.ref da)] [(.int d1), (.int (1 : Int32)), (.ref b46), (.ref b46), (.ref b42), (.ref b42)])) rfl rfl (hb hby d_method_5_code_60)
        have V58 : Arv Z h58 b46 k46 .char (2 : Int32) [(.int (nar .char d0)), (.int (nar .char d1))] (.int (0 : Int32)) := Arv.set Ar57 q57 S57 M57 H57 G57 (fits_nar_char _) W58 1 rfl (Nat.le_of_ble_eq_true rfl)
        have f59 := (Safe.wr W52 Y46 CH47.1 Y46)
        have CH60 := CH53.trans (CHr.wr W58 f59 CH53.1)
        have hk60 := Nat.le_trans hk53 (Keep.of_wr W58).1
        have N61 := Fr.snoc X58 N54 gn46
        have O61 := O54.wr W58 gn46
        have K61 := K54.wr W58 (Or.inr sz46)
        have f62 := (((A42.ext E46).wr W52).wr W58)
        have f63 := (((Fvalue_42.ext E46).other W52 (Or.inl neb42_46)).other W58 (Or.inl neb42_46))
        have f64 := (((Fcoder_42.ext E46).other W52 (Or.inl neb42_46)).other W58 (Or.inl neb42_46))
        obtain ⟨_, _, ⟨T65, L65, k65, n65⟩, -, X65, ⟨Lc65, hQ65, l65, y65, z65⟩, st65⟩ := X58.specialBack hx (y := (⟨"java/lang/String", "<init>", "([C)V"⟩ : MethodName)) rfl hown (mvT hZ (ow12 hw)) (mvT hZ (ow13 hw)) (mvT hZ (ow14 hw)) (by decide) (StrChars.Road.backV (W := 1) hZ (own_ws hw) (kI := 4) (ow10 hw) (cs := ([nar .char d0, nar .char d1] : List Int32)) (bs := ([nar .char d0, nar .char d1] : List Int32).map (fun c => c.toInt8.toInt32)) (n := 2) gn42 (own_sz O61) f62 f63 f64 V58 (O2.ext O61.2) P5 rfl rfl (by decide) (by decide) (own_hp2 hd0 hd1) rfl (by decide) (by decide)) (g := (mkF m 61 #[.val (.int n), .val (.ref da)] [(.ref b46), (.ref b42), (.ref b42)])) rfl (by rw [hml]; rfl) (Steps.refl _) (a := b42) (argsL := [(.ref b46)]) (rest := [(.ref b42)]) (lenOf pd2 rfl) rfl (by show 2 * 0 + _ ≤ _; exact Nat.le_of_eq rfl) (hb hby d_method_5_code_61) (fun _ _ => ⟨rfl, e58, (by decide : 2 + 1 ≤ _), (by decide : 6 + 2 ≤ _)⟩)
        dsimp only [Pt.U, Pt.locs, Pt.cells, Pt.slots] at X65 l65 y65 z65 st65 hQ65
        subst l65 y65 z65
        obtain ⟨rfl, Nq65, kp65, sE65, sC65, t65, k65_, -, -, -, sV65, sA65⟩ := hQ65
        have sp65 : StrP Z _ b42 [nar .char d0, nar .char d1] := ⟨sE65, sC65, (own_hp2 hd0 hd1), (Nat.le_of_ble_eq_true rfl), t65, k65_, sV65, sA65⟩
        simp only [own_nc hd0, own_nc hd1] at sp65
        have N66 := Fr.app N61 Nq65
        have f67 := (Safe.wr W58 f59 CH53.1 (Safe.wr W52 Y46 CH47.1 (Safe.ext E46 CH43.1 Y42)))
        have CH68 := CH60.trans (CHr.keep kp65 (sfS f67 sf0) CH60.1)
        have hk68 := Nat.le_trans hk60 kp65.1
        have O69 := O61.keep kp65 (allS gn42 all0)
        have K69 := K61.trans kp65 (allS (Or.inr sz42) all0)
        obtain ⟨fs, hretL, hrun, hended, hEnd⟩ := Stand.leaveW X65 hS0 hk68 (v := some (.ref b42)) (fun h => by rw [Bd.returns] at h; cases h)
        have hCf : CHr Z EL0 s.vm s.heap T65.vm T65.heap := by rw [hh]; exact CH68.trans (CHv.at X65 hZ (own_EW hw) CH68.1)
        refine ⟨_, _, pre40 _ ?_, hrun, hended, _, _, rfl, ?_, hCf, hEnd.1, hEnd.2.1, hEnd.2.2.1, hEnd.2.2.2.mono (by decide) (by decide)⟩
        · refine XS.icmpNo X0.here hx rfl (hb hby d_method_5_code_39) rfl (teq hc39_41).2 ?_
          show Steps p.tables e below (s₁.setTop (mkF m 42 #[.val (.int n), .val (.ref da)] [])) _
          refine st42 _ ?_
          show Steps p.tables e below (T42.setTop (mkF m 45 #[.val (.int n), .val (.ref da)] [(.ref b42)])) _
          refine XS.dup X42.here hx rfl (hb hby d_method_5_code_45) rfl rfl ?_
          show Steps p.tables e below (T42.setTop (mkF m 46 #[.val (.int n), .val (.ref da)] [(.ref b42), (.ref b42)])) _
          refine XS.iconst X42.here hx rfl (hb hby d_method_5_code_46) ?_
          show Steps p.tables e below (T42.setTop (mkF m 47 #[.val (.int n), .val (.ref da)] [(.int (2 : Int32)), (.ref b42), (.ref b42)])) _
          refine st46 _ ?_
          show Steps p.tables e below (T46.setTop (mkF m 49 #[.val (.int n), .val (.ref da)] [(.ref b46), (.ref b42), (.ref b42)])) _
          refine XS.dup X46.here hx rfl (hb hby d_method_5_code_49) rfl rfl ?_
          show Steps p.tables e below (T46.setTop (mkF m 50 #[.val (.int n), .val (.ref da)] [(.ref b46), (.ref b46), (.ref b42), (.ref b42)])) _
          refine XS.iconst X46.here hx rfl (hb hby d_method_5_code_50) ?_
          show Steps p.tables e below (T46.setTop (mkF m 51 #[.val (.int n), .val (.ref da)] [(.int (0 : Int32)), (.ref b46), (.ref b46), (.ref b42), (.ref b42)])) _
          refine XS.aloadN X46.here hx rfl (hb hby d_method_5_code_51) rfl rfl ?_
          show Steps p.tables e below (T46.setTop (mkF m 52 #[.val (.int n), .val (.ref da)] [(.ref da), (.int (0 : Int32)), (.ref b46), (.ref b46), (.ref b42), (.ref b42)])) _
          refine XS.iconst X46.here hx rfl (hb hby d_method_5_code_52) ?_
          show Steps p.tables e below (T46.setTop (mkF m 53 #[.val (.int n), .val (.ref da)] [(.int (0 : Int32)), (.ref da), (.int (0 : Int32)), (.ref b46), (.ref b46), (.ref b42), (.ref b42)])) _
          refine X46.caload hx (j := (0 : Int32)) (v := (.int d0)) (by rw [e46]; exact Ar49.1) (State.isArrayOf_alike hZ.alike Ar49.2.1) Ar49.2.2 hin49 hat49 (g := (mkF m 53 #[.val (.int n), .val (.ref da)] [(.int (0 : Int32)), (.ref da), (.int (0 : Int32)), (.ref b46), (.ref b46), (.ref b42), (.ref b42)])) rfl rfl (hb hby d_method_5_code_53) _ ?_
          show Steps p.tables e below (T46.setTop (mkF m 54 #[.val (.int n), .val (.ref da)] [(.int d0), (.int (0 : Int32)), (.ref b46), (.ref b46), (.ref b42), (.ref b42)])) _
          refine st52 _ ?_
          show Steps p.tables e below (T52.setTop (mkF m 55 #[.val (.int n), .val (.ref da)] [(.ref b46), (.ref b42), (.ref b42)])) _
          refine XS.dup X52.here hx rfl (hb hby d_method_5_code_55) rfl rfl ?_
          show Steps p.tables e below (T52.setTop (mkF m 56 #[.val (.int n), .val (.ref da)] [(.ref b46), (.ref b46), (.ref b42), (.ref b42)])) _
          refine XS.iconst X52.here hx rfl (hb hby d_method_5_code_56) ?_
          show Steps p.tables e below (T52.setTop (mkF m 57 #[.val (.int n), .val (.ref da)] [(.int (1 : Int32)), (.ref b46), (.ref b46), (.ref b42), (.ref b42)])) _
          refine XS.aloadN X52.here hx rfl (hb hby d_method_5_code_57) rfl rfl ?_
          show Steps p.tables e below (T52.setTop (mkF m 58 #[.val (.int n), .val (.ref da)] [(.ref da), (.int (1 : Int32)), (.ref b46), (.ref b46), (.ref b42), (.ref b42)])) _
          refine XS.iconst X52.here hx rfl (hb hby d_method_5_code_58) ?_
          show Steps p.tables e below (T52.setTop (mkF m 59 #[.val (.int n), .val (.ref da)] [(.int (1 : Int32)), (.ref da), (.int (1 : Int32)), (.ref b46), (.ref b46), (.ref b42), (.ref b42)])) _
          refine X52.caload hx (j := (1 : Int32)) (v := (.int d1)) (by rw [e52]; exact Ar55.1) (State.isArrayOf_alike hZ.alike Ar55.2.1) Ar55.2.2 hin55 hat55 (g := (mkF m 59 #[.val (.int n), .val (.ref da)] [(.int (1 : Int32)), (.ref da), (.int (1 : Int32)), (.ref b46), (.ref b46), (.ref b42), (.ref b42)])) rfl rfl (hb hby d_method_5_code_59) _ ?_
          show Steps p.tables e below (T52.setTop (mkF m 60 #[.val (.int n), .val (.ref da)] [(.int d1), (.int (1 : Int32)), (.ref b46), (.ref b46), (.ref b42), (.ref b42)])) _
          refine st58 _ ?_
          show Steps p.tables e below (T58.setTop (mkF m 61 #[.val (.int n), .val (.ref da)] [(.ref b46), (.ref b42), (.ref b42)])) _
          refine st65.trans ?_
          show Steps p.tables e below (T65.setTop (mkF m 64 #[.val (.int n), .val (.ref da)] [(.ref b42)])) _
          exact retOut X65 hx Bd.returns rfl (Or.inr (Or.inr (Or.inr (Or.inr ⟨rfl, rfl, rfl⟩)))) (hb hby d_method_5_code_64) hretL
        · show Q_rmmk Z n da kd d0 d1 d2 d3 G1 h0 n0 _ T65.heap _
          refine ⟨_, rfl, N66, K69, gn42, ?_⟩
          simp only [mkl, if_neg hc1_2, if_neg hc17_18, if_pos hc39_41]
          exact sp65
      · have pre70 : ∀ tgt, Steps p.tables e below (s₁.setTop (mkF m 67 #[.val (.int n), .val (.ref da)] [(.int (3 : Int32)), (.int n)])) tgt → Steps p.tables e below (s₁.setTop (entryFrame m #[(.int n), (.ref da)] 2)) tgt := by
          intro tgt kgo
          refine pre40 _ ?_
          refine XS.icmpYes X0.here hx rfl (pc0 := 39) (pc' := 65) rfl (hb hby d_method_5_code_39) rfl (feq hc39_41).2 (by decide) (by decide) ?_
          show Steps p.tables e below (s₁.setTop (mkF m 65 #[.val (.int n), .val (.ref da)] [])) _
          refine XS.iloadN X0.here hx rfl (hb hby d_method_5_code_65) rfl ?_
          show Steps p.tables e below (s₁.setTop (mkF m 66 #[.val (.int n), .val (.ref da)] [(.int n)])) _
          refine XS.iconst X0.here hx rfl (hb hby d_method_5_code_66) ?_
          show Steps p.tables e below (s₁.setTop (mkF m 67 #[.val (.int n), .val (.ref da)] [(.int (3 : Int32)), (.int n)])) _
          exact kgo
        by_cases hc67_71 : n = (3 : Int32)
        · obtain ⟨T72, h72, X72, e72, E72, A72, D72, U72, st72⟩ := newO X0 hx hZ hown (ow9 hw) (ow10 hw) (ow11 hw) e0 (g := (mkF m 70 #[.val (.int n), .val (.ref da)] [])) rfl (hb hby d_method_5_code_70) (by decide) (by decide)
          obtain ⟨b72, g72⟩ : ∃ z, z = h0.size := ⟨_, rfl⟩
          rw [← g72] at A72 D72 U72 st72
          have gn72 : n0 ≤ b72 := Nat.le_trans (own_sz O0) (Nat.le_of_eq g72.symm)
          have sz72 : h0.size ≤ b72 := Nat.le_trans K0.1 (Nat.le_of_eq g72.symm)
          have neda_72 : da ≠ b72 := Nat.ne_of_lt (Nat.lt_of_lt_of_le Ad.lt (Nat.le_of_eq g72.symm))
          have Y72 := Safe.ext E72 CH0.1 (Safe.new (x := b72) (Nat.le_of_eq g72.symm))
          have CH73 := CH0.trans (CHr.ext E72 CH0.1)
          have hk73 := Nat.le_trans hk0 E72.1
          have O74 := O0.ext E72
          have K74 := K0.ext E72
          have Fvalue_72 : Fld Z h72 b72 "java/lang/String" "value" "[B" .null := D72 (Or.inr (ow24 hw)) (ty := (.array .byte)) (by decide)
          have Fcoder_72 : Fld Z h72 b72 "java/lang/String" "coder" "B" (.int (0 : Int32)) := D72 (Or.inr (ow25 hw)) (ty := .byte) (by decide)
          have f75 := (Ad.ext E72)
          obtain ⟨T76, h76, k76, X76, e76, E76, A76, st76⟩ := newP (aty := .char) X72 hx hZ (ow1 hw) e72 (g := (mkF m 75 #[.val (.int n), .val (.ref da)] [(.int (3 : Int32)), (.ref b72), (.ref b72)])) rfl (hb hby d_method_5_code_75) rfl (by decide) (cap := 3) (by decide) (by decide) (by decide) (by decide)
          obtain ⟨b76, g76⟩ : ∃ z, z = h72.size := ⟨_, rfl⟩
          rw [← g76] at A76 st76
          have V76 : Arv Z h76 b76 k76 .char (3 : Int32) [(.int (0 : Int32)), (.int (0 : Int32)), (.int (0 : Int32))] (.int (0 : Int32)) := (Arv.new A76 (by decide)).pad (pad_rep [] (.int (0 : Int32)) 3)
          have gn76 : n0 ≤ b76 := Nat.le_trans (own_sz O74) (Nat.le_of_eq g76.symm)
          have sz76 : h0.size ≤ b76 := Nat.le_trans K74.1 (Nat.le_of_eq g76.symm)
          have neda_76 : da ≠ b76 := Nat.ne_of_lt (Nat.lt_of_lt_of_le f75.lt (Nat.le_of_eq g76.symm))
          have neb72_76 : b72 ≠ b76 := Nat.ne_of_lt (Nat.lt_of_lt_of_le A72.lt (Nat.le_of_eq g76.symm))
          have Y76 := Safe.ext E76 CH73.1 (Safe.new (x := b76) (Nat.le_of_eq g76.symm))
          have CH77 := CH73.trans (CHr.ext E76 CH73.1)
          have hk77 := Nat.le_trans hk73 E76.1
          have O78 := O74.ext E76
          have K78 := K74.ext E76
          have f80 := (f75.ext E76)
          obtain ⟨cl79, Ar79, q79, S79, M79, H79, G79⟩ := id f80
          have hin79 : ¬ ((0 : Int32) < 0 ∨ cl79.slots.size ≤ ((0 : Int32)).toNatClampNeg) := inb_of S79 ⟨by decide, by decide⟩
          have hat79 : cl79.slots[((0 : Int32)).toNatClampNeg]? = some (.int d0) := H79.at hin79 rfl
          obtain ⟨cl81, Ar81, q81, S81, M81, H81, G81⟩ := id V76
          have hin81 : ¬ ((0 : Int32) < 0 ∨ cl81.slots.size ≤ ((0 : Int32)).toNatClampNeg) := inb_of S81 ⟨by decide, by decide⟩
          obtain ⟨T82, h82, X82, e82, W82, st82⟩ := stC X76 hx hZ e76 Ar81 (j := (0 : Int32)) hin81 (g := (mkF m 82 #[.val (.int n), .val (.ref da)] [(.int d0), (.int (0 : Int32)), (.ref b76), (.ref b76), (.ref b72), (.ref b72)])) rfl rfl (hb hby d_method_5_code_82)
          have V82 : Arv Z h82 b76 k76 .char (3 : Int32) [(.int (nar .char d0)), (.int (0 : Int32)), (.int (0 : Int32))] (.int (0 : Int32)) := Arv.set Ar81 q81 S81 M81 H81 G81 (fits_nar_char _) W82 0 rfl (Nat.le_of_ble_eq_true rfl)
          have CH83 := CH77.trans (CHr.wr W82 Y76 CH77.1)
          have hk83 := Nat.le_trans hk77 (Keep.of_wr W82).1
          have N84 := Fr.snoc X82 N0 gn76
          have O84 := O78.wr W82 gn76
          have K84 := K78.wr W82 (Or.inr sz76)
          have f86 := (f80.other W82 neda_76)
          obtain ⟨cl85, Ar85, q85, S85, M85, H85, G85⟩ := id f86
          have hin85 : ¬ ((1 : Int32) < 0 ∨ cl85.slots.size ≤ ((1 : Int32)).toNatClampNeg) := inb_of S85 ⟨by decide, by decide⟩
          have hat85 : cl85.slots[((1 : Int32)).toNatClampNeg]? = some (.int d1) := H85.at hin85 rfl
          obtain ⟨cl87, Ar87, q87, S87, M87, H87, G87⟩ := id V82
          have hin87 : ¬ ((1 : Int32) < 0 ∨ cl87.slots.size ≤ ((1 : Int32)).toNatClampNeg) := inb_of S87 ⟨by decide, by decide⟩
          obtain ⟨T88, h88, X88, e88, W88, st88⟩ := stC X82 hx hZ e82 Ar87 (j := (1 : Int32)) hin87 (g := (mkF m 88 #[.val (.int n), .val (.ref da)] [(.int d1), (.int (1 : Int32)), (.ref b76), (.ref b76), (.ref b72), (.ref b72)])) rfl rfl (hb hby d_method_5_code_88)
          have V88 : Arv Z h88 b76 k76 .char (3 : Int32) [(.int (nar .char d0)), (.int (nar .char d1)), (.int (0 : Int32))] (.int (0 : Int32)) := Arv.set Ar87 q87 S87 M87 H87 G87 (fits_nar_char _) W88 1 rfl (Nat.le_of_ble_eq_true rfl)
          have f89 := (Safe.wr W82 Y76 CH77.1 Y76)
          have CH90 := CH83.trans (CHr.wr W88 f89 CH83.1)
          have hk90 := Nat.le_trans hk83 (Keep.of_wr W88).1
          have N91 := Fr.snoc X88 N84 gn76
          have O91 := O84.wr W88 gn76
          have K91 := K84.wr W88 (Or.inr sz76)
          have f93 := (f86.other W88 neda_76)
          obtain ⟨cl92, Ar92, q92, S92, M92, H92, G92⟩ := id f93
          have hin92 : ¬ ((2 : Int32) < 0 ∨ cl92.slots.size ≤ ((2 : Int32)).toNatClampNeg) := inb_of S92 ⟨by decide, by decide⟩
          have hat92 : cl92.slots[((2 : Int32)).toNatClampNeg]? = some (.int d2) := H92.at hin92 rfl
          obtain ⟨cl94, Ar94, q94, S94, M94, H94, G94⟩ := id V88
          have hin94 : ¬ ((2 : Int32) < 0 ∨ cl94.slots.size ≤ ((2 : Int32)).toNatClampNeg) := inb_of S94 ⟨by decide, by decide⟩
          obtain ⟨T95, h95, X95, e95, W95, st95⟩ := stC X88 hx hZ e88 Ar94 (j := (2 : Int32)) hin94 (g := (mkF m 94 #[.val (.int n), .val (.ref da)] [(.int d2), (.int (2 : Int32)), (.ref b76), (.ref b76), (.ref b72), (.ref b72)])) rfl rfl (hb hby d_method_5_code_94)
          have V95 : Arv Z h95 b76 k76 .char (3 : Int32) [(.int (nar .char d0)), (.int (nar .char d1)), (.int (nar .char d2))] (.int (0 : Int32)) := Arv.set Ar94 q94 S94 M94 H94 G94 (fits_nar_char _) W95 2 rfl (Nat.le_of_ble_eq_true rfl)
          have f96 := (Safe.wr W88 f89 CH83.1 f89)
          have CH97 := CH90.trans (CHr.wr W95 f96 CH90.1)
          have hk97 := Nat.le_trans hk90 (Keep.of_wr W95).1
          have N98 := Fr.snoc X95 N91 gn76
          have O98 := O91.wr W95 gn76
          have K98 := K91.wr W95 (Or.inr sz76)
          have f99 := ((((A72.ext E76).wr W82).wr W88).wr W95)
          have f100 := ((((Fvalue_72.ext E76).other W82 (Or.inl neb72_76)).other W88 (Or.inl neb72_76)).other W95 (Or.inl neb72_76))
          have f101 := ((((Fcoder_72.ext E76).other W82 (Or.inl neb72_76)).other W88 (Or.inl neb72_76)).other W95 (Or.inl neb72_76))
          obtain ⟨_, _, ⟨T102, L102, k102, n102⟩, -, X102, ⟨Lc102, hQ102, l102, y102, z102⟩, st102⟩ := X95.specialBack hx (y := (⟨"java/lang/String", "<init>", "([C)V"⟩ : MethodName)) rfl hown (mvT hZ (ow12 hw)) (mvT hZ (ow13 hw)) (mvT hZ (ow14 hw)) (by decide) (StrChars.Road.backV (W := 1) hZ (own_ws hw) (kI := 4) (ow10 hw) (cs := ([nar .char d0, nar .char d1, nar .char d2] : List Int32)) (bs := ([nar .char d0, nar .char d1, nar .char d2] : List Int32).map (fun c => c.toInt8.toInt32)) (n := 3) gn72 (own_sz O98) f99 f100 f101 V95 (O2.ext O98.2) P5 rfl rfl (by decide) (by decide) (own_hp3 hd0 hd1 hd2) rfl (by decide) (by decide)) (g := (mkF m 95 #[.val (.int n), .val (.ref da)] [(.ref b76), (.ref b72), (.ref b72)])) rfl (by rw [hml]; rfl) (Steps.refl _) (a := b72) (argsL := [(.ref b76)]) (rest := [(.ref b72)]) (lenOf pd2 rfl) rfl (by show 2 * 0 + _ ≤ _; exact Nat.le_of_eq rfl) (hb hby d_method_5_code_95) (fun _ _ => ⟨rfl, e95, (by decide : 2 + 1 ≤ _), (by decide : 7 + 3 ≤ _)⟩)
          dsimp only [Pt.U, Pt.locs, Pt.cells, Pt.slots] at X102 l102 y102 z102 st102 hQ102
          subst l102 y102 z102
          obtain ⟨rfl, Nq102, kp102, sE102, sC102, t102, k102_, -, -, -, sV102, sA102⟩ := hQ102
          have sp102 : StrP Z _ b72 [nar .char d0, nar .char d1, nar .char d2] := ⟨sE102, sC102, (own_hp3 hd0 hd1 hd2), (Nat.le_of_ble_eq_true rfl), t102, k102_, sV102, sA102⟩
          simp only [own_nc hd0, own_nc hd1, own_nc hd2] at sp102
          have N103 := Fr.app N98 Nq102
          have f104 := (Safe.wr W95 f96 CH90.1 (Safe.wr W88 f89 CH83.1 (Safe.wr W82 Y76 CH77.1 (Safe.ext E76 CH73.1 Y72))))
          have CH105 := CH97.trans (CHr.keep kp102 (sfS f104 sf0) CH97.1)
          have hk105 := Nat.le_trans hk97 kp102.1
          have O106 := O98.keep kp102 (allS gn72 all0)
          have K106 := K98.trans kp102 (allS (Or.inr sz72) all0)
          obtain ⟨fs, hretL, hrun, hended, hEnd⟩ := Stand.leaveW X102 hS0 hk105 (v := some (.ref b72)) (fun h => by rw [Bd.returns] at h; cases h)
          have hCf : CHr Z EL0 s.vm s.heap T102.vm T102.heap := by rw [hh]; exact CH105.trans (CHv.at X102 hZ (own_EW hw) CH105.1)
          refine ⟨_, _, pre70 _ ?_, hrun, hended, _, _, rfl, ?_, hCf, hEnd.1, hEnd.2.1, hEnd.2.2.1, hEnd.2.2.2.mono (by decide) (by decide)⟩
          · refine XS.icmpNo X0.here hx rfl (hb hby d_method_5_code_67) rfl (teq hc67_71).2 ?_
            show Steps p.tables e below (s₁.setTop (mkF m 70 #[.val (.int n), .val (.ref da)] [])) _
            refine st72 _ ?_
            show Steps p.tables e below (T72.setTop (mkF m 73 #[.val (.int n), .val (.ref da)] [(.ref b72)])) _
            refine XS.dup X72.here hx rfl (hb hby d_method_5_code_73) rfl rfl ?_
            show Steps p.tables e below (T72.setTop (mkF m 74 #[.val (.int n), .val (.ref da)] [(.ref b72), (.ref b72)])) _
            refine XS.iconst X72.here hx rfl (hb hby d_method_5_code_74) ?_
            show Steps p.tables e below (T72.setTop (mkF m 75 #[.val (.int n), .val (.ref da)] [(.int (3 : Int32)), (.ref b72), (.ref b72)])) _
            refine st76 _ ?_
            show Steps p.tables e below (T76.setTop (mkF m 77 #[.val (.int n), .val (.ref da)] [(.ref b76), (.ref b72), (.ref b72)])) _
            refine XS.dup X76.here hx rfl (hb hby d_method_5_code_77) rfl rfl ?_
            show Steps p.tables e below (T76.setTop (mkF m 78 #[.val (.int n), .val (.ref da)] [(.ref b76), (.ref b76), (.ref b72), (.ref b72)])) _
            refine XS.iconst X76.here hx rfl (hb hby d_method_5_code_78) ?_
            show Steps p.tables e below (T76.setTop (mkF m 79 #[.val (.int n), .val (.ref da)] [(.int (0 : Int32)), (.ref b76), (.ref b76), (.ref b72), (.ref b72)])) _
            refine XS.aloadN X76.here hx rfl (hb hby d_method_5_code_79) rfl rfl ?_
            show Steps p.tables e below (T76.setTop (mkF m 80 #[.val (.int n), .val (.ref da)] [(.ref da), (.int (0 : Int32)), (.ref b76), (.ref b76), (.ref b72), (.ref b72)])) _
            refine XS.iconst X76.here hx rfl (hb hby d_method_5_code_80) ?_
            show Steps p.tables e below (T76.setTop (mkF m 81 #[.val (.int n), .val (.ref da)] [(.int (0 : Int32)), (.ref da), (.int (0 : Int32)), (.ref b76), (.ref b76), (.ref b72), (.ref b72)])) _
            refine X76.caload hx (j := (0 : Int32)) (v := (.int d0)) (by rw [e76]; exact Ar79.1) (State.isArrayOf_alike hZ.alike Ar79.2.1) Ar79.2.2 hin79 hat79 (g := (mkF m 81 #[.val (.int n), .val (.ref da)] [(.int (0 : Int32)), (.ref da), (.int (0 : Int32)), (.ref b76), (.ref b76), (.ref b72), (.ref b72)])) rfl rfl (hb hby d_method_5_code_81) _ ?_
            show Steps p.tables e below (T76.setTop (mkF m 82 #[.val (.int n), .val (.ref da)] [(.int d0), (.int (0 : Int32)), (.ref b76), (.ref b76), (.ref b72), (.ref b72)])) _
            refine st82 _ ?_
            show Steps p.tables e below (T82.setTop (mkF m 83 #[.val (.int n), .val (.ref da)] [(.ref b76), (.ref b72), (.ref b72)])) _
            refine XS.dup X82.here hx rfl (hb hby d_method_5_code_83) rfl rfl ?_
            show Steps p.tables e below (T82.setTop (mkF m 84 #[.val (.int n), .val (.ref da)] [(.ref b76), (.ref b76), (.ref b72), (.ref b72)])) _
            refine XS.iconst X82.here hx rfl (hb hby d_method_5_code_84) ?_
            show Steps p.tables e below (T82.setTop (mkF m 85 #[.val (.int n), .val (.ref da)] [(.int (1 : Int32)), (.ref b76), (.ref b76), (.ref b72), (.ref b72)])) _
            refine XS.aloadN X82.here hx rfl (hb hby d_method_5_code_85) rfl rfl ?_
            show Steps p.tables e below (T82.setTop (mkF m 86 #[.val (.int n), .val (.ref da)] [(.ref da), (.int (1 : Int32)), (.ref b76), (.ref b76), (.ref b72), (.ref b72)])) _
            refine XS.iconst X82.here hx rfl (hb hby d_method_5_code_86) ?_
            show Steps p.tables e below (T82.setTop (mkF m 87 #[.val (.int n), .val (.ref da)] [(.int (1 : Int32)), (.ref da), (.int (1 : Int32)), (.ref b76), (.ref b76), (.ref b72), (.ref b72)])) _
            refine X82.caload hx (j := (1 : Int32)) (v := (.int d1)) (by rw [e82]; exact Ar85.1) (State.isArrayOf_alike hZ.alike Ar85.2.1) Ar85.2.2 hin85 hat85 (g := (mkF m 87 #[.val (.int n), .val (.ref da)] [(.int (1 : Int32)), (.ref da), (.int (1 : Int32)), (.ref b76), (.ref b76), (.ref b72), (.ref b72)])) rfl rfl (hb hby d_method_5_code_87) _ ?_
            show Steps p.tables e below (T82.setTop (mkF m 88 #[.val (.int n), .val (.ref da)] [(.int d1), (.int (1 : Int32)), (.ref b76), (.ref b76), (.ref b72), (.ref b72)])) _
            refine st88 _ ?_
            show Steps p.tables e below (T88.setTop (mkF m 89 #[.val (.int n), .val (.ref da)] [(.ref b76), (.ref b72), (.ref b72)])) _
            refine XS.dup X88.here hx rfl (hb hby d_method_5_code_89) rfl rfl ?_
            show Steps p.tables e below (T88.setTop (mkF m 90 #[.val (.int n), .val (.ref da)] [(.ref b76), (.ref b76), (.ref b72), (.ref b72)])) _
            refine XS.iconst X88.here hx rfl (hb hby d_method_5_code_90) ?_
            show Steps p.tables e below (T88.setTop (mkF m 91 #[.val (.int n), .val (.ref da)] [(.int (2 : Int32)), (.ref b76), (.ref b76), (.ref b72), (.ref b72)])) _
            refine XS.aloadN X88.here hx rfl (hb hby d_method_5_code_91) rfl rfl ?_
            show Steps p.tables e below (T88.setTop (mkF m 92 #[.val (.int n), .val (.ref da)] [(.ref da), (.int (2 : Int32)), (.ref b76), (.ref b76), (.ref b72), (.ref b72)])) _
            refine XS.iconst X88.here hx rfl (hb hby d_method_5_code_92) ?_
            show Steps p.tables e below (T88.setTop (mkF m 93 #[.val (.int n), .val (.ref da)] [(.int (2 : Int32)), (.ref da), (.int (2 : Int32)), (.ref b76), (.ref b76), (.ref b72), (.ref b72)])) _
            refine X88.caload hx (j := (2 : Int32)) (v := (.int d2)) (by rw [e88]; exact Ar92.1) (State.isArrayOf_alike hZ.alike Ar92.2.1) Ar92.2.2 hin92 hat92 (g := (mkF m 93 #[.val (.int n), .val (.ref da)] [(.int (2 : Int32)), (.ref da), (.int (2 : Int32)), (.ref b76), (.ref b76), (.ref b72), (.ref b72)])) rfl rfl (hb hby d_method_5_code_93) _ ?_
            show Steps p.tables e below (T88.setTop (mkF m 94 #[.val (.int n), .val (.ref da)] [(.int d2), (.int (2 : Int32)), (.ref b76), (.ref b76), (.ref b72), (.ref b72)])) _
            refine st95 _ ?_
            show Steps p.tables e below (T95.setTop (mkF m 95 #[.val (.int n), .val (.ref da)] [(.ref b76), (.ref b72), (.ref b72)])) _
            refine st102.trans ?_
            show Steps p.tables e below (T102.setTop (mkF m 98 #[.val (.int n), .val (.ref da)] [(.ref b72)])) _
            exact retOut X102 hx Bd.returns rfl (Or.inr (Or.inr (Or.inr (Or.inr ⟨rfl, rfl, rfl⟩)))) (hb hby d_method_5_code_98) hretL
          · show Q_rmmk Z n da kd d0 d1 d2 d3 G1 h0 n0 _ T102.heap _
            refine ⟨_, rfl, N103, K106, gn72, ?_⟩
            simp only [mkl, if_neg hc1_2, if_neg hc17_18, if_neg hc39_41, if_pos hc67_71]
            exact sp102
        · obtain ⟨T107, h107, X107, e107, E107, A107, D107, U107, st107⟩ := newO X0 hx hZ hown (ow9 hw) (ow10 hw) (ow11 hw) e0 (g := (mkF m 99 #[.val (.int n), .val (.ref da)] [])) rfl (hb hby d_method_5_code_99) (by decide) (by decide)
          obtain ⟨b107, g107⟩ : ∃ z, z = h0.size := ⟨_, rfl⟩
          rw [← g107] at A107 D107 U107 st107
          have gn107 : n0 ≤ b107 := Nat.le_trans (own_sz O0) (Nat.le_of_eq g107.symm)
          have sz107 : h0.size ≤ b107 := Nat.le_trans K0.1 (Nat.le_of_eq g107.symm)
          have neda_107 : da ≠ b107 := Nat.ne_of_lt (Nat.lt_of_lt_of_le Ad.lt (Nat.le_of_eq g107.symm))
          have Y107 := Safe.ext E107 CH0.1 (Safe.new (x := b107) (Nat.le_of_eq g107.symm))
          have CH108 := CH0.trans (CHr.ext E107 CH0.1)
          have hk108 := Nat.le_trans hk0 E107.1
          have O109 := O0.ext E107
          have K109 := K0.ext E107
          have Fvalue_107 : Fld Z h107 b107 "java/lang/String" "value" "[B" .null := D107 (Or.inr (ow24 hw)) (ty := (.array .byte)) (by decide)
          have Fcoder_107 : Fld Z h107 b107 "java/lang/String" "coder" "B" (.int (0 : Int32)) := D107 (Or.inr (ow25 hw)) (ty := .byte) (by decide)
          have f110 := (Ad.ext E107)
          obtain ⟨T111, h111, k111, X111, e111, E111, A111, st111⟩ := newP (aty := .char) X107 hx hZ (ow1 hw) e107 (g := (mkF m 104 #[.val (.int n), .val (.ref da)] [(.int (4 : Int32)), (.ref b107), (.ref b107)])) rfl (hb hby d_method_5_code_104) rfl (by decide) (cap := 4) (by decide) (by decide) (by decide) (by decide)
          obtain ⟨b111, g111⟩ : ∃ z, z = h107.size := ⟨_, rfl⟩
          rw [← g111] at A111 st111
          have V111 : Arv Z h111 b111 k111 .char (4 : Int32) [(.int (0 : Int32)), (.int (0 : Int32)), (.int (0 : Int32)), (.int (0 : Int32))] (.int (0 : Int32)) := (Arv.new A111 (by decide)).pad (pad_rep [] (.int (0 : Int32)) 4)
          have gn111 : n0 ≤ b111 := Nat.le_trans (own_sz O109) (Nat.le_of_eq g111.symm)
          have sz111 : h0.size ≤ b111 := Nat.le_trans K109.1 (Nat.le_of_eq g111.symm)
          have neda_111 : da ≠ b111 := Nat.ne_of_lt (Nat.lt_of_lt_of_le f110.lt (Nat.le_of_eq g111.symm))
          have neb107_111 : b107 ≠ b111 := Nat.ne_of_lt (Nat.lt_of_lt_of_le A107.lt (Nat.le_of_eq g111.symm))
          have Y111 := Safe.ext E111 CH108.1 (Safe.new (x := b111) (Nat.le_of_eq g111.symm))
          have CH112 := CH108.trans (CHr.ext E111 CH108.1)
          have hk112 := Nat.le_trans hk108 E111.1
          have O113 := O109.ext E111
          have K113 := K109.ext E111
          have f115 := (f110.ext E111)
          obtain ⟨cl114, Ar114, q114, S114, M114, H114, G114⟩ := id f115
          have hin114 : ¬ ((0 : Int32) < 0 ∨ cl114.slots.size ≤ ((0 : Int32)).toNatClampNeg) := inb_of S114 ⟨by decide, by decide⟩
          have hat114 : cl114.slots[((0 : Int32)).toNatClampNeg]? = some (.int d0) := H114.at hin114 rfl
          obtain ⟨cl116, Ar116, q116, S116, M116, H116, G116⟩ := id V111
          have hin116 : ¬ ((0 : Int32) < 0 ∨ cl116.slots.size ≤ ((0 : Int32)).toNatClampNeg) := inb_of S116 ⟨by decide, by decide⟩
          obtain ⟨T117, h117, X117, e117, W117, st117⟩ := stC X111 hx hZ e111 Ar116 (j := (0 : Int32)) hin116 (g := (mkF m 111 #[.val (.int n), .val (.ref da)] [(.int d0), (.int (0 : Int32)), (.ref b111), (.ref b111), (.ref b107), (.ref b107)])) rfl rfl (hb hby d_method_5_code_111)
          have V117 : Arv Z h117 b111 k111 .char (4 : Int32) [(.int (nar .char d0)), (.int (0 : Int32)), (.int (0 : Int32)), (.int (0 : Int32))] (.int (0 : Int32)) := Arv.set Ar116 q116 S116 M116 H116 G116 (fits_nar_char _) W117 0 rfl (Nat.le_of_ble_eq_true rfl)
          have CH118 := CH112.trans (CHr.wr W117 Y111 CH112.1)
          have hk118 := Nat.le_trans hk112 (Keep.of_wr W117).1
          have N119 := Fr.snoc X117 N0 gn111
          have O119 := O113.wr W117 gn111
          have K119 := K113.wr W117 (Or.inr sz111)
          have f121 := (f115.other W117 neda_111)
          obtain ⟨cl120, Ar120, q120, S120, M120, H120, G120⟩ := id f121
          have hin120 : ¬ ((1 : Int32) < 0 ∨ cl120.slots.size ≤ ((1 : Int32)).toNatClampNeg) := inb_of S120 ⟨by decide, by decide⟩
          have hat120 : cl120.slots[((1 : Int32)).toNatClampNeg]? = some (.int d1) := H120.at hin120 rfl
          obtain ⟨cl122, Ar122, q122, S122, M122, H122, G122⟩ := id V117
          have hin122 : ¬ ((1 : Int32) < 0 ∨ cl122.slots.size ≤ ((1 : Int32)).toNatClampNeg) := inb_of S122 ⟨by decide, by decide⟩
          obtain ⟨T123, h123, X123, e123, W123, st123⟩ := stC X117 hx hZ e117 Ar122 (j := (1 : Int32)) hin122 (g := (mkF m 117 #[.val (.int n), .val (.ref da)] [(.int d1), (.int (1 : Int32)), (.ref b111), (.ref b111), (.ref b107), (.ref b107)])) rfl rfl (hb hby d_method_5_code_117)
          have V123 : Arv Z h123 b111 k111 .char (4 : Int32) [(.int (nar .char d0)), (.int (nar .char d1)), (.int (0 : Int32)), (.int (0 : Int32))] (.int (0 : Int32)) := Arv.set Ar122 q122 S122 M122 H122 G122 (fits_nar_char _) W123 1 rfl (Nat.le_of_ble_eq_true rfl)
          have f124 := (Safe.wr W117 Y111 CH112.1 Y111)
          have CH125 := CH118.trans (CHr.wr W123 f124 CH118.1)
          have hk125 := Nat.le_trans hk118 (Keep.of_wr W123).1
          have N126 := Fr.snoc X123 N119 gn111
          have O126 := O119.wr W123 gn111
          have K126 := K119.wr W123 (Or.inr sz111)
          have f128 := (f121.other W123 neda_111)
          obtain ⟨cl127, Ar127, q127, S127, M127, H127, G127⟩ := id f128
          have hin127 : ¬ ((2 : Int32) < 0 ∨ cl127.slots.size ≤ ((2 : Int32)).toNatClampNeg) := inb_of S127 ⟨by decide, by decide⟩
          have hat127 : cl127.slots[((2 : Int32)).toNatClampNeg]? = some (.int d2) := H127.at hin127 rfl
          obtain ⟨cl129, Ar129, q129, S129, M129, H129, G129⟩ := id V123
          have hin129 : ¬ ((2 : Int32) < 0 ∨ cl129.slots.size ≤ ((2 : Int32)).toNatClampNeg) := inb_of S129 ⟨by decide, by decide⟩
          obtain ⟨T130, h130, X130, e130, W130, st130⟩ := stC X123 hx hZ e123 Ar129 (j := (2 : Int32)) hin129 (g := (mkF m 123 #[.val (.int n), .val (.ref da)] [(.int d2), (.int (2 : Int32)), (.ref b111), (.ref b111), (.ref b107), (.ref b107)])) rfl rfl (hb hby d_method_5_code_123)
          have V130 : Arv Z h130 b111 k111 .char (4 : Int32) [(.int (nar .char d0)), (.int (nar .char d1)), (.int (nar .char d2)), (.int (0 : Int32))] (.int (0 : Int32)) := Arv.set Ar129 q129 S129 M129 H129 G129 (fits_nar_char _) W130 2 rfl (Nat.le_of_ble_eq_true rfl)
          have f131 := (Safe.wr W123 f124 CH118.1 f124)
          have CH132 := CH125.trans (CHr.wr W130 f131 CH125.1)
          have hk132 := Nat.le_trans hk125 (Keep.of_wr W130).1
          have N133 := Fr.snoc X130 N126 gn111
          have O133 := O126.wr W130 gn111
          have K133 := K126.wr W130 (Or.inr sz111)
          have f135 := (f128.other W130 neda_111)
          obtain ⟨cl134, Ar134, q134, S134, M134, H134, G134⟩ := id f135
          have hin134 : ¬ ((3 : Int32) < 0 ∨ cl134.slots.size ≤ ((3 : Int32)).toNatClampNeg) := inb_of S134 ⟨by decide, by decide⟩
          have hat134 : cl134.slots[((3 : Int32)).toNatClampNeg]? = some (.int d3) := H134.at hin134 rfl
          obtain ⟨cl136, Ar136, q136, S136, M136, H136, G136⟩ := id V130
          have hin136 : ¬ ((3 : Int32) < 0 ∨ cl136.slots.size ≤ ((3 : Int32)).toNatClampNeg) := inb_of S136 ⟨by decide, by decide⟩
          obtain ⟨T137, h137, X137, e137, W137, st137⟩ := stC X130 hx hZ e130 Ar136 (j := (3 : Int32)) hin136 (g := (mkF m 129 #[.val (.int n), .val (.ref da)] [(.int d3), (.int (3 : Int32)), (.ref b111), (.ref b111), (.ref b107), (.ref b107)])) rfl rfl (hb hby d_method_5_code_129)
          have V137 : Arv Z h137 b111 k111 .char (4 : Int32) [(.int (nar .char d0)), (.int (nar .char d1)), (.int (nar .char d2)), (.int (nar .char d3))] (.int (0 : Int32)) := Arv.set Ar136 q136 S136 M136 H136 G136 (fits_nar_char _) W137 3 rfl (Nat.le_of_ble_eq_true rfl)
          have f138 := (Safe.wr W130 f131 CH125.1 f131)
          have CH139 := CH132.trans (CHr.wr W137 f138 CH132.1)
          have hk139 := Nat.le_trans hk132 (Keep.of_wr W137).1
          have N140 := Fr.snoc X137 N133 gn111
          have O140 := O133.wr W137 gn111
          have K140 := K133.wr W137 (Or.inr sz111)
          have f141 := (((((A107.ext E111).wr W117).wr W123).wr W130).wr W137)
          have f142 := (((((Fvalue_107.ext E111).other W117 (Or.inl neb107_111)).other W123 (Or.inl neb107_111)).other W130 (Or.inl neb107_111)).other W137 (Or.inl neb107_111))
          have f143 := (((((Fcoder_107.ext E111).other W117 (Or.inl neb107_111)).other W123 (Or.inl neb107_111)).other W130 (Or.inl neb107_111)).other W137 (Or.inl neb107_111))
          obtain ⟨_, _, ⟨T144, L144, k144, n144⟩, -, X144, ⟨Lc144, hQ144, l144, y144, z144⟩, st144⟩ := X137.specialBack hx (y := (⟨"java/lang/String", "<init>", "([C)V"⟩ : MethodName)) rfl hown (mvT hZ (ow12 hw)) (mvT hZ (ow13 hw)) (mvT hZ (ow14 hw)) (by decide) (StrChars.Road.backV (W := 1) hZ (own_ws hw) (kI := 4) (ow10 hw) (cs := ([nar .char d0, nar .char d1, nar .char d2, nar .char d3] : List Int32)) (bs := ([nar .char d0, nar .char d1, nar .char d2, nar .char d3] : List Int32).map (fun c => c.toInt8.toInt32)) (n := 4) gn107 (own_sz O140) f141 f142 f143 V137 (O2.ext O140.2) P5 rfl rfl (by decide) (by decide) (own_hp4 hd0 hd1 hd2 hd3) rfl (by decide) (by decide)) (g := (mkF m 130 #[.val (.int n), .val (.ref da)] [(.ref b111), (.ref b107), (.ref b107)])) rfl (by rw [hml]; rfl) (Steps.refl _) (a := b107) (argsL := [(.ref b111)]) (rest := [(.ref b107)]) (lenOf pd2 rfl) rfl (by show 2 * 0 + _ ≤ _; exact Nat.le_of_eq rfl) (hb hby d_method_5_code_130) (fun _ _ => ⟨rfl, e137, (by decide : 2 + 1 ≤ _), (by decide : 8 + 4 ≤ _)⟩)
          dsimp only [Pt.U, Pt.locs, Pt.cells, Pt.slots] at X144 l144 y144 z144 st144 hQ144
          subst l144 y144 z144
          obtain ⟨rfl, Nq144, kp144, sE144, sC144, t144, k144_, -, -, -, sV144, sA144⟩ := hQ144
          have sp144 : StrP Z _ b107 [nar .char d0, nar .char d1, nar .char d2, nar .char d3] := ⟨sE144, sC144, (own_hp4 hd0 hd1 hd2 hd3), (Nat.le_of_ble_eq_true rfl), t144, k144_, sV144, sA144⟩
          simp only [own_nc hd0, own_nc hd1, own_nc hd2, own_nc hd3] at sp144
          have N145 := Fr.app N140 Nq144
          have f146 := (Safe.wr W137 f138 CH132.1 (Safe.wr W130 f131 CH125.1 (Safe.wr W123 f124 CH118.1 (Safe.wr W117 Y111 CH112.1 (Safe.ext E111 CH108.1 Y107)))))
          have CH147 := CH139.trans (CHr.keep kp144 (sfS f146 sf0) CH139.1)
          have hk147 := Nat.le_trans hk139 kp144.1
          have O148 := O140.keep kp144 (allS gn107 all0)
          have K148 := K140.trans kp144 (allS (Or.inr sz107) all0)
          obtain ⟨fs, hretL, hrun, hended, hEnd⟩ := Stand.leaveW X144 hS0 hk147 (v := some (.ref b107)) (fun h => by rw [Bd.returns] at h; cases h)
          have hCf : CHr Z EL0 s.vm s.heap T144.vm T144.heap := by rw [hh]; exact CH147.trans (CHv.at X144 hZ (own_EW hw) CH147.1)
          refine ⟨_, _, pre70 _ ?_, hrun, hended, _, _, rfl, ?_, hCf, hEnd.1, hEnd.2.1, hEnd.2.2.1, hEnd.2.2.2.mono (by decide) (by decide)⟩
          · refine XS.icmpYes X0.here hx rfl (pc0 := 67) (pc' := 99) rfl (hb hby d_method_5_code_67) rfl (feq hc67_71).2 (by decide) (by decide) ?_
            show Steps p.tables e below (s₁.setTop (mkF m 99 #[.val (.int n), .val (.ref da)] [])) _
            refine st107 _ ?_
            show Steps p.tables e below (T107.setTop (mkF m 102 #[.val (.int n), .val (.ref da)] [(.ref b107)])) _
            refine XS.dup X107.here hx rfl (hb hby d_method_5_code_102) rfl rfl ?_
            show Steps p.tables e below (T107.setTop (mkF m 103 #[.val (.int n), .val (.ref da)] [(.ref b107), (.ref b107)])) _
            refine XS.iconst X107.here hx rfl (hb hby d_method_5_code_103) ?_
            show Steps p.tables e below (T107.setTop (mkF m 104 #[.val (.int n), .val (.ref da)] [(.int (4 : Int32)), (.ref b107), (.ref b107)])) _
            refine st111 _ ?_
            show Steps p.tables e below (T111.setTop (mkF m 106 #[.val (.int n), .val (.ref da)] [(.ref b111), (.ref b107), (.ref b107)])) _
            refine XS.dup X111.here hx rfl (hb hby d_method_5_code_106) rfl rfl ?_
            show Steps p.tables e below (T111.setTop (mkF m 107 #[.val (.int n), .val (.ref da)] [(.ref b111), (.ref b111), (.ref b107), (.ref b107)])) _
            refine XS.iconst X111.here hx rfl (hb hby d_method_5_code_107) ?_
            show Steps p.tables e below (T111.setTop (mkF m 108 #[.val (.int n), .val (.ref da)] [(.int (0 : Int32)), (.ref b111), (.ref b111), (.ref b107), (.ref b107)])) _
            refine XS.aloadN X111.here hx rfl (hb hby d_method_5_code_108) rfl rfl ?_
            show Steps p.tables e below (T111.setTop (mkF m 109 #[.val (.int n), .val (.ref da)] [(.ref da), (.int (0 : Int32)), (.ref b111), (.ref b111), (.ref b107), (.ref b107)])) _
            refine XS.iconst X111.here hx rfl (hb hby d_method_5_code_109) ?_
            show Steps p.tables e below (T111.setTop (mkF m 110 #[.val (.int n), .val (.ref da)] [(.int (0 : Int32)), (.ref da), (.int (0 : Int32)), (.ref b111), (.ref b111), (.ref b107), (.ref b107)])) _
            refine X111.caload hx (j := (0 : Int32)) (v := (.int d0)) (by rw [e111]; exact Ar114.1) (State.isArrayOf_alike hZ.alike Ar114.2.1) Ar114.2.2 hin114 hat114 (g := (mkF m 110 #[.val (.int n), .val (.ref da)] [(.int (0 : Int32)), (.ref da), (.int (0 : Int32)), (.ref b111), (.ref b111), (.ref b107), (.ref b107)])) rfl rfl (hb hby d_method_5_code_110) _ ?_
            show Steps p.tables e below (T111.setTop (mkF m 111 #[.val (.int n), .val (.ref da)] [(.int d0), (.int (0 : Int32)), (.ref b111), (.ref b111), (.ref b107), (.ref b107)])) _
            refine st117 _ ?_
            show Steps p.tables e below (T117.setTop (mkF m 112 #[.val (.int n), .val (.ref da)] [(.ref b111), (.ref b107), (.ref b107)])) _
            refine XS.dup X117.here hx rfl (hb hby d_method_5_code_112) rfl rfl ?_
            show Steps p.tables e below (T117.setTop (mkF m 113 #[.val (.int n), .val (.ref da)] [(.ref b111), (.ref b111), (.ref b107), (.ref b107)])) _
            refine XS.iconst X117.here hx rfl (hb hby d_method_5_code_113) ?_
            show Steps p.tables e below (T117.setTop (mkF m 114 #[.val (.int n), .val (.ref da)] [(.int (1 : Int32)), (.ref b111), (.ref b111), (.ref b107), (.ref b107)])) _
            refine XS.aloadN X117.here hx rfl (hb hby d_method_5_code_114) rfl rfl ?_
            show Steps p.tables e below (T117.setTop (mkF m 115 #[.val (.int n), .val (.ref da)] [(.ref da), (.int (1 : Int32)), (.ref b111), (.ref b111), (.ref b107), (.ref b107)])) _
            refine XS.iconst X117.here hx rfl (hb hby d_method_5_code_115) ?_
            show Steps p.tables e below (T117.setTop (mkF m 116 #[.val (.int n), .val (.ref da)] [(.int (1 : Int32)), (.ref da), (.int (1 : Int32)), (.ref b111), (.ref b111), (.ref b107), (.ref b107)])) _
            refine X117.caload hx (j := (1 : Int32)) (v := (.int d1)) (by rw [e117]; exact Ar120.1) (State.isArrayOf_alike hZ.alike Ar120.2.1) Ar120.2.2 hin120 hat120 (g := (mkF m 116 #[.val (.int n), .val (.ref da)] [(.int (1 : Int32)), (.ref da), (.int (1 : Int32)), (.ref b111), (.ref b111), (.ref b107), (.ref b107)])) rfl rfl (hb hby d_method_5_code_116) _ ?_
            show Steps p.tables e below (T117.setTop (mkF m 117 #[.val (.int n), .val (.ref da)] [(.int d1), (.int (1 : Int32)), (.ref b111), (.ref b111), (.ref b107), (.ref b107)])) _
            refine st123 _ ?_
            show Steps p.tables e below (T123.setTop (mkF m 118 #[.val (.int n), .val (.ref da)] [(.ref b111), (.ref b107), (.ref b107)])) _
            refine XS.dup X123.here hx rfl (hb hby d_method_5_code_118) rfl rfl ?_
            show Steps p.tables e below (T123.setTop (mkF m 119 #[.val (.int n), .val (.ref da)] [(.ref b111), (.ref b111), (.ref b107), (.ref b107)])) _
            refine XS.iconst X123.here hx rfl (hb hby d_method_5_code_119) ?_
            show Steps p.tables e below (T123.setTop (mkF m 120 #[.val (.int n), .val (.ref da)] [(.int (2 : Int32)), (.ref b111), (.ref b111), (.ref b107), (.ref b107)])) _
            refine XS.aloadN X123.here hx rfl (hb hby d_method_5_code_120) rfl rfl ?_
            show Steps p.tables e below (T123.setTop (mkF m 121 #[.val (.int n), .val (.ref da)] [(.ref da), (.int (2 : Int32)), (.ref b111), (.ref b111), (.ref b107), (.ref b107)])) _
            refine XS.iconst X123.here hx rfl (hb hby d_method_5_code_121) ?_
            show Steps p.tables e below (T123.setTop (mkF m 122 #[.val (.int n), .val (.ref da)] [(.int (2 : Int32)), (.ref da), (.int (2 : Int32)), (.ref b111), (.ref b111), (.ref b107), (.ref b107)])) _
            refine X123.caload hx (j := (2 : Int32)) (v := (.int d2)) (by rw [e123]; exact Ar127.1) (State.isArrayOf_alike hZ.alike Ar127.2.1) Ar127.2.2 hin127 hat127 (g := (mkF m 122 #[.val (.int n), .val (.ref da)] [(.int (2 : Int32)), (.ref da), (.int (2 : Int32)), (.ref b111), (.ref b111), (.ref b107), (.ref b107)])) rfl rfl (hb hby d_method_5_code_122) _ ?_
            show Steps p.tables e below (T123.setTop (mkF m 123 #[.val (.int n), .val (.ref da)] [(.int d2), (.int (2 : Int32)), (.ref b111), (.ref b111), (.ref b107), (.ref b107)])) _
            refine st130 _ ?_
            show Steps p.tables e below (T130.setTop (mkF m 124 #[.val (.int n), .val (.ref da)] [(.ref b111), (.ref b107), (.ref b107)])) _
            refine XS.dup X130.here hx rfl (hb hby d_method_5_code_124) rfl rfl ?_
            show Steps p.tables e below (T130.setTop (mkF m 125 #[.val (.int n), .val (.ref da)] [(.ref b111), (.ref b111), (.ref b107), (.ref b107)])) _
            refine XS.iconst X130.here hx rfl (hb hby d_method_5_code_125) ?_
            show Steps p.tables e below (T130.setTop (mkF m 126 #[.val (.int n), .val (.ref da)] [(.int (3 : Int32)), (.ref b111), (.ref b111), (.ref b107), (.ref b107)])) _
            refine XS.aloadN X130.here hx rfl (hb hby d_method_5_code_126) rfl rfl ?_
            show Steps p.tables e below (T130.setTop (mkF m 127 #[.val (.int n), .val (.ref da)] [(.ref da), (.int (3 : Int32)), (.ref b111), (.ref b111), (.ref b107), (.ref b107)])) _
            refine XS.iconst X130.here hx rfl (hb hby d_method_5_code_127) ?_
            show Steps p.tables e below (T130.setTop (mkF m 128 #[.val (.int n), .val (.ref da)] [(.int (3 : Int32)), (.ref da), (.int (3 : Int32)), (.ref b111), (.ref b111), (.ref b107), (.ref b107)])) _
            refine X130.caload hx (j := (3 : Int32)) (v := (.int d3)) (by rw [e130]; exact Ar134.1) (State.isArrayOf_alike hZ.alike Ar134.2.1) Ar134.2.2 hin134 hat134 (g := (mkF m 128 #[.val (.int n), .val (.ref da)] [(.int (3 : Int32)), (.ref da), (.int (3 : Int32)), (.ref b111), (.ref b111), (.ref b107), (.ref b107)])) rfl rfl (hb hby d_method_5_code_128) _ ?_
            show Steps p.tables e below (T130.setTop (mkF m 129 #[.val (.int n), .val (.ref da)] [(.int d3), (.int (3 : Int32)), (.ref b111), (.ref b111), (.ref b107), (.ref b107)])) _
            refine st137 _ ?_
            show Steps p.tables e below (T137.setTop (mkF m 130 #[.val (.int n), .val (.ref da)] [(.ref b111), (.ref b107), (.ref b107)])) _
            refine st144.trans ?_
            show Steps p.tables e below (T144.setTop (mkF m 133 #[.val (.int n), .val (.ref da)] [(.ref b107)])) _
            exact retOut X144 hx Bd.returns rfl (Or.inr (Or.inr (Or.inr (Or.inr ⟨rfl, rfl, rfl⟩)))) (hb hby d_method_5_code_133) hretL
          · show Q_rmmk Z n da kd d0 d1 d2 d3 G1 h0 n0 _ T144.heap _
            refine ⟨_, rfl, N145, K148, gn107, ?_⟩
            simp only [mkl, if_neg hc1_2, if_neg hc17_18, if_neg hc39_41, if_neg hc67_71]
            exact sp144
theorem d_jdk_29_method_69_code_0 : decode jdk_29_method_69_code 0 = .ok (.iload_n 0, 1) := by decide +kernel
theorem d_jdk_29_method_69_code_1 : decode jdk_29_method_69_code 1 = .ok (.iload_n 1, 1) := by decide +kernel
theorem d_jdk_29_method_69_code_2 : decode jdk_29_method_69_code 2 = .ok (.if_icmp .gt 7, 3) := by decide +kernel
theorem d_jdk_29_method_69_code_5 : decode jdk_29_method_69_code 5 = .ok (.iload_n 0, 1) := by decide +kernel
theorem d_jdk_29_method_69_code_6 : decode jdk_29_method_69_code 6 = .ok (.goto 4, 3) := by decide +kernel
theorem d_jdk_29_method_69_code_9 : decode jdk_29_method_69_code 9 = .ok (.iload_n 1, 1) := by decide +kernel
theorem d_jdk_29_method_69_code_10 : decode jdk_29_method_69_code 10 = .ok (.ireturn, 1) := by decide +kernel
def Q_rmmin (Z : State) (x0 : Int32) (x1 : Int32) (h0 : Heap) (n0 : Nat) (v : Option Value) (h : Heap) (L : List Loc) : Prop := v = some (.int (if x1 < x0 then x1 else x0)) ∧ Fr n0 L ∧ h = h0
theorem ef_rmmin (m : MethodId) (x0 : Int32) (x1 : Int32) : entryFrame m #[(.int x0), (.int x1)] 2 = mkF m 0 #[.val (.int x0), .val (.int x1)] [] := by first | (simp [entryFrame, mkF, argsToLocals, Value.category]; done) | rfl
set_option maxRecDepth 65536 in
set_option maxHeartbeats 40000000 in
theorem rmmin (l : Launch) (Z : State) (a0 : Array Value) (hw : ∀ d ∈ tables_1, d.before a0 Z = true) (ws : List Jvm.Cond) (x0 : Int32) (x1 : Int32) (h0 : Heap) (n0 : Nat) (O0 : Old Z n0 h0) :
    MetFree l (⟨"java/lang/Math", "min", "(II)I"⟩ : MethodName) (head1 (Jvm.Cond.code (⟨"java/lang/Math", "min", "(II)I"⟩ : MethodName) jdk_29_method_69_code 2 (some .int) :: ws) ({ frames := 0, cells := 0, slots := 0, locals := 0 } : Room)) (fun aa U => aa = #[(.int x0), (.int x1)] ∧ Z.Warmed39 U.vm ∧ U.heap = h0) (fun _ _ _ _ _ => True) (fun _ U o U' => ∃ v L, o = .returned v ∧ Q_rmmin Z x0 x1 h0 n0 v U'.heap L ∧ FrameEnd U o U' L ({ frames := 0, cells := 0, slots := 0, locals := 0 } : Room).cells ({ frames := 0, cells := 0, slots := 0, locals := 0 } : Room).slots) := by
  refine MetFree.of_bodySF (Jvm.Free.JP.mathPlain rfl (by decide +kernel)) hisR ?_
  intro p e s m args below meth c s₁ Bd hml0 hP hK
  obtain ⟨rfl, hZ, hh⟩ := hP
  have hx := Bd.exec
  have hby := Bd.bytes
  have hml : c.maxLocals = 2 := hml0
  have hown : s.vm.findClass "java/lang/Math" = some m.cls := findClass_of_methodNamed Bd.named
  have hnm := (name_of_methodNamed Bd.named Bd.method).1
  have X0 : Stand p l e ({ frames := 0, cells := 0, slots := 0, locals := 0 } : Room) s m #[(.int x0), (.int x1)] below meth c s₁ [] 0 0 := Stand.of_body Bd
  have e0 : s₁.heap = h0 := by rw [← hh, Bd.state]; rfl
  have N0 := Fr.nil n0
  have K0 : Keep h0 h0 [] := Keep.refl _ _
  have pre0 : ∀ tgt, Steps p.tables e below (s₁.setTop (mkF m 0 #[.val (.int x0), .val (.int x1)] [])) tgt → Steps p.tables e below (s₁.setTop (entryFrame m #[(.int x0), (.int x1)] 2)) tgt := fun tgt kgo => castTop (ef_rmmin m x0 x1) kgo
  have pre1 : ∀ tgt, Steps p.tables e below (s₁.setTop (mkF m 2 #[.val (.int x0), .val (.int x1)] [(.int x1), (.int x0)])) tgt → Steps p.tables e below (s₁.setTop (entryFrame m #[(.int x0), (.int x1)] 2)) tgt := by
    intro tgt kgo
    refine pre0 _ ?_
    refine XS.iloadN X0.here hx rfl (hb hby d_jdk_29_method_69_code_0) rfl ?_
    show Steps p.tables e below (s₁.setTop (mkF m 1 #[.val (.int x0), .val (.int x1)] [(.int x0)])) _
    refine XS.iloadN X0.here hx rfl (hb hby d_jdk_29_method_69_code_1) rfl ?_
    show Steps p.tables e below (s₁.setTop (mkF m 2 #[.val (.int x0), .val (.int x1)] [(.int x1), (.int x0)])) _
    exact kgo
  by_cases hc2_2 : x1 < x0
  · obtain ⟨fs, hretL, hrun, hended, hW, hsame⟩ := X0.leave (v := some (.int x1)) (fun h => by rw [Bd.returns] at h; cases h)
    refine ⟨_, _, pre1 _ ?_, hrun, hended, _, _, rfl, ?_, ⟨_, rfl⟩, hW, hsame.mono (by decide) (by decide)⟩
    · refine XS.icmpYes X0.here hx rfl (pc0 := 2) (pc' := 9) rfl (hb hby d_jdk_29_method_69_code_2) rfl (tlt hc2_2).2.2.1 (by decide) (by decide) ?_
      show Steps p.tables e below (s₁.setTop (mkF m 9 #[.val (.int x0), .val (.int x1)] [])) _
      refine XS.iloadN X0.here hx rfl (hb hby d_jdk_29_method_69_code_9) rfl ?_
      show Steps p.tables e below (s₁.setTop (mkF m 10 #[.val (.int x0), .val (.int x1)] [(.int x1)])) _
      exact retOut X0 hx Bd.returns rfl (Or.inl ⟨rfl, Or.inl rfl, _, rfl⟩) (hb hby d_jdk_29_method_69_code_10) hretL
    · show Q_rmmin Z x0 x1 h0 n0 _ s₁.heap _
      rw [e0]
      exact ⟨by simp only [if_pos hc2_2], N0, rfl⟩
  · obtain ⟨fs, hretL, hrun, hended, hW, hsame⟩ := X0.leave (v := some (.int x0)) (fun h => by rw [Bd.returns] at h; cases h)
    refine ⟨_, _, pre1 _ ?_, hrun, hended, _, _, rfl, ?_, ⟨_, rfl⟩, hW, hsame.mono (by decide) (by decide)⟩
    · refine XS.icmpNo X0.here hx rfl (hb hby d_jdk_29_method_69_code_2) rfl (flt hc2_2).2.2.1 ?_
      show Steps p.tables e below (s₁.setTop (mkF m 5 #[.val (.int x0), .val (.int x1)] [])) _
      refine XS.iloadN X0.here hx rfl (hb hby d_jdk_29_method_69_code_5) rfl ?_
      show Steps p.tables e below (s₁.setTop (mkF m 6 #[.val (.int x0), .val (.int x1)] [(.int x0)])) _
      refine XS.goto X0.here hx rfl (pc0 := 6) (pc' := 10) rfl (hb hby d_jdk_29_method_69_code_6) (by decide) (by decide) ?_
      show Steps p.tables e below (s₁.setTop (mkF m 10 #[.val (.int x0), .val (.int x1)] [(.int x0)])) _
      exact retOut X0 hx Bd.returns rfl (Or.inl ⟨rfl, Or.inl rfl, _, rfl⟩) (hb hby d_jdk_29_method_69_code_10) hretL
    · show Q_rmmin Z x0 x1 h0 n0 _ s₁.heap _
      rw [e0]
      exact ⟨by simp only [if_neg hc2_2], N0, rfl⟩
theorem own_mn {v : Option Value} {lk bi : Int32} {n i k : Nat} (hv : v = some (.int (if lk < (Int32.ofNat n - bi) then lk else (Int32.ofNat n - bi)))) (hbi : bi = Int32.ofNat i) (hlk : lk = Int32.ofNat k) (hik : i + k ≤ n) (hn : n ≤ 4) : v = some (.int lk) := by
  rw [hv, hbi, on_sub (by omega) (by omega), hlk]
  split
  · rfl
  · rename_i q
    rw [on_lt (by omega) (by omega)] at q
    rw [show n - i = k by omega]
theorem own_us {vs : List Value} {lk bi : Int32} {n i k : Nat} (hvl : vs.length = n) (hbi : bi = Int32.ofNat i) (hlk : lk = Int32.ofNat k) (hik : i + k ≤ n) (hn : n ≤ 4) : (vs.drop i).take k = (List.range lk.toNatClampNeg).map fun j => vs.getD (bi.toNatClampNeg + j) (.int (0 : Int32)) := by
  rw [hbi, hlk, on_cl (by omega), on_cl (by omega)]
  apply List.ext_getElem
  · simp; omega
  · intro j h1 h2
    simp at h1 h2
    simp [List.getD_eq_getElem?_getD, List.getElem?_eq_getElem (show i + j < vs.length by omega)]
theorem own_cpv {lk : Int32} {k : Nat} {us : List Value} {dv : Value} (h : lk.toNatClampNeg = k) : (List.replicate k dv).take (0 : Int32).toNatClampNeg ++ us ++ (List.replicate k dv).drop ((0 : Int32).toNatClampNeg + lk.toNatClampNeg) = us := by
  rw [h, show (0 : Int32).toNatClampNeg = 0 from rfl]; simp
theorem d_jdk_65_method_133_code_0 : decode jdk_65_method_133_code 0 = .ok (.iload_n 1, 1) := by decide +kernel
theorem d_jdk_65_method_133_code_1 : decode jdk_65_method_133_code 1 = .ok (.iload_n 2, 1) := by decide +kernel
theorem d_jdk_65_method_133_code_2 : decode jdk_65_method_133_code 2 = .ok (.invokestatic 343, 3) := by decide +kernel
theorem d_jdk_65_method_133_code_5 : decode jdk_65_method_133_code 5 = .ok (.iload_n 2, 1) := by decide +kernel
theorem d_jdk_65_method_133_code_6 : decode jdk_65_method_133_code 6 = .ok (.iload_n 1, 1) := by decide +kernel
theorem d_jdk_65_method_133_code_7 : decode jdk_65_method_133_code 7 = .ok (.isub, 1) := by decide +kernel
theorem d_jdk_65_method_133_code_8 : decode jdk_65_method_133_code 8 = .ok (.istore_n 3, 1) := by decide +kernel
theorem d_jdk_65_method_133_code_9 : decode jdk_65_method_133_code 9 = .ok (.iload_n 3, 1) := by decide +kernel
theorem d_jdk_65_method_133_code_10 : decode jdk_65_method_133_code 10 = .ok (.newarray .byte, 2) := by decide +kernel
theorem d_jdk_65_method_133_code_12 : decode jdk_65_method_133_code 12 = .ok (.astore 4, 2) := by decide +kernel
theorem d_jdk_65_method_133_code_14 : decode jdk_65_method_133_code 14 = .ok (.aload_n 0, 1) := by decide +kernel
theorem d_jdk_65_method_133_code_15 : decode jdk_65_method_133_code 15 = .ok (.iload_n 1, 1) := by decide +kernel
theorem d_jdk_65_method_133_code_16 : decode jdk_65_method_133_code 16 = .ok (.aload 4, 2) := by decide +kernel
theorem d_jdk_65_method_133_code_18 : decode jdk_65_method_133_code 18 = .ok (.iconst 0, 1) := by decide +kernel
theorem d_jdk_65_method_133_code_19 : decode jdk_65_method_133_code 19 = .ok (.aload_n 0, 1) := by decide +kernel
theorem d_jdk_65_method_133_code_20 : decode jdk_65_method_133_code 20 = .ok (.arraylength, 1) := by decide +kernel
theorem d_jdk_65_method_133_code_21 : decode jdk_65_method_133_code 21 = .ok (.iload_n 1, 1) := by decide +kernel
theorem d_jdk_65_method_133_code_22 : decode jdk_65_method_133_code 22 = .ok (.isub, 1) := by decide +kernel
theorem d_jdk_65_method_133_code_23 : decode jdk_65_method_133_code 23 = .ok (.iload_n 3, 1) := by decide +kernel
theorem d_jdk_65_method_133_code_24 : decode jdk_65_method_133_code 24 = .ok (.invokestatic 304, 3) := by decide +kernel
theorem d_jdk_65_method_133_code_27 : decode jdk_65_method_133_code 27 = .ok (.invokestatic 150, 3) := by decide +kernel
theorem d_jdk_65_method_133_code_30 : decode jdk_65_method_133_code 30 = .ok (.aload 4, 2) := by decide +kernel
theorem d_jdk_65_method_133_code_32 : decode jdk_65_method_133_code 32 = .ok (.areturn, 1) := by decide +kernel
def Q_rmcrb (Z : State) (tb : Addr) (bi : Int32) (ei : Int32) (kb : ClassId) (vs : List Value) (n : Nat) (i : Nat) (k : Nat) (h0 : Heap) (n0 : Nat) (v : Option Value) (h : Heap) (L : List Loc) : Prop := ∃ (b : Addr) (k' : ClassId), v = some (.ref b) ∧ Fr n0 L ∧ Keep h0 h [] ∧ n0 ≤ b ∧ h0.size ≤ b ∧ Arv Z h b k' .byte (Int32.ofNat k) ((vs.drop i).take k) (.int (0 : Int32))
theorem ef_rmcrb (m : MethodId) (tb : Addr) (bi : Int32) (ei : Int32) : entryFrame m #[(.ref tb), (.int bi), (.int ei)] 5 = mkF m 0 #[.val (.ref tb), .val (.int bi), .val (.int ei), .unset, .unset] [] := by first | (simp [entryFrame, mkF, argsToLocals, Value.category]; done) | rfl
set_option maxRecDepth 65536 in
set_option maxHeartbeats 40000000 in
theorem rmcrb (l : Launch) (Z : State) (a0 : Array Value) (hw : ∀ d ∈ tables_1, d.before a0 Z = true) (ws : List Jvm.Cond) (tb : Addr) (bi : Int32) (ei : Int32) (kb : ClassId) (vs : List Value) (n : Nat) (i : Nat) (k : Nat) (h0 : Heap) (n0 : Nat) (O0 : Old Z n0 h0) (At : Arv Z h0 tb kb .byte (Int32.ofNat n) vs (.int (0 : Int32))) (hvl : vs.length = n) (hbi : bi = Int32.ofNat i) (hei : ei = Int32.ofNat (i + k)) (hik : i + k ≤ n) (hn4 : n ≤ 4) :
    MetFree l (⟨"java/util/Arrays", "copyOfRangeByte", "([BII)[B"⟩ : MethodName) (head1 (Jvm.Cond.code (⟨"java/util/Arrays", "copyOfRangeByte", "([BII)[B"⟩ : MethodName) jdk_65_method_133_code 5 (some (.array .byte)) :: ws) ({ frames := 1, cells := 1, slots := 4, locals := 60 } : Room)) (fun aa U => aa = #[(.ref tb), (.int bi), (.int ei)] ∧ Z.Warmed39 U.vm ∧ U.heap = h0) (fun _ _ _ _ _ => True) (fun _ U o U' => ∃ v L, o = .returned v ∧ Q_rmcrb Z tb bi ei kb vs n i k h0 n0 v U'.heap L ∧ FrameEnd U o U' L ({ frames := 1, cells := 1, slots := 4, locals := 60 } : Room).cells ({ frames := 1, cells := 1, slots := 4, locals := 60 } : Room).slots) := by
  refine MetFree.of_bodySF (plainFor_of_name pn2) hisR ?_
  intro p e s m args below meth c s₁ Bd hml0 hP hK
  obtain ⟨rfl, hZ, hh⟩ := hP
  have hx := Bd.exec
  have hby := Bd.bytes
  have hml : c.maxLocals = 5 := hml0
  have hown : s.vm.findClass "java/util/Arrays" = some m.cls := findClass_of_methodNamed Bd.named
  have hnm := (name_of_methodNamed Bd.named Bd.method).1
  have X0 : Stand p l e ({ frames := 1, cells := 1, slots := 4, locals := 60 } : Room) s m #[(.ref tb), (.int bi), (.int ei)] below meth c s₁ [] 0 0 := Stand.of_body Bd
  have e0 : s₁.heap = h0 := by rw [← hh, Bd.state]; rfl
  have N0 := Fr.nil n0
  have K0 : Keep h0 h0 [] := Keep.refl _ _
  have pre0 : ∀ tgt, Steps p.tables e below (s₁.setTop (mkF m 0 #[.val (.ref tb), .val (.int bi), .val (.int ei), .unset, .unset] [])) tgt → Steps p.tables e below (s₁.setTop (entryFrame m #[(.ref tb), (.int bi), (.int ei)] 5)) tgt := fun tgt kgo => castTop (ef_rmcrb m tb bi ei) kgo
  obtain ⟨_, _, ⟨T1, L1, k1, n1⟩, -, X1, ⟨Lc1, hQ1, l1, y1, z1⟩, st1⟩ := Jvm.LawKit.callS X0 hx (y := (⟨"java/util/Arrays", "checkLength", "(II)V"⟩ : MethodName)) hown (mvT hZ (ow107 hw)) (mvT hZ (ow108 hw)) (mvT hZ (ow102 hw)) (mvT hZ (ow109 hw)) (by decide) (backOf (W := 0) (rmcl l Z a0 hw [] bi ei  h0 n0 O0 (by rw [hbi, hei, on_lt (by omega) (by omega)]; omega)) hZ (ow109 hw) (ow102 hw) (by decide) (by decide)) (g := (mkF m 2 #[.val (.ref tb), .val (.int bi), .val (.int ei), .unset, .unset] [(.int ei), (.int bi)])) rfl (by rw [hml]; rfl) (argsL := [(.int bi), (.int ei)]) (rest := []) (lenOf pd3 rfl) rfl (by show 2 * 0 + _ ≤ _; exact Nat.le_of_eq rfl) (hb hby d_jdk_65_method_133_code_2) (fun _ _ => ⟨rfl, e0, (by decide : 0 + 0 ≤ _), (by decide : 0 + 0 ≤ _)⟩)
  dsimp only [Pt.U, Pt.locs, Pt.cells, Pt.slots] at X1 l1 y1 z1 st1 hQ1
  subst l1 y1 z1
  obtain ⟨rfl, Nq1, eq1⟩ := hQ1
  have N2 := Fr.app N0 Nq1
  have pre3 : ∀ tgt, Steps p.tables e below (T1.setTop (mkF m 9 #[.val (.ref tb), .val (.int bi), .val (.int ei), .val (.int (ei - bi)), .unset] [])) tgt → Steps p.tables e below (s₁.setTop (entryFrame m #[(.ref tb), (.int bi), (.int ei)] 5)) tgt := by
    intro tgt kgo
    refine pre0 _ ?_
    refine XS.iloadN X0.here hx rfl (hb hby d_jdk_65_method_133_code_0) rfl ?_
    show Steps p.tables e below (s₁.setTop (mkF m 1 #[.val (.ref tb), .val (.int bi), .val (.int ei), .unset, .unset] [(.int bi)])) _
    refine XS.iloadN X0.here hx rfl (hb hby d_jdk_65_method_133_code_1) rfl ?_
    show Steps p.tables e below (s₁.setTop (mkF m 2 #[.val (.ref tb), .val (.int bi), .val (.int ei), .unset, .unset] [(.int ei), (.int bi)])) _
    refine st1 _ ?_
    show Steps p.tables e below (T1.setTop (mkF m 5 #[.val (.ref tb), .val (.int bi), .val (.int ei), .unset, .unset] [])) _
    refine XS.iloadN X1.here hx rfl (hb hby d_jdk_65_method_133_code_5) rfl ?_
    show Steps p.tables e below (T1.setTop (mkF m 6 #[.val (.ref tb), .val (.int bi), .val (.int ei), .unset, .unset] [(.int ei)])) _
    refine XS.iloadN X1.here hx rfl (hb hby d_jdk_65_method_133_code_6) rfl ?_
    show Steps p.tables e below (T1.setTop (mkF m 7 #[.val (.ref tb), .val (.int bi), .val (.int ei), .unset, .unset] [(.int bi), (.int ei)])) _
    refine XS.isub X1.here hx rfl (hb hby d_jdk_65_method_133_code_7) rfl ?_
    show Steps p.tables e below (T1.setTop (mkF m 8 #[.val (.ref tb), .val (.int bi), .val (.int ei), .unset, .unset] [(.int (ei - bi))])) _
    refine XS.istoreN X1.here hx rfl (hb hby d_jdk_65_method_133_code_8) rfl (l' := #[.val (.ref tb), .val (.int bi), .val (.int ei), .val (.int (ei - bi)), .unset]) rfl ?_
    show Steps p.tables e below (T1.setTop (mkF m 9 #[.val (.ref tb), .val (.int bi), .val (.int ei), .val (.int (ei - bi)), .unset] [])) _
    exact kgo
  obtain ⟨lk, hlk⟩ : ∃ z, z = (ei - bi) := ⟨_, rfl⟩
  have pre4 : ∀ tgt, Steps p.tables e below (T1.setTop (mkF m 9 #[.val (.ref tb), .val (.int bi), .val (.int ei), .val (.int lk), .unset] [])) tgt → Steps p.tables e below (s₁.setTop (entryFrame m #[(.ref tb), (.int bi), (.int ei)] 5)) tgt := by
    rw [hlk]; exact pre3
  have hlk' : lk = Int32.ofNat k := by rw [hlk, hbi, hei, on_sub (by omega) (by omega)]; congr 1; omega
  have hck : lk.toNatClampNeg = k := by rw [hlk']; exact on_cl (by omega)
  have hl0 : ¬ lk < 0 := by rw [hlk']; exact on_n0 (by omega)
  have hbc : bi.toNatClampNeg = i := by rw [hbi]; exact on_cl (by omega)
  obtain ⟨T5, h5, k5, X5, e5, E5, A5, st5⟩ := newP (aty := .byte) X1 hx hZ (ow23 hw) eq1 (g := (mkF m 10 #[.val (.ref tb), .val (.int bi), .val (.int ei), .val (.int lk), .unset] [(.int lk)])) rfl (hb hby d_jdk_65_method_133_code_10) rfl hl0 (cap := 4) (by rw [hck]; omega) (by decide) (by decide) (by decide)
  obtain ⟨b5, g5⟩ : ∃ z, z = h0.size := ⟨_, rfl⟩
  rw [← g5] at A5 st5
  have V5 : Arv Z h5 b5 k5 .byte lk (List.replicate k (.int (0 : Int32))) (.int (0 : Int32)) := (Arv.new A5 hl0).pad (pad_rep [] (.int (0 : Int32)) k)
  have gn5 : n0 ≤ b5 := Nat.le_trans (own_sz O0) (Nat.le_of_eq g5.symm)
  have sz5 : h0.size ≤ b5 := Nat.le_trans K0.1 (Nat.le_of_eq g5.symm)
  have netb_5 : tb ≠ b5 := Nat.ne_of_lt (Nat.lt_of_lt_of_le At.lt (Nat.le_of_eq g5.symm))
  have O6 := O0.ext E5
  have K6 := K0.ext E5
  have f7 := (At.ext E5)
  obtain ⟨cl8, Ar8, q8, S8, M8, H8, G8⟩ := id f7
  obtain ⟨_, _, ⟨T9, L9, k9, n9⟩, -, X9, ⟨Lc9, hQ9, l9, y9, z9⟩, st9⟩ := Jvm.LawKit.callS X5 hx (y := (⟨"java/lang/Math", "min", "(II)I"⟩ : MethodName)) hown (mvT hZ (ow110 hw)) (mvT hZ (ow111 hw)) (mvT hZ (ow112 hw)) (mvT hZ (ow113 hw)) (by decide) (backOf (W := 4) (rmmin l Z a0 hw [] ((Int32.ofNat n) - bi) lk  h5 n0 O6 ) hZ (ow113 hw) (ow112 hw) (by decide) (by decide)) (g := (mkF m 24 #[.val (.ref tb), .val (.int bi), .val (.int ei), .val (.int lk), .val (.ref b5)] [(.int lk), (.int ((Int32.ofNat n) - bi)), (.int (0 : Int32)), (.ref b5), (.int bi), (.ref tb)])) rfl (by rw [hml]; rfl) (argsL := [(.int ((Int32.ofNat n) - bi)), (.int lk)]) (rest := [(.int (0 : Int32)), (.ref b5), (.int bi), (.ref tb)]) (lenOf pd4 rfl) rfl (by show 2 * 0 + _ ≤ _; exact Nat.le_of_eq rfl) (hb hby d_jdk_65_method_133_code_24) (fun _ _ => ⟨rfl, e5, (by decide : 1 + 0 ≤ _), (by decide : 4 + 0 ≤ _)⟩)
  dsimp only [Pt.U, Pt.locs, Pt.cells, Pt.slots] at X9 l9 y9 z9 st9 hQ9
  subst l9 y9 z9
  obtain ⟨hv9, Nq9, eq9⟩ := hQ9
  obtain rfl := own_mn hv9 hbi hlk' hik hn4
  have N10 := Fr.app N2 Nq9
  obtain ⟨T12, h12, lo12, X12, e12, N12, kp12, V12, st12⟩ := cpA X9 hx hZ hown (ow114 hw) (ow117 hw) (ow115 hw) (ow116 hw) eq9 f7 V5 (Or.inl ⟨rfl, rfl⟩) (us := ((vs.drop i).take k)) (by rw [hbi]; exact on_n0 (by omega)) (by decide) hl0 (by rw [hbc, hck, on_cl (by omega)]; omega) (by rw [show (0 : Int32).toNatClampNeg = 0 from rfl]; omega) (own_us hvl hbi hlk' hik hn4) (by rw [show (0 : Int32).toNatClampNeg = 0 from rfl, hck, List.length_replicate]; omega) N10 gn5 (g := (mkF m 27 #[.val (.ref tb), .val (.int bi), .val (.int ei), .val (.int lk), .val (.ref b5)] [(.int lk), (.int (0 : Int32)), (.ref b5), (.int bi), (.ref tb)])) rfl (by rw [hml]; rfl) rfl (hb hby d_jdk_65_method_133_code_27) (by decide) (W := 0) (by show 2 * 0 + _ ≤ _; exact Nat.le_of_eq rfl) (by decide)
  have O13 := O6.keep kp12 (allS gn5 all0)
  have K13 := K6.trans kp12 (allS (Or.inr sz5) all0)
  have Vc12 : Arv Z h12 b5 k5 .byte lk ((vs.drop i).take k) (.int (0 : Int32)) := (by have q := V12; rw [own_cpv hck] at q; exact q)
  obtain ⟨fs, hretL, hrun, hended, hW, hsame⟩ := X12.leave (v := some (.ref b5)) (fun h => by rw [Bd.returns] at h; cases h)
  refine ⟨_, _, pre4 _ ?_, hrun, hended, _, _, rfl, ?_, ⟨_, rfl⟩, hW, hsame.mono (by decide) (by decide)⟩
  · refine XS.iloadN X1.here hx rfl (hb hby d_jdk_65_method_133_code_9) rfl ?_
    show Steps p.tables e below (T1.setTop (mkF m 10 #[.val (.ref tb), .val (.int bi), .val (.int ei), .val (.int lk), .unset] [(.int lk)])) _
    refine st5 _ ?_
    show Steps p.tables e below (T5.setTop (mkF m 12 #[.val (.ref tb), .val (.int bi), .val (.int ei), .val (.int lk), .unset] [(.ref b5)])) _
    refine XS.astore X5.here hx rfl (hb hby d_jdk_65_method_133_code_12) rfl rfl (l' := #[.val (.ref tb), .val (.int bi), .val (.int ei), .val (.int lk), .val (.ref b5)]) rfl ?_
    show Steps p.tables e below (T5.setTop (mkF m 14 #[.val (.ref tb), .val (.int bi), .val (.int ei), .val (.int lk), .val (.ref b5)] [])) _
    refine XS.aloadN X5.here hx rfl (hb hby d_jdk_65_method_133_code_14) rfl rfl ?_
    show Steps p.tables e below (T5.setTop (mkF m 15 #[.val (.ref tb), .val (.int bi), .val (.int ei), .val (.int lk), .val (.ref b5)] [(.ref tb)])) _
    refine XS.iloadN X5.here hx rfl (hb hby d_jdk_65_method_133_code_15) rfl ?_
    show Steps p.tables e below (T5.setTop (mkF m 16 #[.val (.ref tb), .val (.int bi), .val (.int ei), .val (.int lk), .val (.ref b5)] [(.int bi), (.ref tb)])) _
    refine XS.aload X5.here hx rfl (hb hby d_jdk_65_method_133_code_16) rfl rfl ?_
    show Steps p.tables e below (T5.setTop (mkF m 18 #[.val (.ref tb), .val (.int bi), .val (.int ei), .val (.int lk), .val (.ref b5)] [(.ref b5), (.int bi), (.ref tb)])) _
    refine XS.iconst X5.here hx rfl (hb hby d_jdk_65_method_133_code_18) ?_
    show Steps p.tables e below (T5.setTop (mkF m 19 #[.val (.ref tb), .val (.int bi), .val (.int ei), .val (.int lk), .val (.ref b5)] [(.int (0 : Int32)), (.ref b5), (.int bi), (.ref tb)])) _
    refine XS.aloadN X5.here hx rfl (hb hby d_jdk_65_method_133_code_19) rfl rfl ?_
    show Steps p.tables e below (T5.setTop (mkF m 20 #[.val (.ref tb), .val (.int bi), .val (.int ei), .val (.int lk), .val (.ref b5)] [(.ref tb), (.int (0 : Int32)), (.ref b5), (.int bi), (.ref tb)])) _
    refine X5.arraylength hx (by rw [e5]; exact Ar8.1) (State.isArrayOf_alike hZ.alike Ar8.2.1) (g := (mkF m 20 #[.val (.ref tb), .val (.int bi), .val (.int ei), .val (.int lk), .val (.ref b5)] [(.ref tb), (.int (0 : Int32)), (.ref b5), (.int bi), (.ref tb)])) rfl rfl (hb hby d_jdk_65_method_133_code_20) _ ?_
    rw [len_of S8 M8]
    show Steps p.tables e below (T5.setTop (mkF m 21 #[.val (.ref tb), .val (.int bi), .val (.int ei), .val (.int lk), .val (.ref b5)] [(.int (Int32.ofNat n)), (.int (0 : Int32)), (.ref b5), (.int bi), (.ref tb)])) _
    refine XS.iloadN X5.here hx rfl (hb hby d_jdk_65_method_133_code_21) rfl ?_
    show Steps p.tables e below (T5.setTop (mkF m 22 #[.val (.ref tb), .val (.int bi), .val (.int ei), .val (.int lk), .val (.ref b5)] [(.int bi), (.int (Int32.ofNat n)), (.int (0 : Int32)), (.ref b5), (.int bi), (.ref tb)])) _
    refine XS.isub X5.here hx rfl (hb hby d_jdk_65_method_133_code_22) rfl ?_
    show Steps p.tables e below (T5.setTop (mkF m 23 #[.val (.ref tb), .val (.int bi), .val (.int ei), .val (.int lk), .val (.ref b5)] [(.int ((Int32.ofNat n) - bi)), (.int (0 : Int32)), (.ref b5), (.int bi), (.ref tb)])) _
    refine XS.iloadN X5.here hx rfl (hb hby d_jdk_65_method_133_code_23) rfl ?_
    show Steps p.tables e below (T5.setTop (mkF m 24 #[.val (.ref tb), .val (.int bi), .val (.int ei), .val (.int lk), .val (.ref b5)] [(.int lk), (.int ((Int32.ofNat n) - bi)), (.int (0 : Int32)), (.ref b5), (.int bi), (.ref tb)])) _
    refine st9 _ ?_
    show Steps p.tables e below (T9.setTop (mkF m 27 #[.val (.ref tb), .val (.int bi), .val (.int ei), .val (.int lk), .val (.ref b5)] [(.int lk), (.int (0 : Int32)), (.ref b5), (.int bi), (.ref tb)])) _
    refine st12 _ ?_
    show Steps p.tables e below (T12.setTop (mkF m 30 #[.val (.ref tb), .val (.int bi), .val (.int ei), .val (.int lk), .val (.ref b5)] [])) _
    refine XS.aload X12.here hx rfl (hb hby d_jdk_65_method_133_code_30) rfl rfl ?_
    show Steps p.tables e below (T12.setTop (mkF m 32 #[.val (.ref tb), .val (.int bi), .val (.int ei), .val (.int lk), .val (.ref b5)] [(.ref b5)])) _
    exact retOut X12 hx Bd.returns rfl (Or.inr (Or.inr (Or.inr (Or.inr ⟨rfl, rfl, rfl⟩)))) (hb hby d_jdk_65_method_133_code_32) hretL
  · show Q_rmcrb Z tb bi ei kb vs n i k h0 n0 _ T12.heap _
    rw [e12]
    exact ⟨_, _, rfl, N12, K13, gn5, sz5, hlk' ▸ Vc12⟩
theorem d_jdk_65_method_132_code_0 : decode jdk_65_method_132_code 0 = .ok (.iload_n 1, 1) := by decide +kernel
theorem d_jdk_65_method_132_code_1 : decode jdk_65_method_132_code 1 = .ok (.ifCond .ne 9, 3) := by decide +kernel
theorem d_jdk_65_method_132_code_4 : decode jdk_65_method_132_code 4 = .ok (.iload_n 2, 1) := by decide +kernel
theorem d_jdk_65_method_132_code_5 : decode jdk_65_method_132_code 5 = .ok (.aload_n 0, 1) := by decide +kernel
theorem d_jdk_65_method_132_code_6 : decode jdk_65_method_132_code 6 = .ok (.arraylength, 1) := by decide +kernel
theorem d_jdk_65_method_132_code_7 : decode jdk_65_method_132_code 7 = .ok (.if_icmp .eq 10, 3) := by decide +kernel
theorem d_jdk_65_method_132_code_10 : decode jdk_65_method_132_code 10 = .ok (.aload_n 0, 1) := by decide +kernel
theorem d_jdk_65_method_132_code_11 : decode jdk_65_method_132_code 11 = .ok (.iload_n 1, 1) := by decide +kernel
theorem d_jdk_65_method_132_code_12 : decode jdk_65_method_132_code 12 = .ok (.iload_n 2, 1) := by decide +kernel
theorem d_jdk_65_method_132_code_13 : decode jdk_65_method_132_code 13 = .ok (.invokestatic 339, 3) := by decide +kernel
theorem d_jdk_65_method_132_code_16 : decode jdk_65_method_132_code 16 = .ok (.areturn, 1) := by decide +kernel
def Q_rmcr (Z : State) (tb : Addr) (bi : Int32) (ei : Int32) (kb : ClassId) (vs : List Value) (n : Nat) (i : Nat) (k : Nat) (h0 : Heap) (n0 : Nat) (v : Option Value) (h : Heap) (L : List Loc) : Prop := ∃ (b : Addr) (k' : ClassId), v = some (.ref b) ∧ Fr n0 L ∧ Keep h0 h [] ∧ n0 ≤ b ∧ h0.size ≤ b ∧ Arv Z h b k' .byte (Int32.ofNat k) ((vs.drop i).take k) (.int (0 : Int32))
theorem ef_rmcr (m : MethodId) (tb : Addr) (bi : Int32) (ei : Int32) : entryFrame m #[(.ref tb), (.int bi), (.int ei)] 3 = mkF m 0 #[.val (.ref tb), .val (.int bi), .val (.int ei)] [] := by first | (simp [entryFrame, mkF, argsToLocals, Value.category]; done) | rfl
set_option maxRecDepth 65536 in
set_option maxHeartbeats 40000000 in
theorem rmcr (l : Launch) (Z : State) (a0 : Array Value) (hw : ∀ d ∈ tables_1, d.before a0 Z = true) (ws : List Jvm.Cond) (tb : Addr) (bi : Int32) (ei : Int32) (kb : ClassId) (vs : List Value) (n : Nat) (i : Nat) (k : Nat) (h0 : Heap) (n0 : Nat) (O0 : Old Z n0 h0) (At : Arv Z h0 tb kb .byte (Int32.ofNat n) vs (.int (0 : Int32))) (hvl : vs.length = n) (hbi : bi = Int32.ofNat i) (hei : ei = Int32.ofNat (i + k)) (hik : i + k ≤ n) (hn4 : n ≤ 4) (hne : bi = (0 : Int32) → ¬ ei = (Int32.ofNat n)) :
    MetFree l (⟨"java/util/Arrays", "copyOfRange", "([BII)[B"⟩ : MethodName) (head1 (Jvm.Cond.code (⟨"java/util/Arrays", "copyOfRange", "([BII)[B"⟩ : MethodName) jdk_65_method_132_code 3 (some (.array .byte)) :: ws) ({ frames := 2, cells := 1, slots := 4, locals := 76 } : Room)) (fun aa U => aa = #[(.ref tb), (.int bi), (.int ei)] ∧ Z.Warmed39 U.vm ∧ U.heap = h0) (fun _ _ _ _ _ => True) (fun _ U o U' => ∃ v L, o = .returned v ∧ Q_rmcr Z tb bi ei kb vs n i k h0 n0 v U'.heap L ∧ FrameEnd U o U' L ({ frames := 2, cells := 1, slots := 4, locals := 76 } : Room).cells ({ frames := 2, cells := 1, slots := 4, locals := 76 } : Room).slots) := by
  refine MetFree.of_bodySF (plainFor_of_name pn2) hisR ?_
  intro p e s m args below meth c s₁ Bd hml0 hP hK
  obtain ⟨rfl, hZ, hh⟩ := hP
  have hx := Bd.exec
  have hby := Bd.bytes
  have hml : c.maxLocals = 3 := hml0
  have hown : s.vm.findClass "java/util/Arrays" = some m.cls := findClass_of_methodNamed Bd.named
  have hnm := (name_of_methodNamed Bd.named Bd.method).1
  have X0 : Stand p l e ({ frames := 2, cells := 1, slots := 4, locals := 76 } : Room) s m #[(.ref tb), (.int bi), (.int ei)] below meth c s₁ [] 0 0 := Stand.of_body Bd
  have e0 : s₁.heap = h0 := by rw [← hh, Bd.state]; rfl
  have N0 := Fr.nil n0
  have K0 : Keep h0 h0 [] := Keep.refl _ _
  have pre0 : ∀ tgt, Steps p.tables e below (s₁.setTop (mkF m 0 #[.val (.ref tb), .val (.int bi), .val (.int ei)] [])) tgt → Steps p.tables e below (s₁.setTop (entryFrame m #[(.ref tb), (.int bi), (.int ei)] 3)) tgt := fun tgt kgo => castTop (ef_rmcr m tb bi ei) kgo
  have pre1 : ∀ tgt, Steps p.tables e below (s₁.setTop (mkF m 1 #[.val (.ref tb), .val (.int bi), .val (.int ei)] [(.int bi)])) tgt → Steps p.tables e below (s₁.setTop (entryFrame m #[(.ref tb), (.int bi), (.int ei)] 3)) tgt := by
    intro tgt kgo
    refine pre0 _ ?_
    refine XS.iloadN X0.here hx rfl (hb hby d_jdk_65_method_132_code_0) rfl ?_
    show Steps p.tables e below (s₁.setTop (mkF m 1 #[.val (.ref tb), .val (.int bi), .val (.int ei)] [(.int bi)])) _
    exact kgo
  by_cases hc1_2 : bi = (0 : Int32)
  · obtain ⟨cl3, Ar3, q3, S3, M3, H3, G3⟩ := id At
    obtain ⟨_, _, ⟨T4, L4, k4, n4⟩, -, X4, ⟨Lc4, hQ4, l4, y4, z4⟩, st4⟩ := Jvm.LawKit.callS X0 hx (y := (⟨"java/util/Arrays", "copyOfRangeByte", "([BII)[B"⟩ : MethodName)) hown (mvT hZ (ow104 hw)) (mvT hZ (ow105 hw)) (mvT hZ (ow102 hw)) (mvT hZ (ow106 hw)) (by decide) (backOf (W := 0) (rmcrb l Z a0 hw [] tb bi ei kb vs n i k h0 n0 O0 At hvl hbi hei hik hn4) hZ (ow106 hw) (ow102 hw) (by decide) (by decide)) (g := (mkF m 13 #[.val (.ref tb), .val (.int bi), .val (.int ei)] [(.int ei), (.int bi), (.ref tb)])) rfl (by rw [hml]; rfl) (argsL := [(.ref tb), (.int bi), (.int ei)]) (rest := []) (lenOf pd5 rfl) rfl (by show 2 * 0 + _ ≤ _; exact Nat.le_of_eq rfl) (hb hby d_jdk_65_method_132_code_13) (fun _ _ => ⟨rfl, e0, (by decide : 0 + 1 ≤ _), (by decide : 0 + 4 ≤ _)⟩)
    dsimp only [Pt.U, Pt.locs, Pt.cells, Pt.slots] at X4 l4 y4 z4 st4 hQ4
    subst l4 y4 z4
    obtain ⟨nb4, nk4, rfl, Nq4, kp4, gb4, gs4, nA4⟩ := hQ4
    have N5 := Fr.app N0 Nq4
    have O6 := O0.keep kp4 all0
    have K6 := K0.trans kp4 all0
    obtain ⟨fs, hretL, hrun, hended, hW, hsame⟩ := X4.leave (v := some (.ref nb4)) (fun h => by rw [Bd.returns] at h; cases h)
    refine ⟨_, _, pre1 _ ?_, hrun, hended, _, _, rfl, ?_, ⟨_, rfl⟩, hW, hsame.mono (by decide) (by decide)⟩
    · refine XS.ifNo X0.here hx rfl (hb hby d_jdk_65_method_132_code_1) rfl ((if0 _ _).trans (teq hc1_2).2) ?_
      show Steps p.tables e below (s₁.setTop (mkF m 4 #[.val (.ref tb), .val (.int bi), .val (.int ei)] [])) _
      refine XS.iloadN X0.here hx rfl (hb hby d_jdk_65_method_132_code_4) rfl ?_
      show Steps p.tables e below (s₁.setTop (mkF m 5 #[.val (.ref tb), .val (.int bi), .val (.int ei)] [(.int ei)])) _
      refine XS.aloadN X0.here hx rfl (hb hby d_jdk_65_method_132_code_5) rfl rfl ?_
      show Steps p.tables e below (s₁.setTop (mkF m 6 #[.val (.ref tb), .val (.int bi), .val (.int ei)] [(.ref tb), (.int ei)])) _
      refine X0.arraylength hx (by rw [e0]; exact Ar3.1) (State.isArrayOf_alike hZ.alike Ar3.2.1) (g := (mkF m 6 #[.val (.ref tb), .val (.int bi), .val (.int ei)] [(.ref tb), (.int ei)])) rfl rfl (hb hby d_jdk_65_method_132_code_6) _ ?_
      rw [len_of S3 M3]
      show Steps p.tables e below (s₁.setTop (mkF m 7 #[.val (.ref tb), .val (.int bi), .val (.int ei)] [(.int (Int32.ofNat n)), (.int ei)])) _
      refine XS.icmpNo X0.here hx rfl (hb hby d_jdk_65_method_132_code_7) rfl (feq (hne hc1_2)).1 ?_
      show Steps p.tables e below (s₁.setTop (mkF m 10 #[.val (.ref tb), .val (.int bi), .val (.int ei)] [])) _
      refine XS.aloadN X0.here hx rfl (hb hby d_jdk_65_method_132_code_10) rfl rfl ?_
      show Steps p.tables e below (s₁.setTop (mkF m 11 #[.val (.ref tb), .val (.int bi), .val (.int ei)] [(.ref tb)])) _
      refine XS.iloadN X0.here hx rfl (hb hby d_jdk_65_method_132_code_11) rfl ?_
      show Steps p.tables e below (s₁.setTop (mkF m 12 #[.val (.ref tb), .val (.int bi), .val (.int ei)] [(.int bi), (.ref tb)])) _
      refine XS.iloadN X0.here hx rfl (hb hby d_jdk_65_method_132_code_12) rfl ?_
      show Steps p.tables e below (s₁.setTop (mkF m 13 #[.val (.ref tb), .val (.int bi), .val (.int ei)] [(.int ei), (.int bi), (.ref tb)])) _
      refine st4 _ ?_
      show Steps p.tables e below (T4.setTop (mkF m 16 #[.val (.ref tb), .val (.int bi), .val (.int ei)] [(.ref nb4)])) _
      exact retOut X4 hx Bd.returns rfl (Or.inr (Or.inr (Or.inr (Or.inr ⟨rfl, rfl, rfl⟩)))) (hb hby d_jdk_65_method_132_code_16) hretL
    · show Q_rmcr Z tb bi ei kb vs n i k h0 n0 _ T4.heap _
      exact ⟨_, nk4, rfl, N5, K6, gb4, gs4, nA4⟩
  · obtain ⟨_, _, ⟨T7, L7, k7, n7⟩, -, X7, ⟨Lc7, hQ7, l7, y7, z7⟩, st7⟩ := Jvm.LawKit.callS X0 hx (y := (⟨"java/util/Arrays", "copyOfRangeByte", "([BII)[B"⟩ : MethodName)) hown (mvT hZ (ow104 hw)) (mvT hZ (ow105 hw)) (mvT hZ (ow102 hw)) (mvT hZ (ow106 hw)) (by decide) (backOf (W := 0) (rmcrb l Z a0 hw [] tb bi ei kb vs n i k h0 n0 O0 At hvl hbi hei hik hn4) hZ (ow106 hw) (ow102 hw) (by decide) (by decide)) (g := (mkF m 13 #[.val (.ref tb), .val (.int bi), .val (.int ei)] [(.int ei), (.int bi), (.ref tb)])) rfl (by rw [hml]; rfl) (argsL := [(.ref tb), (.int bi), (.int ei)]) (rest := []) (lenOf pd5 rfl) rfl (by show 2 * 0 + _ ≤ _; exact Nat.le_of_eq rfl) (hb hby d_jdk_65_method_132_code_13) (fun _ _ => ⟨rfl, e0, (by decide : 0 + 1 ≤ _), (by decide : 0 + 4 ≤ _)⟩)
    dsimp only [Pt.U, Pt.locs, Pt.cells, Pt.slots] at X7 l7 y7 z7 st7 hQ7
    subst l7 y7 z7
    obtain ⟨nb7, nk7, rfl, Nq7, kp7, gb7, gs7, nA7⟩ := hQ7
    have N8 := Fr.app N0 Nq7
    have O9 := O0.keep kp7 all0
    have K9 := K0.trans kp7 all0
    obtain ⟨fs, hretL, hrun, hended, hW, hsame⟩ := X7.leave (v := some (.ref nb7)) (fun h => by rw [Bd.returns] at h; cases h)
    refine ⟨_, _, pre1 _ ?_, hrun, hended, _, _, rfl, ?_, ⟨_, rfl⟩, hW, hsame.mono (by decide) (by decide)⟩
    · refine XS.ifYes X0.here hx rfl (pc0 := 1) (pc' := 10) rfl (hb hby d_jdk_65_method_132_code_1) rfl ((if0 _ _).trans (feq hc1_2).2) (by decide) (by decide) ?_
      show Steps p.tables e below (s₁.setTop (mkF m 10 #[.val (.ref tb), .val (.int bi), .val (.int ei)] [])) _
      refine XS.aloadN X0.here hx rfl (hb hby d_jdk_65_method_132_code_10) rfl rfl ?_
      show Steps p.tables e below (s₁.setTop (mkF m 11 #[.val (.ref tb), .val (.int bi), .val (.int ei)] [(.ref tb)])) _
      refine XS.iloadN X0.here hx rfl (hb hby d_jdk_65_method_132_code_11) rfl ?_
      show Steps p.tables e below (s₁.setTop (mkF m 12 #[.val (.ref tb), .val (.int bi), .val (.int ei)] [(.int bi), (.ref tb)])) _
      refine XS.iloadN X0.here hx rfl (hb hby d_jdk_65_method_132_code_12) rfl ?_
      show Steps p.tables e below (s₁.setTop (mkF m 13 #[.val (.ref tb), .val (.int bi), .val (.int ei)] [(.int ei), (.int bi), (.ref tb)])) _
      refine st7 _ ?_
      show Steps p.tables e below (T7.setTop (mkF m 16 #[.val (.ref tb), .val (.int bi), .val (.int ei)] [(.ref nb7)])) _
      exact retOut X7 hx Bd.returns rfl (Or.inr (Or.inr (Or.inr (Or.inr ⟨rfl, rfl, rfl⟩)))) (hb hby d_jdk_65_method_132_code_16) hretL
    · show Q_rmcr Z tb bi ei kb vs n i k h0 n0 _ T7.heap _
      exact ⟨_, nk7, rfl, N8, K9, gb7, gs7, nA7⟩
theorem d_jdk_42_method_151_code_0 : decode jdk_42_method_151_code 0 = .ok (.aload_n 0, 1) := by decide +kernel
theorem d_jdk_42_method_151_code_1 : decode jdk_42_method_151_code 1 = .ok (.invokespecial 1, 3) := by decide +kernel
theorem d_jdk_42_method_151_code_4 : decode jdk_42_method_151_code 4 = .ok (.aload_n 0, 1) := by decide +kernel
theorem d_jdk_42_method_151_code_5 : decode jdk_42_method_151_code 5 = .ok (.aload_n 1, 1) := by decide +kernel
theorem d_jdk_42_method_151_code_6 : decode jdk_42_method_151_code 6 = .ok (.putfield 9, 3) := by decide +kernel
theorem d_jdk_42_method_151_code_9 : decode jdk_42_method_151_code 9 = .ok (.aload_n 0, 1) := by decide +kernel
theorem d_jdk_42_method_151_code_10 : decode jdk_42_method_151_code 10 = .ok (.iload_n 2, 1) := by decide +kernel
theorem d_jdk_42_method_151_code_11 : decode jdk_42_method_151_code 11 = .ok (.putfield 15, 3) := by decide +kernel
theorem d_jdk_42_method_151_code_14 : decode jdk_42_method_151_code 14 = .ok (.return_, 1) := by decide +kernel
def Q_rmbb (Z : State) (a : Addr) (tb : Addr) (h0 : Heap) (n0 : Nat) (v : Option Value) (h : Heap) (L : List Loc) : Prop := v = none ∧ Fr n0 L ∧ Keep h0 h [a] ∧ Exa Z h a "java/lang/String" ∧ Fld Z h a "java/lang/String" "value" "[B" (.ref tb) ∧ Fld Z h a "java/lang/String" "coder" "B" (.int 0)
theorem ef_rmbb (m : MethodId) (a : Addr) (tb : Addr) : entryFrame m #[(.ref a), (.ref tb), (.int (0 : Int32))] 3 = mkF m 0 #[.val (.ref a), .val (.ref tb), .val (.int (0 : Int32))] [] := by first | (simp [entryFrame, mkF, argsToLocals, Value.category]; done) | rfl
set_option maxRecDepth 65536 in
set_option maxHeartbeats 40000000 in
theorem rmbb (l : Launch) (Z : State) (a0 : Array Value) (hw : ∀ d ∈ tables_1, d.before a0 Z = true) (ws : List Jvm.Cond) (a : Addr) (tb : Addr) (h0 : Heap) (n0 : Nat) (O0 : Old Z n0 h0) (Ea : Exa Z h0 a "java/lang/String") (Fv : Fld Z h0 a "java/lang/String" "value" "[B" .null) (Fc : Fld Z h0 a "java/lang/String" "coder" "B" (.int (0 : Int32))) (ga : n0 ≤ a) :
    MetFree l (⟨"java/lang/String", "<init>", "([BB)V"⟩ : MethodName) (head1 (Jvm.Cond.code (⟨"java/lang/String", "<init>", "([BB)V"⟩ : MethodName) jdk_42_method_151_code 3 none :: ws) ({ frames := 1, cells := 0, slots := 0, locals := 12 } : Room)) (fun aa U => aa = #[(.ref a), (.ref tb), (.int (0 : Int32))] ∧ Z.Warmed39 U.vm ∧ U.heap = h0) (fun _ _ _ _ _ => True) (fun _ U o U' => ∃ v L, o = .returned v ∧ Q_rmbb Z a tb h0 n0 v U'.heap L ∧ FrameEnd U o U' L ({ frames := 1, cells := 0, slots := 0, locals := 12 } : Room).cells ({ frames := 1, cells := 0, slots := 0, locals := 12 } : Room).slots) := by
  refine MetFree.of_bodySF (plainFor_of_name pn0) hisR ?_
  intro p e s m args below meth c s₁ Bd hml0 hP hK
  obtain ⟨rfl, hZ, hh⟩ := hP
  have hx := Bd.exec
  have hby := Bd.bytes
  have hml : c.maxLocals = 3 := hml0
  have hown : s.vm.findClass "java/lang/String" = some m.cls := findClass_of_methodNamed Bd.named
  have hnm := (name_of_methodNamed Bd.named Bd.method).1
  have X0 : Stand p l e ({ frames := 1, cells := 0, slots := 0, locals := 12 } : Room) s m #[(.ref a), (.ref tb), (.int (0 : Int32))] below meth c s₁ [] 0 0 := Stand.of_body Bd
  have e0 : s₁.heap = h0 := by rw [← hh, Bd.state]; rfl
  have N0 := Fr.nil n0
  have K0 : Keep h0 h0 [a] := Keep.refl _ _
  have pre0 : ∀ tgt, Steps p.tables e below (s₁.setTop (mkF m 0 #[.val (.ref a), .val (.ref tb), .val (.int (0 : Int32))] [])) tgt → Steps p.tables e below (s₁.setTop (entryFrame m #[(.ref a), (.ref tb), (.int (0 : Int32))] 3)) tgt := fun tgt kgo => castTop (ef_rmbb m a tb) kgo
  obtain ⟨T1, X1, e1, st1⟩ := initO X0 hx hZ hown (ow19 hw) (ow20 hw) (ow21 hw) e0 (g := (mkF m 1 #[.val (.ref a), .val (.ref tb), .val (.int (0 : Int32))] [(.ref a)])) rfl (by rw [hml]; rfl) rfl (hb hby d_jdk_42_method_151_code_1) (by decide) (W := 0) (by show 2 * 0 + _ ≤ _; exact Nat.le_of_eq rfl) (by decide)
  obtain ⟨T2, h2, X2, e2, W2, st2⟩ := putF X1 hx hZ hown (host := "") (Or.inl (ow28 hw)) Via.refl e1 Fv Ea (Or.inr ⟨(ow24 hw), rfl, hnm⟩) (ow10 hw) (ty := (.array .byte)) (by decide) rfl rfl (g := (mkF m 6 #[.val (.ref a), .val (.ref tb), .val (.int (0 : Int32))] [(.ref tb), (.ref a)])) rfl rfl (hb hby d_jdk_42_method_151_code_6)
  have Fw2 := Fv.same W2
  have N3 := Fr.snoc X2 N0 ga
  have O3 := O0.wr W2 ga
  have K3 := K0.wr W2 (Or.inl (List.mem_of_getElem? (i := 0) rfl))
  have f4 := (Ea.wr W2)
  have f5 := (Fc.other W2 (Or.inr (slot_ne (Or.inr (ow25 hw)) (Or.inr (ow24 hw)) (by decide) (t := .byte) (t' := (.array .byte)) (by decide) (by decide))))
  obtain ⟨T6, h6, X6, e6, W6, st6⟩ := putFN X2 hx hZ hown (ow29 hw) Via.refl e2 f5 f4 (Or.inr ⟨(ow25 hw), rfl, hnm⟩) (ow10 hw) (ty := .byte) (v' := (.int (nar .byte (0 : Int32)))) (by decide) rfl (fits_nar_byte _) (g := (mkF m 11 #[.val (.ref a), .val (.ref tb), .val (.int (0 : Int32))] [(.int (0 : Int32)), (.ref a)])) rfl rfl (hb hby d_jdk_42_method_151_code_11)
  have Fw6 := f5.same W6
  have N7 := Fr.snoc X6 N3 ga
  have O7 := O3.wr W6 ga
  have K7 := K3.wr W6 (Or.inl (List.mem_of_getElem? (i := 0) rfl))
  have f8 := (f4.wr W6)
  have f9 := (Fw2.other W6 (Or.inr (slot_ne (Or.inr (ow24 hw)) (Or.inr (ow25 hw)) (by decide) (t := (.array .byte)) (t' := .byte) (by decide) (by decide))))
  obtain ⟨fs, hretL, hrun, hended, hW, hsame⟩ := X6.leave (v := none) (fun _ => rfl)
  refine ⟨_, _, pre0 _ ?_, hrun, hended, _, _, rfl, ?_, ⟨_, rfl⟩, hW, hsame.mono (by decide) (by decide)⟩
  · refine XS.aloadN X0.here hx rfl (hb hby d_jdk_42_method_151_code_0) rfl rfl ?_
    show Steps p.tables e below (s₁.setTop (mkF m 1 #[.val (.ref a), .val (.ref tb), .val (.int (0 : Int32))] [(.ref a)])) _
    refine st1 _ ?_
    show Steps p.tables e below (T1.setTop (mkF m 4 #[.val (.ref a), .val (.ref tb), .val (.int (0 : Int32))] [])) _
    refine XS.aloadN X1.here hx rfl (hb hby d_jdk_42_method_151_code_4) rfl rfl ?_
    show Steps p.tables e below (T1.setTop (mkF m 5 #[.val (.ref a), .val (.ref tb), .val (.int (0 : Int32))] [(.ref a)])) _
    refine XS.aloadN X1.here hx rfl (hb hby d_jdk_42_method_151_code_5) rfl rfl ?_
    show Steps p.tables e below (T1.setTop (mkF m 6 #[.val (.ref a), .val (.ref tb), .val (.int (0 : Int32))] [(.ref tb), (.ref a)])) _
    refine st2 _ ?_
    show Steps p.tables e below (T2.setTop (mkF m 9 #[.val (.ref a), .val (.ref tb), .val (.int (0 : Int32))] [])) _
    refine XS.aloadN X2.here hx rfl (hb hby d_jdk_42_method_151_code_9) rfl rfl ?_
    show Steps p.tables e below (T2.setTop (mkF m 10 #[.val (.ref a), .val (.ref tb), .val (.int (0 : Int32))] [(.ref a)])) _
    refine XS.iloadN X2.here hx rfl (hb hby d_jdk_42_method_151_code_10) rfl ?_
    show Steps p.tables e below (T2.setTop (mkF m 11 #[.val (.ref a), .val (.ref tb), .val (.int (0 : Int32))] [(.int (0 : Int32)), (.ref a)])) _
    refine st6 _ ?_
    show Steps p.tables e below (T6.setTop (mkF m 14 #[.val (.ref a), .val (.ref tb), .val (.int (0 : Int32))] [])) _
    exact X6.returnOut hx Bd.returns (hb hby d_jdk_42_method_151_code_14) hretL
  · show Q_rmbb Z a tb h0 n0 _ T6.heap _
    rw [e6]
    exact ⟨rfl, N7, K7, f8, f9, Fw6⟩
theorem own_strsub {Z : State} {h : Heap} {b t : Addr} {kb : ClassId} {cs : List Int32} {i k : Nat} (E : Exa Z h b "java/lang/String") (V : Fld Z h b "java/lang/String" "value" "[B" (.ref t)) (C : Fld Z h b "java/lang/String" "coder" "B" (.int 0)) (sp : ∀ c ∈ cs, ¬ c < 0 ∧ ¬ (255 : Int32) < c) (hl : cs.length ≤ 4) (hik : i + k ≤ cs.length)
    (A : Arv Z h t kb .byte (Int32.ofNat k) ((((cs.map fun c => c.toInt8.toInt32).map Value.int).drop i).take k) (.int (0 : Int32))) : StrP Z h b ((cs.drop i).take k) := by
  have hk : ((cs.drop i).take k).length = k := by simp; omega
  refine ⟨E, C, fun c hc => sp c (List.mem_of_mem_drop (List.mem_of_mem_take hc)), by omega, t, kb, V, ?_⟩
  rw [hk]
  simpa [List.map_take, List.map_drop] using A
theorem own_len {cs : List Int32} : ((cs.map fun c => c.toInt8.toInt32).map Value.int).length = cs.length := by simp
theorem d_jdk_43_method_47_code_0 : decode jdk_43_method_47_code 0 = .ok (.iload_n 2, 1) := by decide +kernel
theorem d_jdk_43_method_47_code_1 : decode jdk_43_method_47_code 1 = .ok (.ifCond .ne 6, 3) := by decide +kernel
theorem d_jdk_43_method_47_code_4 : decode jdk_43_method_47_code 4 = .ok (.ldc 151, 2) := by decide +kernel
theorem d_jdk_43_method_47_code_6 : decode jdk_43_method_47_code 6 = .ok (.areturn, 1) := by decide +kernel
theorem d_jdk_43_method_47_code_7 : decode jdk_43_method_47_code 7 = .ok (.new 1, 3) := by decide +kernel
theorem d_jdk_43_method_47_code_10 : decode jdk_43_method_47_code 10 = .ok (.dup, 1) := by decide +kernel
theorem d_jdk_43_method_47_code_11 : decode jdk_43_method_47_code 11 = .ok (.aload_n 0, 1) := by decide +kernel
theorem d_jdk_43_method_47_code_12 : decode jdk_43_method_47_code 12 = .ok (.iload_n 1, 1) := by decide +kernel
theorem d_jdk_43_method_47_code_13 : decode jdk_43_method_47_code 13 = .ok (.iload_n 1, 1) := by decide +kernel
theorem d_jdk_43_method_47_code_14 : decode jdk_43_method_47_code 14 = .ok (.iload_n 2, 1) := by decide +kernel
theorem d_jdk_43_method_47_code_15 : decode jdk_43_method_47_code 15 = .ok (.iadd, 1) := by decide +kernel
theorem d_jdk_43_method_47_code_16 : decode jdk_43_method_47_code 16 = .ok (.invokestatic 232, 3) := by decide +kernel
theorem d_jdk_43_method_47_code_19 : decode jdk_43_method_47_code 19 = .ok (.iconst 0, 1) := by decide +kernel
theorem d_jdk_43_method_47_code_20 : decode jdk_43_method_47_code 20 = .ok (.invokespecial 112, 3) := by decide +kernel
theorem d_jdk_43_method_47_code_23 : decode jdk_43_method_47_code 23 = .ok (.areturn, 1) := by decide +kernel
def Q_rmns (Z : State) (tb : Addr) (bi : Int32) (ln : Int32) (kb : ClassId) (cs : List Int32) (i : Nat) (k : Nat) (h0 : Heap) (n0 : Nat) (v : Option Value) (h : Heap) (L : List Loc) : Prop := ∃ b : Addr, v = some (.ref b) ∧ Fr n0 L ∧ Keep h0 h [] ∧ StrP Z h b ((cs.drop i).take k)
theorem ef_rmns (m : MethodId) (tb : Addr) (bi : Int32) (ln : Int32) : entryFrame m #[(.ref tb), (.int bi), (.int ln)] 3 = mkF m 0 #[.val (.ref tb), .val (.int bi), .val (.int ln)] [] := by first | (simp [entryFrame, mkF, argsToLocals, Value.category]; done) | rfl
set_option maxRecDepth 65536 in
set_option maxHeartbeats 40000000 in
theorem rmns (l : Launch) (Z : State) (a0 : Array Value) (hw : ∀ d ∈ tables_1, d.before a0 Z = true) (ws : List Jvm.Cond) (tb : Addr) (bi : Int32) (ln : Int32) (kb : ClassId) (cs : List Int32) (i : Nat) (k : Nat) (h0 : Heap) (n0 : Nat) (O0 : Old Z n0 h0) (At : Arv Z h0 tb kb .byte (Int32.ofNat (List.length cs)) ((List.map (fun c => c.toInt8.toInt32) cs).map Value.int) (.int (0 : Int32))) (sp : ∀ c ∈ cs, ¬ c < 0 ∧ ¬ (255 : Int32) < c) (hl4 : cs.length ≤ 4) (hbi : bi = Int32.ofNat i) (hln : ln = Int32.ofNat k) (hik : i + k ≤ cs.length) (hne : i = 0 → ¬ k = cs.length) :
    MetFree l (⟨"java/lang/StringLatin1", "newString", "([BII)Ljava/lang/String;"⟩ : MethodName) (head1 (Jvm.Cond.code (⟨"java/lang/StringLatin1", "newString", "([BII)Ljava/lang/String;"⟩ : MethodName) jdk_43_method_47_code 3 (some (.object "java/lang/String")) :: ws) ({ frames := 3, cells := 2, slots := 8, locals := 92 } : Room)) (fun aa U => aa = #[(.ref tb), (.int bi), (.int ln)] ∧ Z.Warmed39 U.vm ∧ U.heap = h0 ∧ CHv Z EL0 U.vm h0) (fun _ _ _ _ _ => True) (fun _ U o U' => ∃ v L, o = .returned v ∧ Q_rmns Z tb bi ln kb cs i k h0 n0 v U'.heap L ∧ CHr Z EL0 U.vm U.heap U'.vm U'.heap ∧ ReturnedEndW U o U' L ({ frames := 3, cells := 2, slots := 8, locals := 92 } : Room).cells ({ frames := 3, cells := 2, slots := 8, locals := 92 } : Room).slots) := by
  refine MetFree.of_bodySF (plainFor_of_name pn5) hisR ?_
  intro p e s m args below meth c s₁ Bd hml0 hP hK
  obtain ⟨rfl, hZ, hh, hCH⟩ := hP
  have hx := Bd.exec
  have hby := Bd.bytes
  have hml : c.maxLocals = 3 := hml0
  have hown : s.vm.findClass "java/lang/StringLatin1" = some m.cls := findClass_of_methodNamed Bd.named
  have hnm := (name_of_methodNamed Bd.named Bd.method).1
  have X0 : Stand p l e ({ frames := 3, cells := 2, slots := 8, locals := 92 } : Room) (s.setVm s.vm) m #[(.ref tb), (.int bi), (.int ln)] below meth c s₁ [] 0 0 := Stand.of_body Bd
  have e0 : s₁.heap = h0 := by rw [← hh, Bd.state]; rfl
  have N0 := Fr.nil n0
  have K0 : Keep h0 h0 [] := Keep.refl _ _
  have pre0 : ∀ tgt, Steps p.tables e below (s₁.setTop (mkF m 0 #[.val (.ref tb), .val (.int bi), .val (.int ln)] [])) tgt → Steps p.tables e below (s₁.setTop (entryFrame m #[(.ref tb), (.int bi), (.int ln)] 3)) tgt := fun tgt kgo => castTop (ef_rmns m tb bi ln) kgo
  have hS0 : s.Since s.vm 0 := (State.WarmedH.refl s).since 0
  have hk0 : 0 ≤ h0.size := Nat.zero_le _
  have CH0 : CHr Z EL0 s.vm h0 s.vm h0 := CHr.refl hCH
  have pre1 : ∀ tgt, Steps p.tables e below (s₁.setTop (mkF m 1 #[.val (.ref tb), .val (.int bi), .val (.int ln)] [(.int ln)])) tgt → Steps p.tables e below (s₁.setTop (entryFrame m #[(.ref tb), (.int bi), (.int ln)] 3)) tgt := by
    intro tgt kgo
    refine pre0 _ ?_
    refine XS.iloadN X0.here hx rfl (hb hby d_jdk_43_method_47_code_0) rfl ?_
    show Steps p.tables e below (s₁.setTop (mkF m 1 #[.val (.ref tb), .val (.int bi), .val (.int ln)] [(.int ln)])) _
    exact kgo
  by_cases hc1_2 : ln = (0 : Int32)
  · obtain ⟨b3, T3, h3, kk3, d3, k3, X3, e3, E3, hS3, hk3, hZ3, hown3, Ex3, Fc3, Fv3, Av3, -, -, CR3, -, sn3, st3⟩ := ldcCH X0 hx hZ hown (ow125 hw) (own_wS hw) e0 hS0 hk0 (own_EW hw) (by decide) CH0.1 (vs := []) (z := (0 : Int32)) ⟨by decide, rfl⟩ (by decide) (by decide) (g := (mkF m 4 #[.val (.ref tb), .val (.int bi), .val (.int ln)] [])) rfl (hb hby d_jdk_43_method_47_code_4) (n := 0) (by decide) (by decide) (by decide) (by decide)
    have O4 := O0.ext E3
    have K4 := K0.ext E3
    have CH4 := CH0.trans CR3
    obtain ⟨fs, hretL, hrun, hended, hEnd⟩ := Stand.leaveW X3 hS3 (by rw [e3]; exact hk3) (v := some (.ref b3)) (fun h => by rw [Bd.returns] at h; cases h)
    have hCf : CHr Z EL0 s.vm s.heap T3.vm T3.heap := by rw [hh, e3]; exact CH4.trans (CHv.at X3 hZ3 (own_EW hw) CH4.1)
    refine ⟨_, _, pre1 _ ?_, hrun, hended, _, _, rfl, ?_, hCf, hEnd.1, hEnd.2.1, hEnd.2.2.1, hEnd.2.2.2.mono (by decide) (by decide)⟩
    · refine XS.ifNo X0.here hx rfl (hb hby d_jdk_43_method_47_code_1) rfl ((if0 _ _).trans (teq hc1_2).2) ?_
      show Steps p.tables e below (s₁.setTop (mkF m 4 #[.val (.ref tb), .val (.int bi), .val (.int ln)] [])) _
      refine st3 _ ?_
      show Steps p.tables e below (T3.setTop (mkF m 6 #[.val (.ref tb), .val (.int bi), .val (.int ln)] [(.ref b3)])) _
      exact retOut X3 hx Bd.returns rfl (Or.inr (Or.inr (Or.inr (Or.inr ⟨rfl, rfl, rfl⟩)))) (hb hby d_jdk_43_method_47_code_6) hretL
    · show Q_rmns Z tb bi ln kb cs i k h0 n0 _ T3.heap _
      rw [e3]
      have hk0' : k = 0 := (on_eq (by omega) (by omega)).mp (hln ▸ hc1_2 : Int32.ofNat k = Int32.ofNat 0)
      refine ⟨_, rfl, N0, K4, ?_⟩
      rw [hk0', List.take_zero]
      exact ⟨Ex3, Fc3, (fun _ q => nomatch q), Nat.zero_le _, d3, k3, Fv3, Av3⟩
  · obtain ⟨T5, h5, X5, e5, E5, A5, D5, U5, st5⟩ := newO X0 hx hZ hown (ow99 hw) (ow10 hw) (ow11 hw) e0 (g := (mkF m 7 #[.val (.ref tb), .val (.int bi), .val (.int ln)] [])) rfl (hb hby d_jdk_43_method_47_code_7) (by decide) (by decide)
    obtain ⟨b5, g5⟩ : ∃ z, z = h0.size := ⟨_, rfl⟩
    rw [← g5] at A5 D5 U5 st5
    have gn5 : n0 ≤ b5 := Nat.le_trans (own_sz O0) (Nat.le_of_eq g5.symm)
    have sz5 : h0.size ≤ b5 := Nat.le_trans K0.1 (Nat.le_of_eq g5.symm)
    have netb_5 : tb ≠ b5 := Nat.ne_of_lt (Nat.lt_of_lt_of_le At.lt (Nat.le_of_eq g5.symm))
    have Y5 := Safe.ext E5 CH0.1 (Safe.new (x := b5) (Nat.le_of_eq g5.symm))
    have CH6 := CH0.trans (CHr.ext E5 CH0.1)
    have hk6 := Nat.le_trans hk0 E5.1
    have O7 := O0.ext E5
    have K7 := K0.ext E5
    have Fvalue_5 : Fld Z h5 b5 "java/lang/String" "value" "[B" .null := D5 (Or.inr (ow24 hw)) (ty := (.array .byte)) (by decide)
    have Fcoder_5 : Fld Z h5 b5 "java/lang/String" "coder" "B" (.int (0 : Int32)) := D5 (Or.inr (ow25 hw)) (ty := .byte) (by decide)
    have f8 := (At.ext E5)
    obtain ⟨_, _, ⟨T9, L9, k9, n9⟩, -, X9, ⟨Lc9, hQ9, l9, y9, z9⟩, st9⟩ := Jvm.LawKit.callS X5 hx (y := (⟨"java/util/Arrays", "copyOfRange", "([BII)[B"⟩ : MethodName)) hown (mvT hZ (ow100 hw)) (mvT hZ (ow101 hw)) (mvT hZ (ow102 hw)) (mvT hZ (ow103 hw)) (by decide) (backOf (W := 2) (rmcr l Z a0 hw [] tb bi (bi + ln) kb _ (List.length cs) i k h5 n0 O7 f8 own_len hbi (by rw [hbi, hln]; exact on_add i k) hik hl4 (fun q1 q2 => hne ((on_eq (by omega) (by omega)).mp (hbi ▸ q1 : Int32.ofNat i = Int32.ofNat 0)) (by rw [hbi, hln, on_add, on_eq (by omega) (by omega)] at q2; have := (on_eq (i := i) (j := 0) (by omega) (by omega)).mp (hbi ▸ q1); omega))) hZ (ow103 hw) (ow102 hw) (by decide) (by decide)) (g := (mkF m 16 #[.val (.ref tb), .val (.int bi), .val (.int ln)] [(.int (bi + ln)), (.int bi), (.ref tb), (.ref b5), (.ref b5)])) rfl (by rw [hml]; rfl) (argsL := [(.ref tb), (.int bi), (.int (bi + ln))]) (rest := [(.ref b5), (.ref b5)]) (lenOf pd5 rfl) rfl (by show 2 * 0 + _ ≤ _; exact Nat.le_of_eq rfl) (hb hby d_jdk_43_method_47_code_16) (fun _ _ => ⟨rfl, e5, (by decide : 1 + 1 ≤ _), (by decide : 4 + 4 ≤ _)⟩)
    dsimp only [Pt.U, Pt.locs, Pt.cells, Pt.slots] at X9 l9 y9 z9 st9 hQ9
    subst l9 y9 z9
    obtain ⟨nb9, nk9, rfl, Nq9, kp9, gb9, gs9, nA9⟩ := hQ9
    have N10 := Fr.app N0 Nq9
    have CH11 := CH6.trans (CHr.keep kp9 sf0 CH6.1)
    have hk11 := Nat.le_trans hk6 kp9.1
    have O12 := O7.keep kp9 all0
    have K12 := K7.trans kp9 all0
    have sq9 : b5 < _ := A5.lt
    have f13 := (A5.keep kp9)
    have f14 := (Fvalue_5.keep kp9 nin0)
    have f15 := (Fcoder_5.keep kp9 nin0)
    obtain ⟨_, _, ⟨T16, L16, k16, n16⟩, -, X16, ⟨Lc16, hQ16, l16, y16, z16⟩, st16⟩ := X9.specialBack hx (y := (⟨"java/lang/String", "<init>", "([BB)V"⟩ : MethodName)) rfl hown (mvT hZ (ow118 hw)) (mvT hZ (ow119 hw)) (mvT hZ (ow120 hw)) (by decide) (backOf (W := 1) (rmbb l Z a0 hw [] b5 nb9  T9.heap n0 O12 f13 f14 f15 gn5) hZ (ow120 hw) (ow11 hw) (by decide) (by decide)) (g := (mkF m 20 #[.val (.ref tb), .val (.int bi), .val (.int ln)] [(.int (0 : Int32)), (.ref nb9), (.ref b5), (.ref b5)])) rfl (by rw [hml]; rfl) (Steps.refl _) (a := b5) (argsL := [(.ref nb9), (.int (0 : Int32))]) (rest := [(.ref b5)]) (lenOf pd6 rfl) rfl (by show 2 * 0 + _ ≤ _; exact Nat.le_of_eq rfl) (hb hby d_jdk_43_method_47_code_20) (fun _ _ => ⟨rfl, rfl, (by decide : 2 + 0 ≤ _), (by decide : 8 + 0 ≤ _)⟩)
    dsimp only [Pt.U, Pt.locs, Pt.cells, Pt.slots] at X16 l16 y16 z16 st16 hQ16
    subst l16 y16 z16
    obtain ⟨rfl, Nq16, kp16, sE16, sV16, sC16⟩ := hQ16
    have N17 := Fr.app N10 Nq16
    have f18 := (Safe.keep kp9 sf0 CH6.1 Y5)
    have CH19 := CH11.trans (CHr.keep kp16 (sfS f18 sf0) CH11.1)
    have hk19 := Nat.le_trans hk11 kp16.1
    have O20 := O12.keep kp16 (allS gn5 all0)
    have K20 := K12.trans kp16 (allS (Or.inr sz5) all0)
    have f21 := (nA9.keep kp16 (ninS (Ne.symm (Nat.ne_of_lt (Nat.lt_of_lt_of_le sq9 gs9))) nin0))
    obtain ⟨fs, hretL, hrun, hended, hEnd⟩ := Stand.leaveW X16 hS0 hk19 (v := some (.ref b5)) (fun h => by rw [Bd.returns] at h; cases h)
    have hCf : CHr Z EL0 s.vm s.heap T16.vm T16.heap := by rw [hh]; exact CH19.trans (CHv.at X16 hZ (own_EW hw) CH19.1)
    refine ⟨_, _, pre1 _ ?_, hrun, hended, _, _, rfl, ?_, hCf, hEnd.1, hEnd.2.1, hEnd.2.2.1, hEnd.2.2.2.mono (by decide) (by decide)⟩
    · refine XS.ifYes X0.here hx rfl (pc0 := 1) (pc' := 7) rfl (hb hby d_jdk_43_method_47_code_1) rfl ((if0 _ _).trans (feq hc1_2).2) (by decide) (by decide) ?_
      show Steps p.tables e below (s₁.setTop (mkF m 7 #[.val (.ref tb), .val (.int bi), .val (.int ln)] [])) _
      refine st5 _ ?_
      show Steps p.tables e below (T5.setTop (mkF m 10 #[.val (.ref tb), .val (.int bi), .val (.int ln)] [(.ref b5)])) _
      refine XS.dup X5.here hx rfl (hb hby d_jdk_43_method_47_code_10) rfl rfl ?_
      show Steps p.tables e below (T5.setTop (mkF m 11 #[.val (.ref tb), .val (.int bi), .val (.int ln)] [(.ref b5), (.ref b5)])) _
      refine XS.aloadN X5.here hx rfl (hb hby d_jdk_43_method_47_code_11) rfl rfl ?_
      show Steps p.tables e below (T5.setTop (mkF m 12 #[.val (.ref tb), .val (.int bi), .val (.int ln)] [(.ref tb), (.ref b5), (.ref b5)])) _
      refine XS.iloadN X5.here hx rfl (hb hby d_jdk_43_method_47_code_12) rfl ?_
      show Steps p.tables e below (T5.setTop (mkF m 13 #[.val (.ref tb), .val (.int bi), .val (.int ln)] [(.int bi), (.ref tb), (.ref b5), (.ref b5)])) _
      refine XS.iloadN X5.here hx rfl (hb hby d_jdk_43_method_47_code_13) rfl ?_
      show Steps p.tables e below (T5.setTop (mkF m 14 #[.val (.ref tb), .val (.int bi), .val (.int ln)] [(.int bi), (.int bi), (.ref tb), (.ref b5), (.ref b5)])) _
      refine XS.iloadN X5.here hx rfl (hb hby d_jdk_43_method_47_code_14) rfl ?_
      show Steps p.tables e below (T5.setTop (mkF m 15 #[.val (.ref tb), .val (.int bi), .val (.int ln)] [(.int ln), (.int bi), (.int bi), (.ref tb), (.ref b5), (.ref b5)])) _
      refine XS.iadd X5.here hx rfl (hb hby d_jdk_43_method_47_code_15) rfl ?_
      show Steps p.tables e below (T5.setTop (mkF m 16 #[.val (.ref tb), .val (.int bi), .val (.int ln)] [(.int (bi + ln)), (.int bi), (.ref tb), (.ref b5), (.ref b5)])) _
      refine st9 _ ?_
      show Steps p.tables e below (T9.setTop (mkF m 19 #[.val (.ref tb), .val (.int bi), .val (.int ln)] [(.ref nb9), (.ref b5), (.ref b5)])) _
      refine XS.iconst X9.here hx rfl (hb hby d_jdk_43_method_47_code_19) ?_
      show Steps p.tables e below (T9.setTop (mkF m 20 #[.val (.ref tb), .val (.int bi), .val (.int ln)] [(.int (0 : Int32)), (.ref nb9), (.ref b5), (.ref b5)])) _
      refine st16.trans ?_
      show Steps p.tables e below (T16.setTop (mkF m 23 #[.val (.ref tb), .val (.int bi), .val (.int ln)] [(.ref b5)])) _
      exact retOut X16 hx Bd.returns rfl (Or.inr (Or.inr (Or.inr (Or.inr ⟨rfl, rfl, rfl⟩)))) (hb hby d_jdk_43_method_47_code_23) hretL
    · show Q_rmns Z tb bi ln kb cs i k h0 n0 _ T16.heap _
      exact ⟨_, rfl, N17, K20, own_strsub sE16 sV16 sC16 sp hl4 hik f21⟩
theorem d_jdk_42_method_92_code_0 : decode jdk_42_method_92_code 0 = .ok (.aload_n 0, 1) := by decide +kernel
theorem d_jdk_42_method_92_code_1 : decode jdk_42_method_92_code 1 = .ok (.invokevirtual 505, 3) := by decide +kernel
theorem d_jdk_42_method_92_code_4 : decode jdk_42_method_92_code 4 = .ok (.istore_n 3, 1) := by decide +kernel
theorem d_jdk_42_method_92_code_5 : decode jdk_42_method_92_code 5 = .ok (.iload_n 1, 1) := by decide +kernel
theorem d_jdk_42_method_92_code_6 : decode jdk_42_method_92_code 6 = .ok (.iload_n 2, 1) := by decide +kernel
theorem d_jdk_42_method_92_code_7 : decode jdk_42_method_92_code 7 = .ok (.iload_n 3, 1) := by decide +kernel
theorem d_jdk_42_method_92_code_8 : decode jdk_42_method_92_code 8 = .ok (.invokestatic 521, 3) := by decide +kernel
theorem d_jdk_42_method_92_code_11 : decode jdk_42_method_92_code 11 = .ok (.iload_n 1, 1) := by decide +kernel
theorem d_jdk_42_method_92_code_12 : decode jdk_42_method_92_code 12 = .ok (.ifCond .ne 10, 3) := by decide +kernel
theorem d_jdk_42_method_92_code_15 : decode jdk_42_method_92_code 15 = .ok (.iload_n 2, 1) := by decide +kernel
theorem d_jdk_42_method_92_code_16 : decode jdk_42_method_92_code 16 = .ok (.iload_n 3, 1) := by decide +kernel
theorem d_jdk_42_method_92_code_17 : decode jdk_42_method_92_code 17 = .ok (.if_icmp .ne 5, 3) := by decide +kernel
theorem d_jdk_42_method_92_code_20 : decode jdk_42_method_92_code 20 = .ok (.aload_n 0, 1) := by decide +kernel
theorem d_jdk_42_method_92_code_21 : decode jdk_42_method_92_code 21 = .ok (.areturn, 1) := by decide +kernel
theorem d_jdk_42_method_92_code_22 : decode jdk_42_method_92_code 22 = .ok (.iload_n 2, 1) := by decide +kernel
theorem d_jdk_42_method_92_code_23 : decode jdk_42_method_92_code 23 = .ok (.iload_n 1, 1) := by decide +kernel
theorem d_jdk_42_method_92_code_24 : decode jdk_42_method_92_code 24 = .ok (.isub, 1) := by decide +kernel
theorem d_jdk_42_method_92_code_25 : decode jdk_42_method_92_code 25 = .ok (.istore 4, 2) := by decide +kernel
theorem d_jdk_42_method_92_code_27 : decode jdk_42_method_92_code 27 = .ok (.aload_n 0, 1) := by decide +kernel
theorem d_jdk_42_method_92_code_28 : decode jdk_42_method_92_code 28 = .ok (.invokevirtual 492, 3) := by decide +kernel
theorem d_jdk_42_method_92_code_31 : decode jdk_42_method_92_code 31 = .ok (.ifCond .eq 16, 3) := by decide +kernel
theorem d_jdk_42_method_92_code_34 : decode jdk_42_method_92_code 34 = .ok (.aload_n 0, 1) := by decide +kernel
theorem d_jdk_42_method_92_code_35 : decode jdk_42_method_92_code 35 = .ok (.getfield 9, 3) := by decide +kernel
theorem d_jdk_42_method_92_code_38 : decode jdk_42_method_92_code 38 = .ok (.iload_n 1, 1) := by decide +kernel
theorem d_jdk_42_method_92_code_39 : decode jdk_42_method_92_code 39 = .ok (.iload 4, 2) := by decide +kernel
theorem d_jdk_42_method_92_code_41 : decode jdk_42_method_92_code 41 = .ok (.invokestatic 685, 3) := by decide +kernel
theorem d_jdk_42_method_92_code_44 : decode jdk_42_method_92_code 44 = .ok (.goto 13, 3) := by decide +kernel
theorem d_jdk_42_method_92_code_57 : decode jdk_42_method_92_code 57 = .ok (.areturn, 1) := by decide +kernel
def Q_rmsub (Z : State) (a : Addr) (bi : Int32) (ei : Int32) (cs : List Int32) (i : Nat) (j : Nat) (G1 : Int32) (fm : Value) (h0 : Heap) (n0 : Nat) (v : Option Value) (h : Heap) (L : List Loc) : Prop := ∃ b : Addr, v = some (.ref b) ∧ Fr n0 L ∧ Keep h0 h [] ∧ StrP Z h b ((cs.drop i).take (j - i))
theorem ef_rmsub (m : MethodId) (a : Addr) (bi : Int32) (ei : Int32) : entryFrame m #[(.ref a), (.int bi), (.int ei)] 5 = mkF m 0 #[.val (.ref a), .val (.int bi), .val (.int ei), .unset, .unset] [] := by first | (simp [entryFrame, mkF, argsToLocals, Value.category]; done) | rfl
set_option maxRecDepth 65536 in
set_option maxHeartbeats 40000000 in
theorem rmsub (l : Launch) (Z : State) (a0 : Array Value) (hw : ∀ d ∈ tables_1, d.before a0 Z = true) (ws : List Jvm.Cond) (a : Addr) (bi : Int32) (ei : Int32) (cs : List Int32) (i : Nat) (j : Nat) (G1 : Int32) (fm : Value) (h0 : Heap) (n0 : Nat) (O0 : Old Z n0 h0) (O2 : Sta Z Z.heap "java/lang/String" "COMPACT_STRINGS" "Z" (.int G1)) (P5 : ¬ (G1 = (0 : Int32))) (O4 : Sta Z Z.heap "jdk/internal/util/Preconditions" "SIOOBE_FORMATTER" "Ljava/util/function/BiFunction;" fm) (rf : fm.isRef = true) (Sa : StrP Z h0 a cs) (hl4 : cs.length ≤ 4) (hbi : bi = Int32.ofNat i) (hei : ei = Int32.ofNat j) (hij : i ≤ j) (hj : j ≤ cs.length) :
    MetFree l (⟨"java/lang/String", "substring", "(II)Ljava/lang/String;"⟩ : MethodName) (head1 (Jvm.Cond.code (⟨"java/lang/String", "substring", "(II)Ljava/lang/String;"⟩ : MethodName) jdk_42_method_92_code 5 (some (.object "java/lang/String")) :: ws) ({ frames := 4, cells := 2, slots := 8, locals := 106 } : Room)) (fun aa U => aa = #[(.ref a), (.int bi), (.int ei)] ∧ Z.Warmed39 U.vm ∧ U.heap = h0 ∧ CHv Z EL0 U.vm h0) (fun _ _ _ _ _ => True) (fun _ U o U' => ∃ v L, o = .returned v ∧ Q_rmsub Z a bi ei cs i j G1 fm h0 n0 v U'.heap L ∧ CHr Z EL0 U.vm U.heap U'.vm U'.heap ∧ ReturnedEndW U o U' L ({ frames := 4, cells := 2, slots := 8, locals := 106 } : Room).cells ({ frames := 4, cells := 2, slots := 8, locals := 106 } : Room).slots) := by
  refine MetFree.of_bodySF (plainFor_of_name pn0) hisR ?_
  intro p e s m args below meth c s₁ Bd hml0 hP hK
  obtain ⟨rfl, hZ, hh, hCH⟩ := hP
  have hx := Bd.exec
  have hby := Bd.bytes
  have hml : c.maxLocals = 5 := hml0
  have hown : s.vm.findClass "java/lang/String" = some m.cls := findClass_of_methodNamed Bd.named
  have hnm := (name_of_methodNamed Bd.named Bd.method).1
  have X0 : Stand p l e ({ frames := 4, cells := 2, slots := 8, locals := 106 } : Room) (s.setVm s.vm) m #[(.ref a), (.int bi), (.int ei)] below meth c s₁ [] 0 0 := Stand.of_body Bd
  have e0 : s₁.heap = h0 := by rw [← hh, Bd.state]; rfl
  have N0 := Fr.nil n0
  have K0 : Keep h0 h0 [] := Keep.refl _ _
  have pre0 : ∀ tgt, Steps p.tables e below (s₁.setTop (mkF m 0 #[.val (.ref a), .val (.int bi), .val (.int ei), .unset, .unset] [])) tgt → Steps p.tables e below (s₁.setTop (entryFrame m #[(.ref a), (.int bi), (.int ei)] 5)) tgt := fun tgt kgo => castTop (ef_rmsub m a bi ei) kgo
  have hS0 : s.Since s.vm 0 := (State.WarmedH.refl s).since 0
  have hk0 : 0 ≤ h0.size := Nat.zero_le _
  have CH0 : CHr Z EL0 s.vm h0 s.vm h0 := CHr.refl hCH
  obtain ⟨sEA, sCA, spA, slA, tA, skA, sVA, sAA⟩ := id Sa
  obtain ⟨cq1, kq1, q1a, q1b, q1c⟩ := isOf hZ e0 sEA
  obtain ⟨_, _, ⟨T1, L1, k1, n1⟩, -, X1, ⟨Lc1, hQ1, l1, y1, z1⟩, st1⟩ := X0.virtualBack hx (y := (⟨"java/lang/String", "length", "()I"⟩ : MethodName)) (z := (⟨"java/lang/String", "length", "()I"⟩ : MethodName)) hown (mvT hZ (ow50 hw)) (mvT hZ (ow35 hw)) (notFace_of_selects (args := #[]) (mvT hZ (ow37 hw))) (mvT hZ (ow37 hw)) (mvT hZ (ow36 hw)) (by decide) (StrChars.Road.lenW (W := 0) hZ (own_wlen hw) (kI := 4) (ow10 hw) (cs := cs) sEA sVA sCA sAA (StrChars.Road.codOf rfl (fun c hc => (spA c hc).2)) (own_up _ spA) (O2.ext O0.2) P5 slA (by decide) (by decide)) q1a q1c (g := (mkF m 1 #[.val (.ref a), .val (.int bi), .val (.int ei), .unset, .unset] [(.ref a)])) rfl (by rw [hml]; rfl) (Steps.refl _) (argsL := []) (rest := []) (lenOf pd7 rfl) rfl (by show 2 * 0 + _ ≤ _; exact Nat.le_of_eq rfl) (hb hby d_jdk_42_method_92_code_1) (fun _ _ => ⟨rfl, e0, (by decide : 0 + 0 ≤ _), (by decide : 0 + 0 ≤ _)⟩)
  dsimp only [Pt.U, Pt.locs, Pt.cells, Pt.slots] at X1 l1 y1 z1 st1 hQ1
  subst l1 y1 z1
  obtain ⟨rfl, hL1, eq1⟩ := hQ1
  have Nq1 := own_frn hL1 n0
  have N2 := Fr.app N0 Nq1
  obtain ⟨_, _, ⟨T3, L3, k3, n3⟩, -, X3, ⟨Lc3, hQ3, l3, y3, z3⟩, st3⟩ := Jvm.LawKit.callS X1 hx (y := (⟨"java/lang/String", "checkBoundsBeginEnd", "(III)V"⟩ : MethodName)) hown (mvT hZ (ow51 hw)) (mvT hZ (ow52 hw)) (mvT hZ (ow11 hw)) (mvT hZ (ow53 hw)) (by decide) (backOf (W := 0) (rmcb l Z a0 hw [] bi ei (Int32.ofNat (List.length cs)) G1 fm h0 n0 O0 O2 P5 O4 rf (by rw [hbi]; exact on_n0 (by omega)) (by rw [hbi, hei, on_lt (by omega) (by omega)]; omega) (by rw [hei, on_lt (by omega) (by omega)]; omega)) hZ (ow53 hw) (ow11 hw) (by decide) (by decide)) (g := (mkF m 8 #[.val (.ref a), .val (.int bi), .val (.int ei), .val (.int (Int32.ofNat (List.length cs))), .unset] [(.int (Int32.ofNat (List.length cs))), (.int ei), (.int bi)])) rfl (by rw [hml]; rfl) (argsL := [(.int bi), (.int ei), (.int (Int32.ofNat (List.length cs)))]) (rest := []) (lenOf pd8 rfl) rfl (by show 2 * 0 + _ ≤ _; exact Nat.le_of_eq rfl) (hb hby d_jdk_42_method_92_code_8) (fun _ _ => ⟨rfl, eq1, (by decide : 0 + 0 ≤ _), (by decide : 0 + 0 ≤ _)⟩)
  dsimp only [Pt.U, Pt.locs, Pt.cells, Pt.slots] at X3 l3 y3 z3 st3 hQ3
  subst l3 y3 z3
  obtain ⟨rfl, Nq3, eq3⟩ := hQ3
  have N4 := Fr.app N2 Nq3
  have pre5 : ∀ tgt, Steps p.tables e below (T3.setTop (mkF m 12 #[.val (.ref a), .val (.int bi), .val (.int ei), .val (.int (Int32.ofNat (List.length cs))), .unset] [(.int bi)])) tgt → Steps p.tables e below (s₁.setTop (entryFrame m #[(.ref a), (.int bi), (.int ei)] 5)) tgt := by
    intro tgt kgo
    refine pre0 _ ?_
    refine XS.aloadN X0.here hx rfl (hb hby d_jdk_42_method_92_code_0) rfl rfl ?_
    show Steps p.tables e below (s₁.setTop (mkF m 1 #[.val (.ref a), .val (.int bi), .val (.int ei), .unset, .unset] [(.ref a)])) _
    refine st1.trans ?_
    show Steps p.tables e below (T1.setTop (mkF m 4 #[.val (.ref a), .val (.int bi), .val (.int ei), .unset, .unset] [(.int (Int32.ofNat (List.length cs)))])) _
    refine XS.istoreN X1.here hx rfl (hb hby d_jdk_42_method_92_code_4) rfl (l' := #[.val (.ref a), .val (.int bi), .val (.int ei), .val (.int (Int32.ofNat (List.length cs))), .unset]) rfl ?_
    show Steps p.tables e below (T1.setTop (mkF m 5 #[.val (.ref a), .val (.int bi), .val (.int ei), .val (.int (Int32.ofNat (List.length cs))), .unset] [])) _
    refine XS.iloadN X1.here hx rfl (hb hby d_jdk_42_method_92_code_5) rfl ?_
    show Steps p.tables e below (T1.setTop (mkF m 6 #[.val (.ref a), .val (.int bi), .val (.int ei), .val (.int (Int32.ofNat (List.length cs))), .unset] [(.int bi)])) _
    refine XS.iloadN X1.here hx rfl (hb hby d_jdk_42_method_92_code_6) rfl ?_
    show Steps p.tables e below (T1.setTop (mkF m 7 #[.val (.ref a), .val (.int bi), .val (.int ei), .val (.int (Int32.ofNat (List.length cs))), .unset] [(.int ei), (.int bi)])) _
    refine XS.iloadN X1.here hx rfl (hb hby d_jdk_42_method_92_code_7) rfl ?_
    show Steps p.tables e below (T1.setTop (mkF m 8 #[.val (.ref a), .val (.int bi), .val (.int ei), .val (.int (Int32.ofNat (List.length cs))), .unset] [(.int (Int32.ofNat (List.length cs))), (.int ei), (.int bi)])) _
    refine st3 _ ?_
    show Steps p.tables e below (T3.setTop (mkF m 11 #[.val (.ref a), .val (.int bi), .val (.int ei), .val (.int (Int32.ofNat (List.length cs))), .unset] [])) _
    refine XS.iloadN X3.here hx rfl (hb hby d_jdk_42_method_92_code_11) rfl ?_
    show Steps p.tables e below (T3.setTop (mkF m 12 #[.val (.ref a), .val (.int bi), .val (.int ei), .val (.int (Int32.ofNat (List.length cs))), .unset] [(.int bi)])) _
    exact kgo
  by_cases hc12_6 : bi = (0 : Int32)
  · have pre7 : ∀ tgt, Steps p.tables e below (T3.setTop (mkF m 17 #[.val (.ref a), .val (.int bi), .val (.int ei), .val (.int (Int32.ofNat (List.length cs))), .unset] [(.int (Int32.ofNat (List.length cs))), (.int ei)])) tgt → Steps p.tables e below (s₁.setTop (entryFrame m #[(.ref a), (.int bi), (.int ei)] 5)) tgt := by
      intro tgt kgo
      refine pre5 _ ?_
      refine XS.ifNo X3.here hx rfl (hb hby d_jdk_42_method_92_code_12) rfl ((if0 _ _).trans (teq hc12_6).2) ?_
      show Steps p.tables e below (T3.setTop (mkF m 15 #[.val (.ref a), .val (.int bi), .val (.int ei), .val (.int (Int32.ofNat (List.length cs))), .unset] [])) _
      refine XS.iloadN X3.here hx rfl (hb hby d_jdk_42_method_92_code_15) rfl ?_
      show Steps p.tables e below (T3.setTop (mkF m 16 #[.val (.ref a), .val (.int bi), .val (.int ei), .val (.int (Int32.ofNat (List.length cs))), .unset] [(.int ei)])) _
      refine XS.iloadN X3.here hx rfl (hb hby d_jdk_42_method_92_code_16) rfl ?_
      show Steps p.tables e below (T3.setTop (mkF m 17 #[.val (.ref a), .val (.int bi), .val (.int ei), .val (.int (Int32.ofNat (List.length cs))), .unset] [(.int (Int32.ofNat (List.length cs))), (.int ei)])) _
      exact kgo
    by_cases hc17_8 : ei = (Int32.ofNat (List.length cs))
    · obtain ⟨fs, hretL, hrun, hended, hEnd⟩ := Stand.leaveW X3 hS0 (by rw [eq3]; exact hk0) (v := some (.ref a)) (fun h => by rw [Bd.returns] at h; cases h)
      have hCf : CHr Z EL0 s.vm s.heap T3.vm T3.heap := by rw [hh, eq3]; exact CH0.trans (CHv.at X3 hZ (own_EW hw) CH0.1)
      refine ⟨_, _, pre7 _ ?_, hrun, hended, _, _, rfl, ?_, hCf, hEnd.1, hEnd.2.1, hEnd.2.2.1, hEnd.2.2.2.mono (by decide) (by decide)⟩
      · refine XS.icmpNo X3.here hx rfl (hb hby d_jdk_42_method_92_code_17) rfl (teq hc17_8).2 ?_
        show Steps p.tables e below (T3.setTop (mkF m 20 #[.val (.ref a), .val (.int bi), .val (.int ei), .val (.int (Int32.ofNat (List.length cs))), .unset] [])) _
        refine XS.aloadN X3.here hx rfl (hb hby d_jdk_42_method_92_code_20) rfl rfl ?_
        show Steps p.tables e below (T3.setTop (mkF m 21 #[.val (.ref a), .val (.int bi), .val (.int ei), .val (.int (Int32.ofNat (List.length cs))), .unset] [(.ref a)])) _
        exact retOut X3 hx Bd.returns rfl (Or.inr (Or.inr (Or.inr (Or.inr ⟨rfl, rfl, rfl⟩)))) (hb hby d_jdk_42_method_92_code_21) hretL
      · show Q_rmsub Z a bi ei cs i j G1 fm h0 n0 _ T3.heap _
        rw [eq3]
        have q1 : i = 0 := (on_eq (by omega) (by omega)).mp (hbi ▸ hc12_6 : Int32.ofNat i = Int32.ofNat 0)
        have q2 : j = cs.length := (on_eq (by omega) (by omega)).mp (hei ▸ hc17_8 : Int32.ofNat j = _)
        refine ⟨_, rfl, N4, K0, ?_⟩
        rw [q1, q2, List.drop_zero, Nat.sub_zero, List.take_length]
        exact ⟨sEA, sCA, spA, slA, tA, skA, sVA, sAA⟩
    · obtain ⟨cq9, kq9, q9a, q9b, q9c⟩ := isOf hZ eq3 sEA
      obtain ⟨_, _, ⟨T9, L9, k9, n9⟩, -, X9, ⟨Lc9, hQ9, l9, y9, z9⟩, st9⟩ := X3.virtualBack hx (y := (⟨"java/lang/String", "isLatin1", "()Z"⟩ : MethodName)) (z := (⟨"java/lang/String", "isLatin1", "()Z"⟩ : MethodName)) hown (mvT hZ (ow78 hw)) (mvT hZ (ow79 hw)) (notFace_of_selects (args := #[]) (mvT hZ (ow81 hw))) (mvT hZ (ow81 hw)) (mvT hZ (ow80 hw)) (by decide) (backOf (W := 0) (rmil l Z a0 hw [] a G1 h0 n0 O0 O2 P5 sCA) hZ (ow82 hw) (ow11 hw) (by decide) (by decide)) q9a q9c (g := (mkF m 28 #[.val (.ref a), .val (.int bi), .val (.int ei), .val (.int (Int32.ofNat (List.length cs))), .val (.int (ei - bi))] [(.ref a)])) rfl (by rw [hml]; rfl) (Steps.refl _) (argsL := []) (rest := []) (lenOf pd9 rfl) rfl (by show 2 * 0 + _ ≤ _; exact Nat.le_of_eq rfl) (hb hby d_jdk_42_method_92_code_28) (fun _ _ => ⟨rfl, eq3, (by decide : 0 + 0 ≤ _), (by decide : 0 + 0 ≤ _)⟩)
      dsimp only [Pt.U, Pt.locs, Pt.cells, Pt.slots] at X9 l9 y9 z9 st9 hQ9
      subst l9 y9 z9
      obtain ⟨rfl, Nq9, eq9⟩ := hQ9
      have N10 := Fr.app N4 Nq9
      obtain ⟨T11, X11, e11, st11⟩ := getF X9 hx hZ hown (host := "") (Or.inl (ow28 hw)) Via.refl eq9 sVA (g := (mkF m 35 #[.val (.ref a), .val (.int bi), .val (.int ei), .val (.int (Int32.ofNat (List.length cs))), .val (.int (ei - bi))] [(.ref a)])) rfl rfl (hb hby d_jdk_42_method_92_code_35)
      obtain ⟨_, _, ⟨T12, L12, k12, n12⟩, -, Xr12, hSr12, hgr12, ⟨Lc12, hQ12, l12, y12, z12, CR12⟩, st12⟩ := callSS X11 hx (y := (⟨"java/lang/StringLatin1", "newString", "([BII)Ljava/lang/String;"⟩ : MethodName)) hown (mvT hZ (ow96 hw)) (mvT hZ (ow97 hw)) (mvT hZ (ow85 hw)) (mvT hZ (ow98 hw)) (by decide) (backOfSH (W := 0) (rmns l Z a0 hw [] tA bi (ei - bi) skA cs i (j - i) h0 n0 O0 sAA spA hl4 hbi (by rw [hbi, hei]; exact on_sub hij (by omega)) (by omega) (fun q1 q2 => hc17_8 (by rw [hei]; congr 1; omega))) hZ (ow98 hw) (ow85 hw) (by decide) (by decide) (own_EW hw) CH0.1) (g := (mkF m 41 #[.val (.ref a), .val (.int bi), .val (.int ei), .val (.int (Int32.ofNat (List.length cs))), .val (.int (ei - bi))] [(.int (ei - bi)), (.int bi), (.ref tA)])) rfl (by rw [hml]; rfl) (argsL := [(.ref tA), (.int bi), (.int (ei - bi))]) (rest := []) (lenOf pd10 rfl) rfl (by show 2 * 0 + _ ≤ _; exact Nat.le_of_eq rfl) (hb hby d_jdk_42_method_92_code_41) (fun _ _ => ⟨rfl, e11, (by decide : 0 + 2 ≤ _), (by decide : 0 + 8 ≤ _)⟩)
      dsimp only [Pt.U, Pt.locs, Pt.cells, Pt.slots] at Xr12 hSr12 hgr12 l12 y12 z12 CR12 st12 hQ12
      subst l12 y12 z12
      obtain ⟨X12, hS12, hZ12, hown12⟩ := rebS hS0 (by rw [e11]; exact hk0) Xr12 hSr12 hgr12 hZ hown
      have hk12 : T12.heap.size ≤ T12.heap.size := Nat.le_refl _
      obtain ⟨nb12, rfl, Nq12, kp12, Sn12⟩ := hQ12
      have N13 := Fr.app N10 Nq12
      have CH14 := CH0.trans CR12
      have O15 := O0.keep kp12 all0
      have K15 := K0.trans kp12 all0
      obtain ⟨fs, hretL, hrun, hended, hEnd⟩ := Stand.leaveW X12 hS12 hk12 (v := some (.ref nb12)) (fun h => by rw [Bd.returns] at h; cases h)
      have hCf : CHr Z EL0 s.vm s.heap T12.vm T12.heap := by rw [hh]; exact CH14.trans (CHv.at X12 hZ12 (own_EW hw) CH14.1)
      refine ⟨_, _, pre7 _ ?_, hrun, hended, _, _, rfl, ?_, hCf, hEnd.1, hEnd.2.1, hEnd.2.2.1, hEnd.2.2.2.mono (by decide) (by decide)⟩
      · refine XS.icmpYes X3.here hx rfl (pc0 := 17) (pc' := 22) rfl (hb hby d_jdk_42_method_92_code_17) rfl (feq hc17_8).2 (by decide) (by decide) ?_
        show Steps p.tables e below (T3.setTop (mkF m 22 #[.val (.ref a), .val (.int bi), .val (.int ei), .val (.int (Int32.ofNat (List.length cs))), .unset] [])) _
        refine XS.iloadN X3.here hx rfl (hb hby d_jdk_42_method_92_code_22) rfl ?_
        show Steps p.tables e below (T3.setTop (mkF m 23 #[.val (.ref a), .val (.int bi), .val (.int ei), .val (.int (Int32.ofNat (List.length cs))), .unset] [(.int ei)])) _
        refine XS.iloadN X3.here hx rfl (hb hby d_jdk_42_method_92_code_23) rfl ?_
        show Steps p.tables e below (T3.setTop (mkF m 24 #[.val (.ref a), .val (.int bi), .val (.int ei), .val (.int (Int32.ofNat (List.length cs))), .unset] [(.int bi), (.int ei)])) _
        refine XS.isub X3.here hx rfl (hb hby d_jdk_42_method_92_code_24) rfl ?_
        show Steps p.tables e below (T3.setTop (mkF m 25 #[.val (.ref a), .val (.int bi), .val (.int ei), .val (.int (Int32.ofNat (List.length cs))), .unset] [(.int (ei - bi))])) _
        refine XS.istore X3.here hx rfl (hb hby d_jdk_42_method_92_code_25) rfl (l' := #[.val (.ref a), .val (.int bi), .val (.int ei), .val (.int (Int32.ofNat (List.length cs))), .val (.int (ei - bi))]) rfl ?_
        show Steps p.tables e below (T3.setTop (mkF m 27 #[.val (.ref a), .val (.int bi), .val (.int ei), .val (.int (Int32.ofNat (List.length cs))), .val (.int (ei - bi))] [])) _
        refine XS.aloadN X3.here hx rfl (hb hby d_jdk_42_method_92_code_27) rfl rfl ?_
        show Steps p.tables e below (T3.setTop (mkF m 28 #[.val (.ref a), .val (.int bi), .val (.int ei), .val (.int (Int32.ofNat (List.length cs))), .val (.int (ei - bi))] [(.ref a)])) _
        refine st9.trans ?_
        show Steps p.tables e below (T9.setTop (mkF m 31 #[.val (.ref a), .val (.int bi), .val (.int ei), .val (.int (Int32.ofNat (List.length cs))), .val (.int (ei - bi))] [(.int (1 : Int32))])) _
        refine XS.ifNo X9.here hx rfl (hb hby d_jdk_42_method_92_code_31) rfl ((if0 _ _).trans (feq (by decide : ¬ ((1 : Int32) = (0 : Int32)))).1) ?_
        show Steps p.tables e below (T9.setTop (mkF m 34 #[.val (.ref a), .val (.int bi), .val (.int ei), .val (.int (Int32.ofNat (List.length cs))), .val (.int (ei - bi))] [])) _
        refine XS.aloadN X9.here hx rfl (hb hby d_jdk_42_method_92_code_34) rfl rfl ?_
        show Steps p.tables e below (T9.setTop (mkF m 35 #[.val (.ref a), .val (.int bi), .val (.int ei), .val (.int (Int32.ofNat (List.length cs))), .val (.int (ei - bi))] [(.ref a)])) _
        refine st11 _ ?_
        show Steps p.tables e below (T11.setTop (mkF m 38 #[.val (.ref a), .val (.int bi), .val (.int ei), .val (.int (Int32.ofNat (List.length cs))), .val (.int (ei - bi))] [(.ref tA)])) _
        refine XS.iloadN X11.here hx rfl (hb hby d_jdk_42_method_92_code_38) rfl ?_
        show Steps p.tables e below (T11.setTop (mkF m 39 #[.val (.ref a), .val (.int bi), .val (.int ei), .val (.int (Int32.ofNat (List.length cs))), .val (.int (ei - bi))] [(.int bi), (.ref tA)])) _
        refine XS.iload X11.here hx rfl (hb hby d_jdk_42_method_92_code_39) rfl ?_
        show Steps p.tables e below (T11.setTop (mkF m 41 #[.val (.ref a), .val (.int bi), .val (.int ei), .val (.int (Int32.ofNat (List.length cs))), .val (.int (ei - bi))] [(.int (ei - bi)), (.int bi), (.ref tA)])) _
        refine st12.trans ?_
        show Steps p.tables e below (T12.setTop (mkF m 44 #[.val (.ref a), .val (.int bi), .val (.int ei), .val (.int (Int32.ofNat (List.length cs))), .val (.int (ei - bi))] [(.ref nb12)])) _
        refine XS.goto X12.here hx rfl (pc0 := 44) (pc' := 57) rfl (hb hby d_jdk_42_method_92_code_44) (by decide) (by decide) ?_
        show Steps p.tables e below (T12.setTop (mkF m 57 #[.val (.ref a), .val (.int bi), .val (.int ei), .val (.int (Int32.ofNat (List.length cs))), .val (.int (ei - bi))] [(.ref nb12)])) _
        exact retOut X12 hx Bd.returns rfl (Or.inr (Or.inr (Or.inr (Or.inr ⟨rfl, rfl, rfl⟩)))) (hb hby d_jdk_42_method_92_code_57) hretL
      · show Q_rmsub Z a bi ei cs i j G1 fm h0 n0 _ T12.heap _
        exact ⟨_, rfl, N13, K15, Sn12⟩
  · obtain ⟨cq16, kq16, q16a, q16b, q16c⟩ := isOf hZ eq3 sEA
    obtain ⟨_, _, ⟨T16, L16, k16, n16⟩, -, X16, ⟨Lc16, hQ16, l16, y16, z16⟩, st16⟩ := X3.virtualBack hx (y := (⟨"java/lang/String", "isLatin1", "()Z"⟩ : MethodName)) (z := (⟨"java/lang/String", "isLatin1", "()Z"⟩ : MethodName)) hown (mvT hZ (ow78 hw)) (mvT hZ (ow79 hw)) (notFace_of_selects (args := #[]) (mvT hZ (ow81 hw))) (mvT hZ (ow81 hw)) (mvT hZ (ow80 hw)) (by decide) (backOf (W := 0) (rmil l Z a0 hw [] a G1 h0 n0 O0 O2 P5 sCA) hZ (ow82 hw) (ow11 hw) (by decide) (by decide)) q16a q16c (g := (mkF m 28 #[.val (.ref a), .val (.int bi), .val (.int ei), .val (.int (Int32.ofNat (List.length cs))), .val (.int (ei - bi))] [(.ref a)])) rfl (by rw [hml]; rfl) (Steps.refl _) (argsL := []) (rest := []) (lenOf pd9 rfl) rfl (by show 2 * 0 + _ ≤ _; exact Nat.le_of_eq rfl) (hb hby d_jdk_42_method_92_code_28) (fun _ _ => ⟨rfl, eq3, (by decide : 0 + 0 ≤ _), (by decide : 0 + 0 ≤ _)⟩)
    dsimp only [Pt.U, Pt.locs, Pt.cells, Pt.slots] at X16 l16 y16 z16 st16 hQ16
    subst l16 y16 z16
    obtain ⟨rfl, Nq16, eq16⟩ := hQ16
    have N17 := Fr.app N4 Nq16
    obtain ⟨T18, X18, e18, st18⟩ := getF X16 hx hZ hown (host := "") (Or.inl (ow28 hw)) Via.refl eq16 sVA (g := (mkF m 35 #[.val (.ref a), .val (.int bi), .val (.int ei), .val (.int (Int32.ofNat (List.length cs))), .val (.int (ei - bi))] [(.ref a)])) rfl rfl (hb hby d_jdk_42_method_92_code_35)
    obtain ⟨_, _, ⟨T19, L19, k19, n19⟩, -, Xr19, hSr19, hgr19, ⟨Lc19, hQ19, l19, y19, z19, CR19⟩, st19⟩ := callSS X18 hx (y := (⟨"java/lang/StringLatin1", "newString", "([BII)Ljava/lang/String;"⟩ : MethodName)) hown (mvT hZ (ow96 hw)) (mvT hZ (ow97 hw)) (mvT hZ (ow85 hw)) (mvT hZ (ow98 hw)) (by decide) (backOfSH (W := 0) (rmns l Z a0 hw [] tA bi (ei - bi) skA cs i (j - i) h0 n0 O0 sAA spA hl4 hbi (by rw [hbi, hei]; exact on_sub hij (by omega)) (by omega) (fun q _ => hc12_6 (by rw [hbi, q]; rfl))) hZ (ow98 hw) (ow85 hw) (by decide) (by decide) (own_EW hw) CH0.1) (g := (mkF m 41 #[.val (.ref a), .val (.int bi), .val (.int ei), .val (.int (Int32.ofNat (List.length cs))), .val (.int (ei - bi))] [(.int (ei - bi)), (.int bi), (.ref tA)])) rfl (by rw [hml]; rfl) (argsL := [(.ref tA), (.int bi), (.int (ei - bi))]) (rest := []) (lenOf pd10 rfl) rfl (by show 2 * 0 + _ ≤ _; exact Nat.le_of_eq rfl) (hb hby d_jdk_42_method_92_code_41) (fun _ _ => ⟨rfl, e18, (by decide : 0 + 2 ≤ _), (by decide : 0 + 8 ≤ _)⟩)
    dsimp only [Pt.U, Pt.locs, Pt.cells, Pt.slots] at Xr19 hSr19 hgr19 l19 y19 z19 CR19 st19 hQ19
    subst l19 y19 z19
    obtain ⟨X19, hS19, hZ19, hown19⟩ := rebS hS0 (by rw [e18]; exact hk0) Xr19 hSr19 hgr19 hZ hown
    have hk19 : T19.heap.size ≤ T19.heap.size := Nat.le_refl _
    obtain ⟨nb19, rfl, Nq19, kp19, Sn19⟩ := hQ19
    have N20 := Fr.app N17 Nq19
    have CH21 := CH0.trans CR19
    have O22 := O0.keep kp19 all0
    have K22 := K0.trans kp19 all0
    obtain ⟨fs, hretL, hrun, hended, hEnd⟩ := Stand.leaveW X19 hS19 hk19 (v := some (.ref nb19)) (fun h => by rw [Bd.returns] at h; cases h)
    have hCf : CHr Z EL0 s.vm s.heap T19.vm T19.heap := by rw [hh]; exact CH21.trans (CHv.at X19 hZ19 (own_EW hw) CH21.1)
    refine ⟨_, _, pre5 _ ?_, hrun, hended, _, _, rfl, ?_, hCf, hEnd.1, hEnd.2.1, hEnd.2.2.1, hEnd.2.2.2.mono (by decide) (by decide)⟩
    · refine XS.ifYes X3.here hx rfl (pc0 := 12) (pc' := 22) rfl (hb hby d_jdk_42_method_92_code_12) rfl ((if0 _ _).trans (feq hc12_6).2) (by decide) (by decide) ?_
      show Steps p.tables e below (T3.setTop (mkF m 22 #[.val (.ref a), .val (.int bi), .val (.int ei), .val (.int (Int32.ofNat (List.length cs))), .unset] [])) _
      refine XS.iloadN X3.here hx rfl (hb hby d_jdk_42_method_92_code_22) rfl ?_
      show Steps p.tables e below (T3.setTop (mkF m 23 #[.val (.ref a), .val (.int bi), .val (.int ei), .val (.int (Int32.ofNat (List.length cs))), .unset] [(.int ei)])) _
      refine XS.iloadN X3.here hx rfl (hb hby d_jdk_42_method_92_code_23) rfl ?_
      show Steps p.tables e below (T3.setTop (mkF m 24 #[.val (.ref a), .val (.int bi), .val (.int ei), .val (.int (Int32.ofNat (List.length cs))), .unset] [(.int bi), (.int ei)])) _
      refine XS.isub X3.here hx rfl (hb hby d_jdk_42_method_92_code_24) rfl ?_
      show Steps p.tables e below (T3.setTop (mkF m 25 #[.val (.ref a), .val (.int bi), .val (.int ei), .val (.int (Int32.ofNat (List.length cs))), .unset] [(.int (ei - bi))])) _
      refine XS.istore X3.here hx rfl (hb hby d_jdk_42_method_92_code_25) rfl (l' := #[.val (.ref a), .val (.int bi), .val (.int ei), .val (.int (Int32.ofNat (List.length cs))), .val (.int (ei - bi))]) rfl ?_
      show Steps p.tables e below (T3.setTop (mkF m 27 #[.val (.ref a), .val (.int bi), .val (.int ei), .val (.int (Int32.ofNat (List.length cs))), .val (.int (ei - bi))] [])) _
      refine XS.aloadN X3.here hx rfl (hb hby d_jdk_42_method_92_code_27) rfl rfl ?_
      show Steps p.tables e below (T3.setTop (mkF m 28 #[.val (.ref a), .val (.int bi), .val (.int ei), .val (.int (Int32.ofNat (List.length cs))), .val (.int (ei - bi))] [(.ref a)])) _
      refine st16.trans ?_
      show Steps p.tables e below (T16.setTop (mkF m 31 #[.val (.ref a), .val (.int bi), .val (.int ei), .val (.int (Int32.ofNat (List.length cs))), .val (.int (ei - bi))] [(.int (1 : Int32))])) _
      refine XS.ifNo X16.here hx rfl (hb hby d_jdk_42_method_92_code_31) rfl ((if0 _ _).trans (feq (by decide : ¬ ((1 : Int32) = (0 : Int32)))).1) ?_
      show Steps p.tables e below (T16.setTop (mkF m 34 #[.val (.ref a), .val (.int bi), .val (.int ei), .val (.int (Int32.ofNat (List.length cs))), .val (.int (ei - bi))] [])) _
      refine XS.aloadN X16.here hx rfl (hb hby d_jdk_42_method_92_code_34) rfl rfl ?_
      show Steps p.tables e below (T16.setTop (mkF m 35 #[.val (.ref a), .val (.int bi), .val (.int ei), .val (.int (Int32.ofNat (List.length cs))), .val (.int (ei - bi))] [(.ref a)])) _
      refine st18 _ ?_
      show Steps p.tables e below (T18.setTop (mkF m 38 #[.val (.ref a), .val (.int bi), .val (.int ei), .val (.int (Int32.ofNat (List.length cs))), .val (.int (ei - bi))] [(.ref tA)])) _
      refine XS.iloadN X18.here hx rfl (hb hby d_jdk_42_method_92_code_38) rfl ?_
      show Steps p.tables e below (T18.setTop (mkF m 39 #[.val (.ref a), .val (.int bi), .val (.int ei), .val (.int (Int32.ofNat (List.length cs))), .val (.int (ei - bi))] [(.int bi), (.ref tA)])) _
      refine XS.iload X18.here hx rfl (hb hby d_jdk_42_method_92_code_39) rfl ?_
      show Steps p.tables e below (T18.setTop (mkF m 41 #[.val (.ref a), .val (.int bi), .val (.int ei), .val (.int (Int32.ofNat (List.length cs))), .val (.int (ei - bi))] [(.int (ei - bi)), (.int bi), (.ref tA)])) _
      refine st19.trans ?_
      show Steps p.tables e below (T19.setTop (mkF m 44 #[.val (.ref a), .val (.int bi), .val (.int ei), .val (.int (Int32.ofNat (List.length cs))), .val (.int (ei - bi))] [(.ref nb19)])) _
      refine XS.goto X19.here hx rfl (pc0 := 44) (pc' := 57) rfl (hb hby d_jdk_42_method_92_code_44) (by decide) (by decide) ?_
      show Steps p.tables e below (T19.setTop (mkF m 57 #[.val (.ref a), .val (.int bi), .val (.int ei), .val (.int (Int32.ofNat (List.length cs))), .val (.int (ei - bi))] [(.ref nb19)])) _
      exact retOut X19 hx Bd.returns rfl (Or.inr (Or.inr (Or.inr (Or.inr ⟨rfl, rfl, rfl⟩)))) (hb hby d_jdk_42_method_92_code_57) hretL
    · show Q_rmsub Z a bi ei cs i j G1 fm h0 n0 _ T19.heap _
      exact ⟨_, rfl, N20, K22, Sn19⟩
def SB (cs : List Int32) (i j : Nat) : Prop := i ≤ j ∧ j ≤ cs.length ∧ (∀ k, k < i → ¬ bl (List.getD cs k 0) = 0) ∧ (i = cs.length ∨ (i < cs.length ∧ bl (List.getD cs i 0) = 0)) ∧ (∀ k, j ≤ k → k < cs.length → ¬ bl (List.getD cs k 0) = 0) ∧ (j = i ∨ (i < j ∧ bl (List.getD cs (j - 1) 0) = 0))
theorem own_l1b {cs : List Int32} {i kq : Nat} (hI : cs.length - i < kq + 1 ∧ i ≤ cs.length ∧ ∀ k, k < i → ¬ bl (List.getD cs k 0) = 0) (h1 : Int32.ofNat i < Int32.ofNat (List.length cs)) (h2 : ¬ bl (List.getD cs i 0) = 0) (hl : cs.length ≤ 4) : cs.length - (i + 1) < kq ∧ i + 1 ≤ cs.length ∧ ∀ k, k < i + 1 → ¬ bl (List.getD cs k 0) = 0 := by
  obtain ⟨a, b, d⟩ := hI
  rw [on_lt (by omega) (by omega)] at h1
  refine ⟨by omega, by omega, fun k hk => ?_⟩
  by_cases q : k = i
  · rw [q]; exact h2
  · exact d k (by omega)
theorem own_l1e {cs : List Int32} {i kq : Nat} (hI : cs.length - i < kq + 1 ∧ i ≤ cs.length ∧ ∀ k, k < i → ¬ bl (List.getD cs k 0) = 0) (h : ¬ Int32.ofNat i < Int32.ofNat (List.length cs) ∨ (Int32.ofNat i < Int32.ofNat (List.length cs) ∧ bl (List.getD cs i 0) = 0)) (hl : cs.length ≤ 4) : i ≤ cs.length ∧ (∀ k, k < i → ¬ bl (List.getD cs k 0) = 0) ∧ (i = cs.length ∨ (i < cs.length ∧ bl (List.getD cs i 0) = 0)) := by
  obtain ⟨a, b, d⟩ := hI
  rw [on_lt (by omega) (by omega)] at h
  refine ⟨b, d, ?_⟩
  rcases h with h | h
  · exact Or.inl (by omega)
  · exact Or.inr h
theorem own_l2b {cs : List Int32} {i j kq : Nat} (hI : j < kq + 1 ∧ i ≤ j ∧ j ≤ cs.length ∧ ∀ k, j ≤ k → k < cs.length → ¬ bl (List.getD cs k 0) = 0) (h1 : Int32.ofNat i < Int32.ofNat j) (h2 : ¬ bl (List.getD cs (j - 1) 0) = 0) (hl : cs.length ≤ 4) : j - 1 < kq ∧ i ≤ j - 1 ∧ j - 1 ≤ cs.length ∧ ∀ k, j - 1 ≤ k → k < cs.length → ¬ bl (List.getD cs k 0) = 0 := by
  obtain ⟨a, b, d, f⟩ := hI
  rw [on_lt (by omega) (by omega)] at h1
  refine ⟨by omega, by omega, by omega, fun k hk hk' => ?_⟩
  by_cases q : k = j - 1
  · rw [q]; exact h2
  · exact f k (by omega) hk'
theorem own_l2e {cs : List Int32} {i j kq : Nat} (hI : j < kq + 1 ∧ i ≤ j ∧ j ≤ cs.length ∧ ∀ k, j ≤ k → k < cs.length → ¬ bl (List.getD cs k 0) = 0) (h : ¬ Int32.ofNat i < Int32.ofNat j ∨ (Int32.ofNat i < Int32.ofNat j ∧ bl (List.getD cs (j - 1) 0) = 0)) (hl : cs.length ≤ 4) : i ≤ j ∧ j ≤ cs.length ∧ (∀ k, j ≤ k → k < cs.length → ¬ bl (List.getD cs k 0) = 0) ∧ (j = i ∨ (i < j ∧ bl (List.getD cs (j - 1) 0) = 0)) := by
  obtain ⟨a, b, d, f⟩ := hI
  rw [on_lt (by omega) (by omega)] at h
  refine ⟨b, d, f, ?_⟩
  rcases h with h | h
  · exact Or.inl (by omega)
  · exact Or.inr h
theorem d_prog_32_method_5_code_0 : decode prog_32_method_5_code 0 = .ok (.iconst 0, 1) := by decide +kernel
theorem d_prog_32_method_5_code_1 : decode prog_32_method_5_code 1 = .ok (.istore_n 1, 1) := by decide +kernel
theorem d_prog_32_method_5_code_2 : decode prog_32_method_5_code 2 = .ok (.aload_n 0, 1) := by decide +kernel
theorem d_prog_32_method_5_code_3 : decode prog_32_method_5_code 3 = .ok (.invokevirtual 98, 3) := by decide +kernel
theorem d_prog_32_method_5_code_6 : decode prog_32_method_5_code 6 = .ok (.istore_n 2, 1) := by decide +kernel
theorem d_prog_32_method_5_code_7 : decode prog_32_method_5_code 7 = .ok (.iload_n 1, 1) := by decide +kernel
theorem d_prog_32_method_5_code_8 : decode prog_32_method_5_code 8 = .ok (.iload_n 2, 1) := by decide +kernel
theorem d_prog_32_method_5_code_9 : decode prog_32_method_5_code 9 = .ok (.if_icmp .ge 20, 3) := by decide +kernel
theorem d_prog_32_method_5_code_12 : decode prog_32_method_5_code 12 = .ok (.aload_n 0, 1) := by decide +kernel
theorem d_prog_32_method_5_code_13 : decode prog_32_method_5_code 13 = .ok (.iload_n 1, 1) := by decide +kernel
theorem d_prog_32_method_5_code_14 : decode prog_32_method_5_code 14 = .ok (.invokevirtual 39, 3) := by decide +kernel
theorem d_prog_32_method_5_code_17 : decode prog_32_method_5_code 17 = .ok (.invokestatic 43, 3) := by decide +kernel
theorem d_prog_32_method_5_code_20 : decode prog_32_method_5_code 20 = .ok (.ifCond .eq 9, 3) := by decide +kernel
theorem d_prog_32_method_5_code_23 : decode prog_32_method_5_code 23 = .ok (.iinc 1 1, 3) := by decide +kernel
theorem d_prog_32_method_5_code_26 : decode prog_32_method_5_code 26 = .ok (.goto (-19), 3) := by decide +kernel
theorem d_prog_32_method_5_code_29 : decode prog_32_method_5_code 29 = .ok (.iload_n 2, 1) := by decide +kernel
theorem d_prog_32_method_5_code_30 : decode prog_32_method_5_code 30 = .ok (.iload_n 1, 1) := by decide +kernel
theorem d_prog_32_method_5_code_31 : decode prog_32_method_5_code 31 = .ok (.if_icmp .le 22, 3) := by decide +kernel
theorem d_prog_32_method_5_code_34 : decode prog_32_method_5_code 34 = .ok (.aload_n 0, 1) := by decide +kernel
theorem d_prog_32_method_5_code_35 : decode prog_32_method_5_code 35 = .ok (.iload_n 2, 1) := by decide +kernel
theorem d_prog_32_method_5_code_36 : decode prog_32_method_5_code 36 = .ok (.iconst 1, 1) := by decide +kernel
theorem d_prog_32_method_5_code_37 : decode prog_32_method_5_code 37 = .ok (.isub, 1) := by decide +kernel
theorem d_prog_32_method_5_code_38 : decode prog_32_method_5_code 38 = .ok (.invokevirtual 39, 3) := by decide +kernel
theorem d_prog_32_method_5_code_41 : decode prog_32_method_5_code 41 = .ok (.invokestatic 43, 3) := by decide +kernel
theorem d_prog_32_method_5_code_44 : decode prog_32_method_5_code 44 = .ok (.ifCond .eq 9, 3) := by decide +kernel
theorem d_prog_32_method_5_code_47 : decode prog_32_method_5_code 47 = .ok (.iinc 2 (-1), 3) := by decide +kernel
theorem d_prog_32_method_5_code_50 : decode prog_32_method_5_code 50 = .ok (.goto (-21), 3) := by decide +kernel
theorem d_prog_32_method_5_code_53 : decode prog_32_method_5_code 53 = .ok (.aload_n 0, 1) := by decide +kernel
theorem d_prog_32_method_5_code_54 : decode prog_32_method_5_code 54 = .ok (.iload_n 1, 1) := by decide +kernel
theorem d_prog_32_method_5_code_55 : decode prog_32_method_5_code 55 = .ok (.iload_n 2, 1) := by decide +kernel
theorem d_prog_32_method_5_code_56 : decode prog_32_method_5_code 56 = .ok (.invokevirtual 101, 3) := by decide +kernel
theorem d_prog_32_method_5_code_59 : decode prog_32_method_5_code 59 = .ok (.areturn, 1) := by decide +kernel
def Q_rmsb (Z : State) (a : Addr) (cs : List Int32) (G1 : Int32) (fm : Value) (h0 : Heap) (n0 : Nat) (v : Option Value) (h : Heap) (L : List Loc) : Prop := ∃ (b : Addr) (i j : Nat), v = some (.ref b) ∧ Fr n0 L ∧ Keep h0 h [] ∧ SB cs i j ∧ StrP Z h b ((cs.drop i).take (j - i))
theorem ef_rmsb (m : MethodId) (a : Addr) : entryFrame m #[(.ref a)] 3 = mkF m 0 #[.val (.ref a), .unset, .unset] [] := by first | (simp [entryFrame, mkF, argsToLocals, Value.category]; done) | rfl
set_option maxRecDepth 65536 in
set_option maxHeartbeats 40000000 in
theorem rmsb (l : Launch) (Z : State) (a0 : Array Value) (hw : ∀ d ∈ tables_1, d.before a0 Z = true) (ws : List Jvm.Cond) (a : Addr) (cs : List Int32) (G1 : Int32) (fm : Value) (h0 : Heap) (n0 : Nat) (O0 : Old Z n0 h0) (O2 : Sta Z Z.heap "java/lang/String" "COMPACT_STRINGS" "Z" (.int G1)) (P5 : ¬ (G1 = (0 : Int32))) (O4 : Sta Z Z.heap "jdk/internal/util/Preconditions" "SIOOBE_FORMATTER" "Ljava/util/function/BiFunction;" fm) (rf : fm.isRef = true) (Sa : StrP Z h0 a cs) (hl4 : cs.length ≤ 4) :
    MetFree l (⟨"com/example/redress/redress/definition/Statement", "stripBlanks", "(Ljava/lang/String;)Ljava/lang/String;"⟩ : MethodName) (head1 (Jvm.Cond.code (⟨"com/example/redress/redress/definition/Statement", "stripBlanks", "(Ljava/lang/String;)Ljava/lang/String;"⟩ : MethodName) prog_32_method_5_code 3 (some (.object "java/lang/String")) :: ws) ({ frames := 5, cells := 2, slots := 8, locals := 122 } : Room)) (fun aa U => aa = #[(.ref a)] ∧ Z.Warmed39 U.vm ∧ U.heap = h0 ∧ CHv Z EL0 U.vm h0) (fun _ _ _ _ _ => True) (fun _ U o U' => ∃ v L, o = .returned v ∧ Q_rmsb Z a cs G1 fm h0 n0 v U'.heap L ∧ CHr Z EL0 U.vm U.heap U'.vm U'.heap ∧ ReturnedEndW U o U' L ({ frames := 5, cells := 2, slots := 8, locals := 122 } : Room).cells ({ frames := 5, cells := 2, slots := 8, locals := 122 } : Room).slots) := by
  refine MetFree.of_bodySF (plainFor_of_name pn4) hisR ?_
  intro p e s m args below meth c s₁ Bd hml0 hP hK
  obtain ⟨rfl, hZ, hh, hCH⟩ := hP
  have hx := Bd.exec
  have hby := Bd.bytes
  have hml : c.maxLocals = 3 := hml0
  have hown : s.vm.findClass "com/example/redress/redress/definition/Statement" = some m.cls := findClass_of_methodNamed Bd.named
  have hnm := (name_of_methodNamed Bd.named Bd.method).1
  have X0 : Stand p l e ({ frames := 5, cells := 2, slots := 8, locals := 122 } : Room) (s.setVm s.vm) m #[(.ref a)] below meth c s₁ [] 0 0 := Stand.of_body Bd
  have e0 : s₁.heap = h0 := by rw [← hh, Bd.state]; rfl
  have N0 := Fr.nil n0
  have K0 : Keep h0 h0 [] := Keep.refl _ _
  have pre0 : ∀ tgt, Steps p.tables e below (s₁.setTop (mkF m 0 #[.val (.ref a), .unset, .unset] [])) tgt → Steps p.tables e below (s₁.setTop (entryFrame m #[(.ref a)] 3)) tgt := fun tgt kgo => castTop (ef_rmsb m a) kgo
  have hS0 : s.Since s.vm 0 := (State.WarmedH.refl s).since 0
  have hk0 : 0 ≤ h0.size := Nat.zero_le _
  have CH0 : CHr Z EL0 s.vm h0 s.vm h0 := CHr.refl hCH
  obtain ⟨sEA, sCA, spA, slA, tA, skA, sVA, sAA⟩ := id Sa
  obtain ⟨cq1, kq1, q1a, q1b, q1c⟩ := isOf hZ e0 sEA
  obtain ⟨_, _, ⟨T1, L1, k1, n1⟩, -, X1, ⟨Lc1, hQ1, l1, y1, z1⟩, st1⟩ := X0.virtualBack hx (y := (⟨"java/lang/String", "length", "()I"⟩ : MethodName)) (z := (⟨"java/lang/String", "length", "()I"⟩ : MethodName)) hown (mvT hZ (ow34 hw)) (mvT hZ (ow35 hw)) (notFace_of_selects (args := #[]) (mvT hZ (ow37 hw))) (mvT hZ (ow37 hw)) (mvT hZ (ow36 hw)) (by decide) (StrChars.Road.lenW (W := 0) hZ (own_wlen hw) (kI := 4) (ow10 hw) (cs := cs) sEA sVA sCA sAA (StrChars.Road.codOf rfl (fun c hc => (spA c hc).2)) (own_up _ spA) (O2.ext O0.2) P5 slA (by decide) (by decide)) q1a q1c (g := (mkF m 3 #[.val (.ref a), .val (.int (0 : Int32)), .unset] [(.ref a)])) rfl (by rw [hml]; rfl) (Steps.refl _) (argsL := []) (rest := []) (lenOf pd7 rfl) rfl (by show 2 * 0 + _ ≤ _; exact Nat.le_of_eq rfl) (hb hby d_prog_32_method_5_code_3) (fun _ _ => ⟨rfl, e0, (by decide : 0 + 0 ≤ _), (by decide : 0 + 0 ≤ _)⟩)
  dsimp only [Pt.U, Pt.locs, Pt.cells, Pt.slots] at X1 l1 y1 z1 st1 hQ1
  subst l1 y1 z1
  obtain ⟨rfl, hL1, eq1⟩ := hQ1
  have Nq1 := own_frn hL1 n0
  have N2 := Fr.app N0 Nq1
  have pre3 : ∀ tgt, Steps p.tables e below (T1.setTop (mkF m 7 #[.val (.ref a), .val (.int (0 : Int32)), .val (.int (Int32.ofNat (List.length cs)))] [])) tgt → Steps p.tables e below (s₁.setTop (entryFrame m #[(.ref a)] 3)) tgt := by
    intro tgt kgo
    refine pre0 _ ?_
    refine XS.iconst X0.here hx rfl (hb hby d_prog_32_method_5_code_0) ?_
    show Steps p.tables e below (s₁.setTop (mkF m 1 #[.val (.ref a), .unset, .unset] [(.int (0 : Int32))])) _
    refine XS.istoreN X0.here hx rfl (hb hby d_prog_32_method_5_code_1) rfl (l' := #[.val (.ref a), .val (.int (0 : Int32)), .unset]) rfl ?_
    show Steps p.tables e below (s₁.setTop (mkF m 2 #[.val (.ref a), .val (.int (0 : Int32)), .unset] [])) _
    refine XS.aloadN X0.here hx rfl (hb hby d_prog_32_method_5_code_2) rfl rfl ?_
    show Steps p.tables e below (s₁.setTop (mkF m 3 #[.val (.ref a), .val (.int (0 : Int32)), .unset] [(.ref a)])) _
    refine st1.trans ?_
    show Steps p.tables e below (T1.setTop (mkF m 6 #[.val (.ref a), .val (.int (0 : Int32)), .unset] [(.int (Int32.ofNat (List.length cs)))])) _
    refine XS.istoreN X1.here hx rfl (hb hby d_prog_32_method_5_code_6) rfl (l' := #[.val (.ref a), .val (.int (0 : Int32)), .val (.int (Int32.ofNat (List.length cs)))]) rfl ?_
    show Steps p.tables e below (T1.setTop (mkF m 7 #[.val (.ref a), .val (.int (0 : Int32)), .val (.int (Int32.ofNat (List.length cs)))] [])) _
    exact kgo
  have lp4 : ∀ (kq : Nat) (Tl4 : State) (lol4 : List Loc) (i1 : Nat), (cs.length - i1 < kq ∧ i1 ≤ cs.length ∧ ∀ k, k < i1 → ¬ bl (List.getD cs k 0) = 0) → Stand p l e ({ frames := 5, cells := 2, slots := 8, locals := 122 } : Room) (s.setVm s.vm) m #[(.ref a)] below meth c Tl4 lol4 0 0 → Tl4.heap = h0 → Fr n0 lol4 → (∀ tgt, Steps p.tables e below (Tl4.setTop (mkF m 7 #[.val (.ref a), .val (.int (Int32.ofNat i1)), .val (.int (Int32.ofNat (List.length cs)))] [])) tgt → Steps p.tables e below (s₁.setTop (entryFrame m #[(.ref a)] 3)) tgt) → ∃ (T' : State) (lo' : List Loc) (i1 : Nat), Stand p l e ({ frames := 5, cells := 2, slots := 8, locals := 122 } : Room) (s.setVm s.vm) m #[(.ref a)] below meth c T' lo' 0 0 ∧ T'.heap = h0 ∧ Fr n0 lo' ∧ (i1 ≤ cs.length ∧ (∀ k, k < i1 → ¬ bl (List.getD cs k 0) = 0) ∧ (i1 = cs.length ∨ (i1 < cs.length ∧ bl (List.getD cs i1 0) = 0))) ∧ (∀ tgt, Steps p.tables e below (T'.setTop (mkF m 29 #[.val (.ref a), .val (.int (Int32.ofNat i1)), .val (.int (Int32.ofNat (List.length cs)))] [])) tgt → Steps p.tables e below (s₁.setTop (entryFrame m #[(.ref a)] 3)) tgt) := by
    intro kq
    induction kq with
    | zero => intro Tl lol i1 hI; exact absurd hI.1 (Nat.not_lt_zero _)
    | succ kq ih =>
      intro Tl4 lol4 i1 hI Xl4 el4 Nl4 pl4
      have pre5 : ∀ tgt, Steps p.tables e below (Tl4.setTop (mkF m 9 #[.val (.ref a), .val (.int (Int32.ofNat i1)), .val (.int (Int32.ofNat (List.length cs)))] [(.int (Int32.ofNat (List.length cs))), (.int (Int32.ofNat i1))])) tgt → Steps p.tables e below (s₁.setTop (entryFrame m #[(.ref a)] 3)) tgt := by
        intro tgt kgo
        refine pl4 _ ?_
        refine XS.iloadN Xl4.here hx rfl (hb hby d_prog_32_method_5_code_7) rfl ?_
        show Steps p.tables e below (Tl4.setTop (mkF m 8 #[.val (.ref a), .val (.int (Int32.ofNat i1)), .val (.int (Int32.ofNat (List.length cs)))] [(.int (Int32.ofNat i1))])) _
        refine XS.iloadN Xl4.here hx rfl (hb hby d_prog_32_method_5_code_8) rfl ?_
        show Steps p.tables e below (Tl4.setTop (mkF m 9 #[.val (.ref a), .val (.int (Int32.ofNat i1)), .val (.int (Int32.ofNat (List.length cs)))] [(.int (Int32.ofNat (List.length cs))), (.int (Int32.ofNat i1))])) _
        exact kgo
      by_cases hc9_6 : (Int32.ofNat i1) < (Int32.ofNat (List.length cs))
      · obtain ⟨cq7, kq7, q7a, q7b, q7c⟩ := isOf hZ el4 sEA
        obtain ⟨_, _, ⟨T7, L7, k7, n7⟩, -, X7, ⟨Lc7, hQ7, l7, y7, z7⟩, st7⟩ := Xl4.virtualBack hx (y := (⟨"java/lang/String", "charAt", "(I)C"⟩ : MethodName)) (z := (⟨"java/lang/String", "charAt", "(I)C"⟩ : MethodName)) hown (mvT hZ (ow73 hw)) (mvT hZ (ow74 hw)) (notFace_of_selects (args := #[]) (mvT hZ (ow76 hw))) (mvT hZ (ow76 hw)) (mvT hZ (ow75 hw)) (by decide) (StrChars.Road.chN (W := 0) hZ (own_wch hw) (kI := 4) (ow10 hw) (cs := cs) (i := i1) sEA sVA sCA sAA (StrChars.Road.codOf rfl (fun c hc => (spA c hc).2)) (own_up _ spA) (O2.ext O0.2) P5 (O4.ext O0.2) rf slA ((on_lt (by omega) (by omega)).mp hc9_6) rfl (by decide) (by decide)) q7a q7c (g := (mkF m 14 #[.val (.ref a), .val (.int (Int32.ofNat i1)), .val (.int (Int32.ofNat (List.length cs)))] [(.int (Int32.ofNat i1)), (.ref a)])) rfl (by rw [hml]; rfl) (Steps.refl _) (argsL := [(.int (Int32.ofNat i1))]) (rest := []) (lenOf pd11 rfl) rfl (by show 2 * 0 + _ ≤ _; exact Nat.le_of_eq rfl) (hb hby d_prog_32_method_5_code_14) (fun _ _ => ⟨rfl, el4, (by decide : 0 + 0 ≤ _), (by decide : 0 + 0 ≤ _)⟩)
        dsimp only [Pt.U, Pt.locs, Pt.cells, Pt.slots] at X7 l7 y7 z7 st7 hQ7
        subst l7 y7 z7
        obtain ⟨rfl, hL7, eq7⟩ := hQ7
        have Nq7 := own_frn hL7 n0
        have N8 := Fr.app Nl4 Nq7
        obtain ⟨_, _, ⟨T9, L9, k9, n9⟩, -, X9, ⟨Lc9, hQ9, l9, y9, z9⟩, st9⟩ := Jvm.LawKit.callS X7 hx (y := (⟨"com/example/redress/redress/definition/Statement", "isBlank", "(C)Z"⟩ : MethodName)) hown (mvT hZ (ow93 hw)) (mvT hZ (ow94 hw)) (mvT hZ (ow32 hw)) (mvT hZ (ow95 hw)) (by decide) (backOf (W := 0) (rmisb l Z a0 hw [] (List.getD cs i1 0)  h0 n0 O0 ) hZ (ow95 hw) (ow32 hw) (by decide) (by decide)) (g := (mkF m 17 #[.val (.ref a), .val (.int (Int32.ofNat i1)), .val (.int (Int32.ofNat (List.length cs)))] [(.int (List.getD cs i1 0))])) rfl (by rw [hml]; rfl) (argsL := [(.int (List.getD cs i1 0))]) (rest := []) (lenOf pd12 rfl) rfl (by show 2 * 0 + _ ≤ _; exact Nat.le_of_eq rfl) (hb hby d_prog_32_method_5_code_17) (fun _ _ => ⟨rfl, eq7, (by decide : 0 + 0 ≤ _), (by decide : 0 + 0 ≤ _)⟩)
        dsimp only [Pt.U, Pt.locs, Pt.cells, Pt.slots] at X9 l9 y9 z9 st9 hQ9
        subst l9 y9 z9
        obtain ⟨rfl, Nq9, eq9⟩ := hQ9
        have N10 := Fr.app N8 Nq9
        have pre11 : ∀ tgt, Steps p.tables e below (T9.setTop (mkF m 20 #[.val (.ref a), .val (.int (Int32.ofNat i1)), .val (.int (Int32.ofNat (List.length cs)))] [(.int (bl (List.getD cs i1 0)))])) tgt → Steps p.tables e below (s₁.setTop (entryFrame m #[(.ref a)] 3)) tgt := by
          intro tgt kgo
          refine pre5 _ ?_
          refine XS.icmpNo Xl4.here hx rfl (hb hby d_prog_32_method_5_code_9) rfl (tlt hc9_6).2.1 ?_
          show Steps p.tables e below (Tl4.setTop (mkF m 12 #[.val (.ref a), .val (.int (Int32.ofNat i1)), .val (.int (Int32.ofNat (List.length cs)))] [])) _
          refine XS.aloadN Xl4.here hx rfl (hb hby d_prog_32_method_5_code_12) rfl rfl ?_
          show Steps p.tables e below (Tl4.setTop (mkF m 13 #[.val (.ref a), .val (.int (Int32.ofNat i1)), .val (.int (Int32.ofNat (List.length cs)))] [(.ref a)])) _
          refine XS.iloadN Xl4.here hx rfl (hb hby d_prog_32_method_5_code_13) rfl ?_
          show Steps p.tables e below (Tl4.setTop (mkF m 14 #[.val (.ref a), .val (.int (Int32.ofNat i1)), .val (.int (Int32.ofNat (List.length cs)))] [(.int (Int32.ofNat i1)), (.ref a)])) _
          refine st7.trans ?_
          show Steps p.tables e below (T7.setTop (mkF m 17 #[.val (.ref a), .val (.int (Int32.ofNat i1)), .val (.int (Int32.ofNat (List.length cs)))] [(.int (List.getD cs i1 0))])) _
          refine st9 _ ?_
          show Steps p.tables e below (T9.setTop (mkF m 20 #[.val (.ref a), .val (.int (Int32.ofNat i1)), .val (.int (Int32.ofNat (List.length cs)))] [(.int (bl (List.getD cs i1 0)))])) _
          exact kgo
        by_cases hc20_12 : (bl (List.getD cs i1 0)) = (0 : Int32)
        · have pre13 : ∀ tgt, Steps p.tables e below (T9.setTop (mkF m 29 #[.val (.ref a), .val (.int (Int32.ofNat i1)), .val (.int (Int32.ofNat (List.length cs)))] [])) tgt → Steps p.tables e below (s₁.setTop (entryFrame m #[(.ref a)] 3)) tgt := by
            intro tgt kgo
            refine pre11 _ ?_
            refine XS.ifYes X9.here hx rfl (pc0 := 20) (pc' := 29) rfl (hb hby d_prog_32_method_5_code_20) rfl ((if0 _ _).trans (teq hc20_12).1) (by decide) (by decide) ?_
            show Steps p.tables e below (T9.setTop (mkF m 29 #[.val (.ref a), .val (.int (Int32.ofNat i1)), .val (.int (Int32.ofNat (List.length cs)))] [])) _
            exact kgo
          exact ⟨_, _, i1, X9, eq9, N10, (own_l1e hI (Or.inr ⟨hc9_6, hc20_12⟩) hl4), pre13⟩
        · have pre14 : ∀ tgt, Steps p.tables e below (T9.setTop (mkF m 7 #[.val (.ref a), .val (.int ((Int32.ofNat i1) + (1 : Int32))), .val (.int (Int32.ofNat (List.length cs)))] [])) tgt → Steps p.tables e below (s₁.setTop (entryFrame m #[(.ref a)] 3)) tgt := by
            intro tgt kgo
            refine pre11 _ ?_
            refine XS.ifNo X9.here hx rfl (hb hby d_prog_32_method_5_code_20) rfl ((if0 _ _).trans (feq hc20_12).1) ?_
            show Steps p.tables e below (T9.setTop (mkF m 23 #[.val (.ref a), .val (.int (Int32.ofNat i1)), .val (.int (Int32.ofNat (List.length cs)))] [])) _
            refine XS.iinc X9.here hx rfl (hb hby d_prog_32_method_5_code_23) rfl (l' := #[.val (.ref a), .val (.int ((Int32.ofNat i1) + (1 : Int32))), .val (.int (Int32.ofNat (List.length cs)))]) rfl ?_
            show Steps p.tables e below (T9.setTop (mkF m 26 #[.val (.ref a), .val (.int ((Int32.ofNat i1) + (1 : Int32))), .val (.int (Int32.ofNat (List.length cs)))] [])) _
            refine XS.goto X9.here hx rfl (pc0 := 26) (pc' := 7) rfl (hb hby d_prog_32_method_5_code_26) (by decide) (by decide) ?_
            show Steps p.tables e below (T9.setTop (mkF m 7 #[.val (.ref a), .val (.int ((Int32.ofNat i1) + (1 : Int32))), .val (.int (Int32.ofNat (List.length cs)))] [])) _
            exact kgo
          have pre15 : ∀ tgt, Steps p.tables e below (T9.setTop (mkF m 7 #[.val (.ref a), .val (.int (Int32.ofNat (i1 + 1))), .val (.int (Int32.ofNat (List.length cs)))] [])) tgt → Steps p.tables e below (s₁.setTop (entryFrame m #[(.ref a)] 3)) tgt := by
            have q := pre14
            rw [on_inc] at q
            exact q
          exact ih _ _ (i1 + 1) (own_l1b hI hc9_6 hc20_12 hl4) X9 eq9 N10 pre15
      · have pre16 : ∀ tgt, Steps p.tables e below (Tl4.setTop (mkF m 29 #[.val (.ref a), .val (.int (Int32.ofNat i1)), .val (.int (Int32.ofNat (List.length cs)))] [])) tgt → Steps p.tables e below (s₁.setTop (entryFrame m #[(.ref a)] 3)) tgt := by
          intro tgt kgo
          refine pre5 _ ?_
          refine XS.icmpYes Xl4.here hx rfl (pc0 := 9) (pc' := 29) rfl (hb hby d_prog_32_method_5_code_9) rfl (flt hc9_6).2.1 (by decide) (by decide) ?_
          show Steps p.tables e below (Tl4.setTop (mkF m 29 #[.val (.ref a), .val (.int (Int32.ofNat i1)), .val (.int (Int32.ofNat (List.length cs)))] [])) _
          exact kgo
        exact ⟨_, _, i1, Xl4, el4, Nl4, (own_l1e hI (Or.inl hc9_6) hl4), pre16⟩
  obtain ⟨T4, lo4, i1, X4, e4, N4, hp4, pre4⟩ := lp4 (cs.length - 0 + 1) _ _ 0 ⟨Nat.lt_succ_self _, Nat.zero_le _, fun k hk => absurd hk (Nat.not_lt_zero _)⟩ X1 eq1 N2 pre3
  obtain ⟨g1, g2, g3⟩ := id hp4
  have lp17 : ∀ (kq : Nat) (Tl17 : State) (lol17 : List Loc) (j2 : Nat), (j2 < kq ∧ i1 ≤ j2 ∧ j2 ≤ cs.length ∧ ∀ k, j2 ≤ k → k < cs.length → ¬ bl (List.getD cs k 0) = 0) → Stand p l e ({ frames := 5, cells := 2, slots := 8, locals := 122 } : Room) (s.setVm s.vm) m #[(.ref a)] below meth c Tl17 lol17 0 0 → Tl17.heap = h0 → Fr n0 lol17 → (∀ tgt, Steps p.tables e below (Tl17.setTop (mkF m 29 #[.val (.ref a), .val (.int (Int32.ofNat i1)), .val (.int (Int32.ofNat j2))] [])) tgt → Steps p.tables e below (s₁.setTop (entryFrame m #[(.ref a)] 3)) tgt) → ∃ (T' : State) (lo' : List Loc) (j2 : Nat), Stand p l e ({ frames := 5, cells := 2, slots := 8, locals := 122 } : Room) (s.setVm s.vm) m #[(.ref a)] below meth c T' lo' 0 0 ∧ T'.heap = h0 ∧ Fr n0 lo' ∧ (i1 ≤ j2 ∧ j2 ≤ cs.length ∧ (∀ k, j2 ≤ k → k < cs.length → ¬ bl (List.getD cs k 0) = 0) ∧ (j2 = i1 ∨ (i1 < j2 ∧ bl (List.getD cs (j2 - 1) 0) = 0))) ∧ (∀ tgt, Steps p.tables e below (T'.setTop (mkF m 53 #[.val (.ref a), .val (.int (Int32.ofNat i1)), .val (.int (Int32.ofNat j2))] [])) tgt → Steps p.tables e below (s₁.setTop (entryFrame m #[(.ref a)] 3)) tgt) := by
    intro kq
    induction kq with
    | zero => intro Tl lol j2 hI; exact absurd hI.1 (Nat.not_lt_zero _)
    | succ kq ih =>
      intro Tl17 lol17 j2 hI Xl17 el17 Nl17 pl17
      have pre18 : ∀ tgt, Steps p.tables e below (Tl17.setTop (mkF m 31 #[.val (.ref a), .val (.int (Int32.ofNat i1)), .val (.int (Int32.ofNat j2))] [(.int (Int32.ofNat i1)), (.int (Int32.ofNat j2))])) tgt → Steps p.tables e below (s₁.setTop (entryFrame m #[(.ref a)] 3)) tgt := by
        intro tgt kgo
        refine pl17 _ ?_
        refine XS.iloadN Xl17.here hx rfl (hb hby d_prog_32_method_5_code_29) rfl ?_
        show Steps p.tables e below (Tl17.setTop (mkF m 30 #[.val (.ref a), .val (.int (Int32.ofNat i1)), .val (.int (Int32.ofNat j2))] [(.int (Int32.ofNat j2))])) _
        refine XS.iloadN Xl17.here hx rfl (hb hby d_prog_32_method_5_code_30) rfl ?_
        show Steps p.tables e below (Tl17.setTop (mkF m 31 #[.val (.ref a), .val (.int (Int32.ofNat i1)), .val (.int (Int32.ofNat j2))] [(.int (Int32.ofNat i1)), (.int (Int32.ofNat j2))])) _
        exact kgo
      by_cases hc31_19 : (Int32.ofNat i1) < (Int32.ofNat j2)
      · have hij2 : i1 < j2 := (on_lt (by omega) (by omega)).mp hc31_19
        obtain ⟨cq20, kq20, q20a, q20b, q20c⟩ := isOf hZ el17 sEA
        obtain ⟨_, _, ⟨T20, L20, k20, n20⟩, -, X20, ⟨Lc20, hQ20, l20, y20, z20⟩, st20⟩ := Xl17.virtualBack hx (y := (⟨"java/lang/String", "charAt", "(I)C"⟩ : MethodName)) (z := (⟨"java/lang/String", "charAt", "(I)C"⟩ : MethodName)) hown (mvT hZ (ow73 hw)) (mvT hZ (ow74 hw)) (notFace_of_selects (args := #[]) (mvT hZ (ow76 hw))) (mvT hZ (ow76 hw)) (mvT hZ (ow75 hw)) (by decide) (StrChars.Road.chN (W := 0) hZ (own_wch hw) (kI := 4) (ow10 hw) (cs := cs) (i := (j2 - 1)) sEA sVA sCA sAA (StrChars.Road.codOf rfl (fun c hc => (spA c hc).2)) (own_up _ spA) (O2.ext O0.2) P5 (O4.ext O0.2) rf slA (by omega) (on_dec (by omega) (by omega)) (by decide) (by decide)) q20a q20c (g := (mkF m 38 #[.val (.ref a), .val (.int (Int32.ofNat i1)), .val (.int (Int32.ofNat j2))] [(.int ((Int32.ofNat j2) - (1 : Int32))), (.ref a)])) rfl (by rw [hml]; rfl) (Steps.refl _) (argsL := [(.int ((Int32.ofNat j2) - (1 : Int32)))]) (rest := []) (lenOf pd11 rfl) rfl (by show 2 * 0 + _ ≤ _; exact Nat.le_of_eq rfl) (hb hby d_prog_32_method_5_code_38) (fun _ _ => ⟨rfl, el17, (by decide : 0 + 0 ≤ _), (by decide : 0 + 0 ≤ _)⟩)
        dsimp only [Pt.U, Pt.locs, Pt.cells, Pt.slots] at X20 l20 y20 z20 st20 hQ20
        subst l20 y20 z20
        obtain ⟨rfl, hL20, eq20⟩ := hQ20
        have Nq20 := own_frn hL20 n0
        have N21 := Fr.app Nl17 Nq20
        obtain ⟨_, _, ⟨T22, L22, k22, n22⟩, -, X22, ⟨Lc22, hQ22, l22, y22, z22⟩, st22⟩ := Jvm.LawKit.callS X20 hx (y := (⟨"com/example/redress/redress/definition/Statement", "isBlank", "(C)Z"⟩ : MethodName)) hown (mvT hZ (ow93 hw)) (mvT hZ (ow94 hw)) (mvT hZ (ow32 hw)) (mvT hZ (ow95 hw)) (by decide) (backOf (W := 0) (rmisb l Z a0 hw [] (List.getD cs (j2 - 1) 0)  h0 n0 O0 ) hZ (ow95 hw) (ow32 hw) (by decide) (by decide)) (g := (mkF m 41 #[.val (.ref a), .val (.int (Int32.ofNat i1)), .val (.int (Int32.ofNat j2))] [(.int (List.getD cs (j2 - 1) 0))])) rfl (by rw [hml]; rfl) (argsL := [(.int (List.getD cs (j2 - 1) 0))]) (rest := []) (lenOf pd12 rfl) rfl (by show 2 * 0 + _ ≤ _; exact Nat.le_of_eq rfl) (hb hby d_prog_32_method_5_code_41) (fun _ _ => ⟨rfl, eq20, (by decide : 0 + 0 ≤ _), (by decide : 0 + 0 ≤ _)⟩)
        dsimp only [Pt.U, Pt.locs, Pt.cells, Pt.slots] at X22 l22 y22 z22 st22 hQ22
        subst l22 y22 z22
        obtain ⟨rfl, Nq22, eq22⟩ := hQ22
        have N23 := Fr.app N21 Nq22
        have pre24 : ∀ tgt, Steps p.tables e below (T22.setTop (mkF m 44 #[.val (.ref a), .val (.int (Int32.ofNat i1)), .val (.int (Int32.ofNat j2))] [(.int (bl (List.getD cs (j2 - 1) 0)))])) tgt → Steps p.tables e below (s₁.setTop (entryFrame m #[(.ref a)] 3)) tgt := by
          intro tgt kgo
          refine pre18 _ ?_
          refine XS.icmpNo Xl17.here hx rfl (hb hby d_prog_32_method_5_code_31) rfl (tlt hc31_19).2.2.2 ?_
          show Steps p.tables e below (Tl17.setTop (mkF m 34 #[.val (.ref a), .val (.int (Int32.ofNat i1)), .val (.int (Int32.ofNat j2))] [])) _
          refine XS.aloadN Xl17.here hx rfl (hb hby d_prog_32_method_5_code_34) rfl rfl ?_
          show Steps p.tables e below (Tl17.setTop (mkF m 35 #[.val (.ref a), .val (.int (Int32.ofNat i1)), .val (.int (Int32.ofNat j2))] [(.ref a)])) _
          refine XS.iloadN Xl17.here hx rfl (hb hby d_prog_32_method_5_code_35) rfl ?_
          show Steps p.tables e below (Tl17.setTop (mkF m 36 #[.val (.ref a), .val (.int (Int32.ofNat i1)), .val (.int (Int32.ofNat j2))] [(.int (Int32.ofNat j2)), (.ref a)])) _
          refine XS.iconst Xl17.here hx rfl (hb hby d_prog_32_method_5_code_36) ?_
          show Steps p.tables e below (Tl17.setTop (mkF m 37 #[.val (.ref a), .val (.int (Int32.ofNat i1)), .val (.int (Int32.ofNat j2))] [(.int (1 : Int32)), (.int (Int32.ofNat j2)), (.ref a)])) _
          refine XS.isub Xl17.here hx rfl (hb hby d_prog_32_method_5_code_37) rfl ?_
          show Steps p.tables e below (Tl17.setTop (mkF m 38 #[.val (.ref a), .val (.int (Int32.ofNat i1)), .val (.int (Int32.ofNat j2))] [(.int ((Int32.ofNat j2) - (1 : Int32))), (.ref a)])) _
          refine st20.trans ?_
          show Steps p.tables e below (T20.setTop (mkF m 41 #[.val (.ref a), .val (.int (Int32.ofNat i1)), .val (.int (Int32.ofNat j2))] [(.int (List.getD cs (j2 - 1) 0))])) _
          refine st22 _ ?_
          show Steps p.tables e below (T22.setTop (mkF m 44 #[.val (.ref a), .val (.int (Int32.ofNat i1)), .val (.int (Int32.ofNat j2))] [(.int (bl (List.getD cs (j2 - 1) 0)))])) _
          exact kgo
        by_cases hc44_25 : (bl (List.getD cs (j2 - 1) 0)) = (0 : Int32)
        · have pre26 : ∀ tgt, Steps p.tables e below (T22.setTop (mkF m 53 #[.val (.ref a), .val (.int (Int32.ofNat i1)), .val (.int (Int32.ofNat j2))] [])) tgt → Steps p.tables e below (s₁.setTop (entryFrame m #[(.ref a)] 3)) tgt := by
            intro tgt kgo
            refine pre24 _ ?_
            refine XS.ifYes X22.here hx rfl (pc0 := 44) (pc' := 53) rfl (hb hby d_prog_32_method_5_code_44) rfl ((if0 _ _).trans (teq hc44_25).1) (by decide) (by decide) ?_
            show Steps p.tables e below (T22.setTop (mkF m 53 #[.val (.ref a), .val (.int (Int32.ofNat i1)), .val (.int (Int32.ofNat j2))] [])) _
            exact kgo
          exact ⟨_, _, j2, X22, eq22, N23, (own_l2e hI (Or.inr ⟨hc31_19, hc44_25⟩) hl4), pre26⟩
        · have pre27 : ∀ tgt, Steps p.tables e below (T22.setTop (mkF m 29 #[.val (.ref a), .val (.int (Int32.ofNat i1)), .val (.int ((Int32.ofNat j2) + (-1 : Int32)))] [])) tgt → Steps p.tables e below (s₁.setTop (entryFrame m #[(.ref a)] 3)) tgt := by
            intro tgt kgo
            refine pre24 _ ?_
            refine XS.ifNo X22.here hx rfl (hb hby d_prog_32_method_5_code_44) rfl ((if0 _ _).trans (feq hc44_25).1) ?_
            show Steps p.tables e below (T22.setTop (mkF m 47 #[.val (.ref a), .val (.int (Int32.ofNat i1)), .val (.int (Int32.ofNat j2))] [])) _
            refine XS.iinc X22.here hx rfl (hb hby d_prog_32_method_5_code_47) rfl (l' := #[.val (.ref a), .val (.int (Int32.ofNat i1)), .val (.int ((Int32.ofNat j2) + (-1 : Int32)))]) rfl ?_
            show Steps p.tables e below (T22.setTop (mkF m 50 #[.val (.ref a), .val (.int (Int32.ofNat i1)), .val (.int ((Int32.ofNat j2) + (-1 : Int32)))] [])) _
            refine XS.goto X22.here hx rfl (pc0 := 50) (pc' := 29) rfl (hb hby d_prog_32_method_5_code_50) (by decide) (by decide) ?_
            show Steps p.tables e below (T22.setTop (mkF m 29 #[.val (.ref a), .val (.int (Int32.ofNat i1)), .val (.int ((Int32.ofNat j2) + (-1 : Int32)))] [])) _
            exact kgo
          have pre28 : ∀ tgt, Steps p.tables e below (T22.setTop (mkF m 29 #[.val (.ref a), .val (.int (Int32.ofNat i1)), .val (.int (Int32.ofNat (j2 - 1)))] [])) tgt → Steps p.tables e below (s₁.setTop (entryFrame m #[(.ref a)] 3)) tgt := by
            have q := pre27
            rw [on_decn (by omega) (by omega)] at q
            exact q
          exact ih _ _ (j2 - 1) (own_l2b hI hc31_19 hc44_25 hl4) X22 eq22 N23 pre28
      · have pre29 : ∀ tgt, Steps p.tables e below (Tl17.setTop (mkF m 53 #[.val (.ref a), .val (.int (Int32.ofNat i1)), .val (.int (Int32.ofNat j2))] [])) tgt → Steps p.tables e below (s₁.setTop (entryFrame m #[(.ref a)] 3)) tgt := by
          intro tgt kgo
          refine pre18 _ ?_
          refine XS.icmpYes Xl17.here hx rfl (pc0 := 31) (pc' := 53) rfl (hb hby d_prog_32_method_5_code_31) rfl (flt hc31_19).2.2.2 (by decide) (by decide) ?_
          show Steps p.tables e below (Tl17.setTop (mkF m 53 #[.val (.ref a), .val (.int (Int32.ofNat i1)), .val (.int (Int32.ofNat j2))] [])) _
          exact kgo
        exact ⟨_, _, j2, Xl17, el17, Nl17, (own_l2e hI (Or.inl hc31_19) hl4), pre29⟩
  obtain ⟨T17, lo17, j2, X17, e17, N17, hp17, pre17⟩ := lp17 (cs.length + 1) _ _ cs.length ⟨Nat.lt_succ_self _, g1, Nat.le_refl _, fun k hk hk' => absurd hk' (Nat.not_lt.mpr hk)⟩ X4 e4 N4 pre4
  obtain ⟨g4, g5, g6, g7⟩ := id hp17
  obtain ⟨cq30, kq30, q30a, q30b, q30c⟩ := isOf hZ e17 sEA
  obtain ⟨_, _, ⟨T30, L30, k30, n30⟩, -, Xr30, hSr30, hgr30, ⟨Lc30, hQ30, l30, y30, z30, CR30⟩, st30⟩ := X17.virtualBackS hx (y := (⟨"java/lang/String", "substring", "(II)Ljava/lang/String;"⟩ : MethodName)) (z := (⟨"java/lang/String", "substring", "(II)Ljava/lang/String;"⟩ : MethodName)) hown (mvT hZ (ow45 hw)) (mvT hZ (ow46 hw)) (notFace_of_selects (args := #[]) (mvT hZ (ow48 hw))) (mvT hZ (ow48 hw)) (mvT hZ (ow47 hw)) (by decide) (backOfSH (W := 0) (rmsub l Z a0 hw [] a (Int32.ofNat i1) (Int32.ofNat j2) cs i1 j2 G1 fm h0 n0 O0 O2 P5 O4 rf ⟨sEA, sCA, spA, slA, tA, skA, sVA, sAA⟩ hl4 rfl rfl g4 g5) hZ (ow49 hw) (ow11 hw) (by decide) (by decide) (own_EW hw) CH0.1) q30a q30c (g := (mkF m 56 #[.val (.ref a), .val (.int (Int32.ofNat i1)), .val (.int (Int32.ofNat j2))] [(.int (Int32.ofNat j2)), (.int (Int32.ofNat i1)), (.ref a)])) rfl (by rw [hml]; rfl) (Steps.refl _) (argsL := [(.int (Int32.ofNat i1)), (.int (Int32.ofNat j2))]) (rest := []) (lenOf pd13 rfl) rfl (by show 2 * 0 + _ ≤ _; exact Nat.le_of_eq rfl) (hb hby d_prog_32_method_5_code_56) (fun _ _ => ⟨rfl, e17, (by decide : 0 + 2 ≤ _), (by decide : 0 + 8 ≤ _)⟩)
  dsimp only [Pt.U, Pt.locs, Pt.cells, Pt.slots] at Xr30 hSr30 hgr30 l30 y30 z30 CR30 st30 hQ30
  subst l30 y30 z30
  obtain ⟨X30, hS30, hZ30, hown30⟩ := rebS hS0 (by rw [e17]; exact hk0) Xr30 hSr30 hgr30 hZ hown
  have hk30 : T30.heap.size ≤ T30.heap.size := Nat.le_refl _
  obtain ⟨nb30, rfl, Nq30, kp30, Sn30⟩ := hQ30
  have N31 := Fr.app N17 Nq30
  have CH32 := CH0.trans CR30
  have O33 := O0.keep kp30 all0
  have K33 := K0.trans kp30 all0
  obtain ⟨fs, hretL, hrun, hended, hEnd⟩ := Stand.leaveW X30 hS30 hk30 (v := some (.ref nb30)) (fun h => by rw [Bd.returns] at h; cases h)
  have hCf : CHr Z EL0 s.vm s.heap T30.vm T30.heap := by rw [hh]; exact CH32.trans (CHv.at X30 hZ30 (own_EW hw) CH32.1)
  refine ⟨_, _, pre17 _ ?_, hrun, hended, _, _, rfl, ?_, hCf, hEnd.1, hEnd.2.1, hEnd.2.2.1, hEnd.2.2.2.mono (by decide) (by decide)⟩
  · refine XS.aloadN X17.here hx rfl (hb hby d_prog_32_method_5_code_53) rfl rfl ?_
    show Steps p.tables e below (T17.setTop (mkF m 54 #[.val (.ref a), .val (.int (Int32.ofNat i1)), .val (.int (Int32.ofNat j2))] [(.ref a)])) _
    refine XS.iloadN X17.here hx rfl (hb hby d_prog_32_method_5_code_54) rfl ?_
    show Steps p.tables e below (T17.setTop (mkF m 55 #[.val (.ref a), .val (.int (Int32.ofNat i1)), .val (.int (Int32.ofNat j2))] [(.int (Int32.ofNat i1)), (.ref a)])) _
    refine XS.iloadN X17.here hx rfl (hb hby d_prog_32_method_5_code_55) rfl ?_
    show Steps p.tables e below (T17.setTop (mkF m 56 #[.val (.ref a), .val (.int (Int32.ofNat i1)), .val (.int (Int32.ofNat j2))] [(.int (Int32.ofNat j2)), (.int (Int32.ofNat i1)), (.ref a)])) _
    refine st30.trans ?_
    show Steps p.tables e below (T30.setTop (mkF m 59 #[.val (.ref a), .val (.int (Int32.ofNat i1)), .val (.int (Int32.ofNat j2))] [(.ref nb30)])) _
    exact retOut X30 hx Bd.returns rfl (Or.inr (Or.inr (Or.inr (Or.inr ⟨rfl, rfl, rfl⟩)))) (hb hby d_prog_32_method_5_code_59) hretL
  · show Q_rmsb Z a cs G1 fm h0 n0 _ T30.heap _
    exact ⟨_, i1, j2, rfl, N31, K33, ⟨g4, g5, g2, g3, g6, g7⟩, Sn30⟩
theorem own_inb {sa k0 : Int32} {sn kn : Nat} (hsa : sa = Int32.ofNat sn) (hk0 : k0 = Int32.ofNat kn) (h : sn + kn < 4) : ¬ (sa + k0) < 0 ∧ (sa + k0) < (4 : Int32) := by
  rw [hsa, hk0, on_add]
  exact ⟨on_n0 (by omega), (on_lt (j := 4) (by omega) (by omega)).mpr h⟩
theorem own_atd {sa k0 d0 d1 d2 d3 : Int32} {sn kn : Nat} (hsa : sa = Int32.ofNat sn) (hk0 : k0 = Int32.ofNat kn) (h : sn + kn < 4) : ([.int d0, .int d1, .int d2, .int d3] : List Value).getD (sa + k0).toNatClampNeg (.int (0 : Int32)) = .int (List.getD [d0, d1, d2, d3] (sn + kn) 0) := by
  rw [hsa, hk0, on_add, on_cl (by omega)]
  have : sn + kn = 0 ∨ sn + kn = 1 ∨ sn + kn = 2 ∨ sn + kn = 3 := by omega
  rcases this with q | q | q | q <;> rw [q] <;> rfl
theorem d_method_6_code_0 : decode method_6_code 0 = .ok (.iload_n 1, 1) := by decide +kernel
theorem d_method_6_code_1 : decode method_6_code 1 = .ok (.iload 4, 2) := by decide +kernel
theorem d_method_6_code_3 : decode method_6_code 3 = .ok (.if_icmp .lt 5, 3) := by decide +kernel
theorem d_method_6_code_6 : decode method_6_code 6 = .ok (.iconst 1, 1) := by decide +kernel
theorem d_method_6_code_7 : decode method_6_code 7 = .ok (.ireturn, 1) := by decide +kernel
theorem d_method_6_code_8 : decode method_6_code 8 = .ok (.aload_n 0, 1) := by decide +kernel
theorem d_method_6_code_9 : decode method_6_code 9 = .ok (.iload_n 1, 1) := by decide +kernel
theorem d_method_6_code_10 : decode method_6_code 10 = .ok (.invokevirtual 41, 3) := by decide +kernel
theorem d_method_6_code_13 : decode method_6_code 13 = .ok (.aload_n 2, 1) := by decide +kernel
theorem d_method_6_code_14 : decode method_6_code 14 = .ok (.iload_n 3, 1) := by decide +kernel
theorem d_method_6_code_15 : decode method_6_code 15 = .ok (.iload_n 1, 1) := by decide +kernel
theorem d_method_6_code_16 : decode method_6_code 16 = .ok (.iadd, 1) := by decide +kernel
theorem d_method_6_code_17 : decode method_6_code 17 = .ok (.caload, 1) := by decide +kernel
theorem d_method_6_code_18 : decode method_6_code 18 = .ok (.if_icmp .ne 7, 3) := by decide +kernel
theorem d_method_6_code_21 : decode method_6_code 21 = .ok (.iconst 1, 1) := by decide +kernel
theorem d_method_6_code_22 : decode method_6_code 22 = .ok (.goto 4, 3) := by decide +kernel
theorem d_method_6_code_26 : decode method_6_code 26 = .ok (.ireturn, 1) := by decide +kernel
def Q_rmat (Z : State) (a : Addr) (k0 : Int32) (da : Addr) (sa : Int32) (la : Int32) (cs : List Int32) (kd : ClassId) (d0 : Int32) (d1 : Int32) (d2 : Int32) (d3 : Int32) (kn : Nat) (sn : Nat) (G1 : Int32) (fm : Value) (h0 : Heap) (n0 : Nat) (v : Option Value) (h : Heap) (L : List Loc) : Prop := v = some (.int (1 : Int32)) ∧ Fr n0 L ∧ h = h0
theorem ef_rmat (m : MethodId) (a : Addr) (k0 : Int32) (da : Addr) (sa : Int32) (la : Int32) : entryFrame m #[(.ref a), (.int k0), (.ref da), (.int sa), (.int la)] 5 = mkF m 0 #[.val (.ref a), .val (.int k0), .val (.ref da), .val (.int sa), .val (.int la)] [] := by first | (simp [entryFrame, mkF, argsToLocals, Value.category]; done) | rfl
set_option maxRecDepth 65536 in
set_option maxHeartbeats 40000000 in
theorem rmat (l : Launch) (Z : State) (a0 : Array Value) (hw : ∀ d ∈ tables_1, d.before a0 Z = true) (ws : List Jvm.Cond) (a : Addr) (k0 : Int32) (da : Addr) (sa : Int32) (la : Int32) (cs : List Int32) (kd : ClassId) (d0 : Int32) (d1 : Int32) (d2 : Int32) (d3 : Int32) (kn : Nat) (sn : Nat) (G1 : Int32) (fm : Value) (h0 : Heap) (n0 : Nat) (O0 : Old Z n0 h0) (O2 : Sta Z Z.heap "java/lang/String" "COMPACT_STRINGS" "Z" (.int G1)) (P5 : ¬ (G1 = (0 : Int32))) (O4 : Sta Z Z.heap "jdk/internal/util/Preconditions" "SIOOBE_FORMATTER" "Ljava/util/function/BiFunction;" fm) (rf : fm.isRef = true) (Sa : StrP Z h0 a cs) (hl4 : cs.length ≤ 4) (Ad : Arv Z h0 da kd .char (4 : Int32) [.int d0, .int d1, .int d2, .int d3] (.int (0 : Int32))) (hk0 : k0 = Int32.ofNat kn) (hkn : kn ≤ 4) (hla : la = Int32.ofNat cs.length) (hsa : sa = Int32.ofNat sn) (hq : kn < cs.length → sn + kn < 4 ∧ List.getD cs kn 0 = List.getD [d0, d1, d2, d3] (sn + kn) 0) :
    MetFree l (⟨"com/example/redress/redress/definition/StatementStripBlanksPinLaw", "at", "(Ljava/lang/String;I[CII)Z"⟩ : MethodName) (head1 (Jvm.Cond.code (⟨"com/example/redress/redress/definition/StatementStripBlanksPinLaw", "at", "(Ljava/lang/String;I[CII)Z"⟩ : MethodName) method_6_code 5 (some .boolean) :: ws) ({ frames := 4, cells := 0, slots := 0, locals := 53 } : Room)) (fun aa U => aa = #[(.ref a), (.int k0), (.ref da), (.int sa), (.int la)] ∧ Z.Warmed39 U.vm ∧ U.heap = h0) (fun _ _ _ _ _ => True) (fun _ U o U' => ∃ v L, o = .returned v ∧ Q_rmat Z a k0 da sa la cs kd d0 d1 d2 d3 kn sn G1 fm h0 n0 v U'.heap L ∧ FrameEnd U o U' L ({ frames := 4, cells := 0, slots := 0, locals := 53 } : Room).cells ({ frames := 4, cells := 0, slots := 0, locals := 53 } : Room).slots) := by
  refine MetFree.of_bodySF (plainFor_of_name pn3) hisR ?_
  intro p e s m args below meth c s₁ Bd hml0 hP hK
  obtain ⟨rfl, hZ, hh⟩ := hP
  have hx := Bd.exec
  have hby := Bd.bytes
  have hml : c.maxLocals = 5 := hml0
  have hown : s.vm.findClass "com/example/redress/redress/definition/StatementStripBlanksPinLaw" = some m.cls := findClass_of_methodNamed Bd.named
  have hnm := (name_of_methodNamed Bd.named Bd.method).1
  have X0 : Stand p l e ({ frames := 4, cells := 0, slots := 0, locals := 53 } : Room) s m #[(.ref a), (.int k0), (.ref da), (.int sa), (.int la)] below meth c s₁ [] 0 0 := Stand.of_body Bd
  have e0 : s₁.heap = h0 := by rw [← hh, Bd.state]; rfl
  have N0 := Fr.nil n0
  have K0 : Keep h0 h0 [] := Keep.refl _ _
  have pre0 : ∀ tgt, Steps p.tables e below (s₁.setTop (mkF m 0 #[.val (.ref a), .val (.int k0), .val (.ref da), .val (.int sa), .val (.int la)] [])) tgt → Steps p.tables e below (s₁.setTop (entryFrame m #[(.ref a), (.int k0), (.ref da), (.int sa), (.int la)] 5)) tgt := fun tgt kgo => castTop (ef_rmat m a k0 da sa la) kgo
  obtain ⟨sEA, sCA, spA, slA, tA, skA, sVA, sAA⟩ := id Sa
  have pre1 : ∀ tgt, Steps p.tables e below (s₁.setTop (mkF m 3 #[.val (.ref a), .val (.int k0), .val (.ref da), .val (.int sa), .val (.int la)] [(.int la), (.int k0)])) tgt → Steps p.tables e below (s₁.setTop (entryFrame m #[(.ref a), (.int k0), (.ref da), (.int sa), (.int la)] 5)) tgt := by
    intro tgt kgo
    refine pre0 _ ?_
    refine XS.iloadN X0.here hx rfl (hb hby d_method_6_code_0) rfl ?_
    show Steps p.tables e below (s₁.setTop (mkF m 1 #[.val (.ref a), .val (.int k0), .val (.ref da), .val (.int sa), .val (.int la)] [(.int k0)])) _
    refine XS.iload X0.here hx rfl (hb hby d_method_6_code_1) rfl ?_
    show Steps p.tables e below (s₁.setTop (mkF m 3 #[.val (.ref a), .val (.int k0), .val (.ref da), .val (.int sa), .val (.int la)] [(.int la), (.int k0)])) _
    exact kgo
  by_cases hc3_2 : k0 < la
  · have hkl : kn < cs.length := (on_lt (by omega) (by omega)).mp (by rw [← hk0, ← hla]; exact hc3_2)
    obtain ⟨hq1, hq2⟩ := hq hkl
    obtain ⟨cq3, kq3, q3a, q3b, q3c⟩ := isOf hZ e0 sEA
    obtain ⟨_, _, ⟨T3, L3, k3, n3⟩, -, X3, ⟨Lc3, hQ3, l3, y3, z3⟩, st3⟩ := X0.virtualBack hx (y := (⟨"java/lang/String", "charAt", "(I)C"⟩ : MethodName)) (z := (⟨"java/lang/String", "charAt", "(I)C"⟩ : MethodName)) hown (mvT hZ (ow124 hw)) (mvT hZ (ow74 hw)) (notFace_of_selects (args := #[]) (mvT hZ (ow76 hw))) (mvT hZ (ow76 hw)) (mvT hZ (ow75 hw)) (by decide) (StrChars.Road.chN (W := 0) hZ (own_wch hw) (kI := 4) (ow10 hw) (cs := cs) (i := kn) sEA sVA sCA sAA (StrChars.Road.codOf rfl (fun c hc => (spA c hc).2)) (own_up _ spA) (O2.ext O0.2) P5 (O4.ext O0.2) rf slA hkl hk0 (by decide) (by decide)) q3a q3c (g := (mkF m 10 #[.val (.ref a), .val (.int k0), .val (.ref da), .val (.int sa), .val (.int la)] [(.int k0), (.ref a)])) rfl (by rw [hml]; rfl) (Steps.refl _) (argsL := [(.int k0)]) (rest := []) (lenOf pd11 rfl) rfl (by show 2 * 0 + _ ≤ _; exact Nat.le_of_eq rfl) (hb hby d_method_6_code_10) (fun _ _ => ⟨rfl, e0, (by decide : 0 + 0 ≤ _), (by decide : 0 + 0 ≤ _)⟩)
    dsimp only [Pt.U, Pt.locs, Pt.cells, Pt.slots] at X3 l3 y3 z3 st3 hQ3
    subst l3 y3 z3
    obtain ⟨rfl, hL3, eq3⟩ := hQ3
    have Nq3 := own_frn hL3 n0
    have N4 := Fr.app N0 Nq3
    obtain ⟨cl5, Ar5, q5, S5, M5, H5, G5⟩ := id Ad
    have hin5 : ¬ ((sa + k0) < 0 ∨ cl5.slots.size ≤ ((sa + k0)).toNatClampNeg) := inb_of S5 (own_inb hsa hk0 hq1)
    have hat5 : cl5.slots[((sa + k0)).toNatClampNeg]? = some (.int (List.getD [d0, d1, d2, d3] (sn + kn) 0)) := H5.at hin5 (own_atd hsa hk0 hq1)
    obtain ⟨fs, hretL, hrun, hended, hW, hsame⟩ := X3.leave (v := some (.int (1 : Int32))) (fun h => by rw [Bd.returns] at h; cases h)
    refine ⟨_, _, pre1 _ ?_, hrun, hended, _, _, rfl, ?_, ⟨_, rfl⟩, hW, hsame.mono (by decide) (by decide)⟩
    · refine XS.icmpYes X0.here hx rfl (pc0 := 3) (pc' := 8) rfl (hb hby d_method_6_code_3) rfl (tlt hc3_2).1 (by decide) (by decide) ?_
      show Steps p.tables e below (s₁.setTop (mkF m 8 #[.val (.ref a), .val (.int k0), .val (.ref da), .val (.int sa), .val (.int la)] [])) _
      refine XS.aloadN X0.here hx rfl (hb hby d_method_6_code_8) rfl rfl ?_
      show Steps p.tables e below (s₁.setTop (mkF m 9 #[.val (.ref a), .val (.int k0), .val (.ref da), .val (.int sa), .val (.int la)] [(.ref a)])) _
      refine XS.iloadN X0.here hx rfl (hb hby d_method_6_code_9) rfl ?_
      show Steps p.tables e below (s₁.setTop (mkF m 10 #[.val (.ref a), .val (.int k0), .val (.ref da), .val (.int sa), .val (.int la)] [(.int k0), (.ref a)])) _
      refine st3.trans ?_
      show Steps p.tables e below (T3.setTop (mkF m 13 #[.val (.ref a), .val (.int k0), .val (.ref da), .val (.int sa), .val (.int la)] [(.int (List.getD cs kn 0))])) _
      refine XS.aloadN X3.here hx rfl (hb hby d_method_6_code_13) rfl rfl ?_
      show Steps p.tables e below (T3.setTop (mkF m 14 #[.val (.ref a), .val (.int k0), .val (.ref da), .val (.int sa), .val (.int la)] [(.ref da), (.int (List.getD cs kn 0))])) _
      refine XS.iloadN X3.here hx rfl (hb hby d_method_6_code_14) rfl ?_
      show Steps p.tables e below (T3.setTop (mkF m 15 #[.val (.ref a), .val (.int k0), .val (.ref da), .val (.int sa), .val (.int la)] [(.int sa), (.ref da), (.int (List.getD cs kn 0))])) _
      refine XS.iloadN X3.here hx rfl (hb hby d_method_6_code_15) rfl ?_
      show Steps p.tables e below (T3.setTop (mkF m 16 #[.val (.ref a), .val (.int k0), .val (.ref da), .val (.int sa), .val (.int la)] [(.int k0), (.int sa), (.ref da), (.int (List.getD cs kn 0))])) _
      refine XS.iadd X3.here hx rfl (hb hby d_method_6_code_16) rfl ?_
      show Steps p.tables e below (T3.setTop (mkF m 17 #[.val (.ref a), .val (.int k0), .val (.ref da), .val (.int sa), .val (.int la)] [(.int (sa + k0)), (.ref da), (.int (List.getD cs kn 0))])) _
      refine X3.caload hx (j := (sa + k0)) (v := (.int (List.getD [d0, d1, d2, d3] (sn + kn) 0))) (by rw [eq3]; exact Ar5.1) (State.isArrayOf_alike hZ.alike Ar5.2.1) Ar5.2.2 hin5 hat5 (g := (mkF m 17 #[.val (.ref a), .val (.int k0), .val (.ref da), .val (.int sa), .val (.int la)] [(.int (sa + k0)), (.ref da), (.int (List.getD cs kn 0))])) rfl rfl (hb hby d_method_6_code_17) _ ?_
      show Steps p.tables e below (T3.setTop (mkF m 18 #[.val (.ref a), .val (.int k0), .val (.ref da), .val (.int sa), .val (.int la)] [(.int (List.getD [d0, d1, d2, d3] (sn + kn) 0)), (.int (List.getD cs kn 0))])) _
      refine XS.icmpNo X3.here hx rfl (hb hby d_method_6_code_18) rfl (teq hq2).2 ?_
      show Steps p.tables e below (T3.setTop (mkF m 21 #[.val (.ref a), .val (.int k0), .val (.ref da), .val (.int sa), .val (.int la)] [])) _
      refine XS.iconst X3.here hx rfl (hb hby d_method_6_code_21) ?_
      show Steps p.tables e below (T3.setTop (mkF m 22 #[.val (.ref a), .val (.int k0), .val (.ref da), .val (.int sa), .val (.int la)] [(.int (1 : Int32))])) _
      refine XS.goto X3.here hx rfl (pc0 := 22) (pc' := 26) rfl (hb hby d_method_6_code_22) (by decide) (by decide) ?_
      show Steps p.tables e below (T3.setTop (mkF m 26 #[.val (.ref a), .val (.int k0), .val (.ref da), .val (.int sa), .val (.int la)] [(.int (1 : Int32))])) _
      exact retOut X3 hx Bd.returns rfl (Or.inl ⟨rfl, Or.inr (Or.inl rfl), _, rfl⟩) (hb hby d_method_6_code_26) hretL
    · show Q_rmat Z a k0 da sa la cs kd d0 d1 d2 d3 kn sn G1 fm h0 n0 _ T3.heap _
      rw [eq3]
      exact ⟨rfl, N4, rfl⟩
  · obtain ⟨fs, hretL, hrun, hended, hW, hsame⟩ := X0.leave (v := some (.int (1 : Int32))) (fun h => by rw [Bd.returns] at h; cases h)
    refine ⟨_, _, pre1 _ ?_, hrun, hended, _, _, rfl, ?_, ⟨_, rfl⟩, hW, hsame.mono (by decide) (by decide)⟩
    · refine XS.icmpNo X0.here hx rfl (hb hby d_method_6_code_3) rfl (flt hc3_2).1 ?_
      show Steps p.tables e below (s₁.setTop (mkF m 6 #[.val (.ref a), .val (.int k0), .val (.ref da), .val (.int sa), .val (.int la)] [])) _
      refine XS.iconst X0.here hx rfl (hb hby d_method_6_code_6) ?_
      show Steps p.tables e below (s₁.setTop (mkF m 7 #[.val (.ref a), .val (.int k0), .val (.ref da), .val (.int sa), .val (.int la)] [(.int (1 : Int32))])) _
      exact retOut X0 hx Bd.returns rfl (Or.inl ⟨rfl, Or.inr (Or.inl rfl), _, rfl⟩) (hb hby d_method_6_code_7) hretL
    · show Q_rmat Z a k0 da sa la cs kd d0 d1 d2 d3 kn sn G1 fm h0 n0 _ s₁.heap _
      rw [e0]
      exact ⟨rfl, N0, rfl⟩
theorem own_n5 {x i : Int32} (h : i = (x &&& (2147483647 : Int32)) % (5 : Int32)) : i = 0 ∨ i = 1 ∨ i = 2 ∨ i = 3 ∨ i = 4 := by
  have h1 := c_mask x 2147483647 31 (by decide) (by decide)
  have h2 := (c_irem (x &&& 2147483647) 5 5 rfl).1 (by omega)
  rw [← h] at h2
  have h3 : i.toInt = 0 ∨ i.toInt = 1 ∨ i.toInt = 2 ∨ i.toInt = 3 ∨ i.toInt = 4 := by omega
  rcases h3 with h | h | h | h | h
  · exact Or.inl (Int32.toInt_inj.mp h)
  · exact Or.inr (Or.inl (Int32.toInt_inj.mp h))
  · exact Or.inr (Or.inr (Or.inl (Int32.toInt_inj.mp h)))
  · exact Or.inr (Or.inr (Or.inr (Or.inl (Int32.toInt_inj.mp h))))
  · exact Or.inr (Or.inr (Or.inr (Or.inr (Int32.toInt_inj.mp h))))
theorem own_mkl (n d0 d1 d2 d3 : Int32) : (mkl n d0 d1 d2 d3).length ≤ 4 := by
  unfold mkl
  repeat' split
  all_goals simp
theorem own_rs {cs : List Int32} (i k : Nat) (h : cs.length ≤ 4) : ((cs.drop i).take k).length ≤ 4 := by simp; omega
theorem own_lenk {cs : List Int32} {i j : Nat} {stt enn len : Int32} (hS : SB cs i j) (h1 : stt = Int32.ofNat i) (h2 : enn = Int32.ofNat j) (hl : len = (enn - stt)) (h4 : cs.length ≤ 4) : len = Int32.ofNat (List.length ((List.drop i cs).take (j - i))) := by
  obtain ⟨a, b, -⟩ := hS
  rw [hl, h1, h2, on_sub a (by omega)]
  congr 1; simp; omega
theorem own_mkg (n d0 d1 d2 d3 : Int32) (k : Nat) (h : k < (mkl n d0 d1 d2 d3).length) : (mkl n d0 d1 d2 d3).getD k 0 = [d0, d1, d2, d3].getD k 0 := by
  unfold mkl at h ⊢
  repeat' split at h
  all_goals simp at h
  all_goals (have : k = 0 ∨ k = 1 ∨ k = 2 ∨ k = 3 := by omega)
  all_goals simp [*]
  all_goals (rcases this with q | q | q | q <;> subst q <;> first | rfl | omega)
theorem own_atp {n d0 d1 d2 d3 : Int32} {i j : Nat} (hS : SB (mkl n d0 d1 d2 d3) i j) (k : Nat) (h : k < (List.length ((List.drop i (mkl n d0 d1 d2 d3)).take (j - i)))) : i + k < 4 ∧ List.getD ((List.drop i (mkl n d0 d1 d2 d3)).take (j - i)) k 0 = List.getD [d0, d1, d2, d3] (i + k) 0 := by
  obtain ⟨a, b, -⟩ := hS
  have h4 := own_mkl n d0 d1 d2 d3
  simp at h
  refine ⟨by omega, ?_⟩
  rw [← own_mkg n d0 d1 d2 d3 (i + k) (by omega)]
  rw [List.getD_eq_getElem?_getD, List.getElem?_take_of_lt (by omega), List.getElem?_drop, ← List.getD_eq_getElem?_getD]
theorem own_fin0 {i j : Nat} (h : SB [] i j) : (0 : Int32) = Int32.ofNat i ∧ (0 : Int32) = Int32.ofNat j := by
  obtain ⟨a, b, -⟩ := h
  simp at b
  rw [show i = 0 by omega, show j = 0 by omega]; exact ⟨rfl, rfl⟩
theorem own_fin1 {d0 stt enn : Int32} {i j : Nat} (h : SB [d0] i j) (h1 : stt = (if (bl d0) = (0 : Int32) then (0 : Int32) else (1 : Int32))) (h2 : enn = (if (bl d0) = (0 : Int32) then (1 : Int32) else (1 : Int32))) : stt = Int32.ofNat i ∧ enn = Int32.ofNat j := by
  obtain ⟨a, b, p1, p2, p3, p4⟩ := h
  simp only [List.length_cons, List.length_nil] at b p2 p3
  have u0 := p1 0
  have w0 := p3 0
  clear p1 p3
  have hi : i = 0 ∨ i = 1 := by omega
  have hj : j = 0 ∨ j = 1 := by omega
  rcases hi with rfl | rfl <;> rcases hj with rfl | rfl <;> simp at a u0 w0 p2 p4 <;> simp_all
theorem own_fin2 {d0 d1 stt enn : Int32} {i j : Nat} (h : SB [d0, d1] i j) (h1 : stt = (if (bl d0) = (0 : Int32) then (0 : Int32) else (if (bl d1) = (0 : Int32) then (1 : Int32) else (2 : Int32)))) (h2 : enn = (if (bl d1) = (0 : Int32) then (2 : Int32) else (if (bl d0) = (0 : Int32) then (1 : Int32) else (2 : Int32)))) : stt = Int32.ofNat i ∧ enn = Int32.ofNat j := by
  obtain ⟨a, b, p1, p2, p3, p4⟩ := h
  simp only [List.length_cons, List.length_nil] at b p2 p3
  have u0 := p1 0
  have w0 := p3 0
  have u1 := p1 1
  have w1 := p3 1
  clear p1 p3
  have hi : i = 0 ∨ i = 1 ∨ i = 2 := by omega
  have hj : j = 0 ∨ j = 1 ∨ j = 2 := by omega
  rcases hi with rfl | rfl | rfl <;> rcases hj with rfl | rfl | rfl <;> simp at a u0 w0 p2 p4 u1 w1 <;> simp_all
theorem own_fin3 {d0 d1 d2 stt enn : Int32} {i j : Nat} (h : SB [d0, d1, d2] i j) (h1 : stt = (if (bl d0) = (0 : Int32) then (0 : Int32) else (if (bl d1) = (0 : Int32) then (1 : Int32) else (if (bl d2) = (0 : Int32) then (2 : Int32) else (3 : Int32))))) (h2 : enn = (if (bl d2) = (0 : Int32) then (3 : Int32) else (if (bl d1) = (0 : Int32) then (2 : Int32) else (if (bl d0) = (0 : Int32) then (1 : Int32) else (3 : Int32))))) : stt = Int32.ofNat i ∧ enn = Int32.ofNat j := by
  obtain ⟨a, b, p1, p2, p3, p4⟩ := h
  simp only [List.length_cons, List.length_nil] at b p2 p3
  have u0 := p1 0
  have w0 := p3 0
  have u1 := p1 1
  have w1 := p3 1
  have u2 := p1 2
  have w2 := p3 2
  clear p1 p3
  have hi : i = 0 ∨ i = 1 ∨ i = 2 ∨ i = 3 := by omega
  have hj : j = 0 ∨ j = 1 ∨ j = 2 ∨ j = 3 := by omega
  rcases hi with rfl | rfl | rfl | rfl <;> rcases hj with rfl | rfl | rfl | rfl <;> simp at a u0 w0 p2 p4 u1 w1 u2 w2 <;> simp_all
theorem own_fin4 {d0 d1 d2 d3 stt enn : Int32} {i j : Nat} (h : SB [d0, d1, d2, d3] i j) (h1 : stt = (if (bl d0) = (0 : Int32) then (0 : Int32) else (if (bl d1) = (0 : Int32) then (1 : Int32) else (if (bl d2) = (0 : Int32) then (2 : Int32) else (if (bl d3) = (0 : Int32) then (3 : Int32) else (4 : Int32)))))) (h2 : enn = (if (bl d3) = (0 : Int32) then (4 : Int32) else (if (bl d2) = (0 : Int32) then (3 : Int32) else (if (bl d1) = (0 : Int32) then (2 : Int32) else (if (bl d0) = (0 : Int32) then (1 : Int32) else (4 : Int32)))))) : stt = Int32.ofNat i ∧ enn = Int32.ofNat j := by
  obtain ⟨a, b, p1, p2, p3, p4⟩ := h
  simp only [List.length_cons, List.length_nil] at b p2 p3
  have u0 := p1 0
  have w0 := p3 0
  have u1 := p1 1
  have w1 := p3 1
  have u2 := p1 2
  have w2 := p3 2
  have u3 := p1 3
  have w3 := p3 3
  clear p1 p3
  have hi : i = 0 ∨ i = 1 ∨ i = 2 ∨ i = 3 ∨ i = 4 := by omega
  have hj : j = 0 ∨ j = 1 ∨ j = 2 ∨ j = 3 ∨ j = 4 := by omega
  rcases hi with rfl | rfl | rfl | rfl | rfl <;> rcases hj with rfl | rfl | rfl | rfl | rfl <;> simp at a u0 w0 p2 p4 u1 w1 u2 w2 u3 w3 <;> simp_all
def Q_rm0 (Z : State) (x0 : Int32) (x1 : Int32) (x2 : Int32) (x3 : Int32) (x4 : Int32) (G1 : Int32) (fm : Value) (h0 : Heap) (n0 : Nat) (v : Option Value) (h : Heap) (L : List Loc) : Prop := v = some (.int (1 : Int32)) ∧ Fr n0 L
theorem ef_rm0 (m : MethodId) (x0 : Int32) (x1 : Int32) (x2 : Int32) (x3 : Int32) (x4 : Int32) : entryFrame m #[(.int x0), (.int x1), (.int x2), (.int x3), (.int x4)] maxLocals = mkF m 0 #[.val (.int x0), .val (.int x1), .val (.int x2), .val (.int x3), .val (.int x4), .unset, .unset, .unset, .unset, .unset, .unset, .unset] [] := by first | (simp [entryFrame, mkF, argsToLocals, Value.category, maxLocals]; done) | rfl
set_option maxRecDepth 65536 in
set_option maxHeartbeats 40000000 in
theorem rm0 (l : Launch) (Z : State) (a0 : Array Value) (hw : ∀ d ∈ tables_1, d.before a0 Z = true) (ws : List Jvm.Cond) (x0 : Int32) (x1 : Int32) (x2 : Int32) (x3 : Int32) (x4 : Int32) (G1 : Int32) (fm : Value) (h0 : Heap) (n0 : Nat) (O0 : Old Z n0 h0) (O2 : Sta Z Z.heap "java/lang/String" "COMPACT_STRINGS" "Z" (.int G1)) (P5 : ¬ (G1 = (0 : Int32))) (O4 : Sta Z Z.heap "jdk/internal/util/Preconditions" "SIOOBE_FORMATTER" "Ljava/util/function/BiFunction;" fm) (rf : fm.isRef = true) :
    MetFree l x (head1 (Jvm.Cond.code x code maxLocals ret :: ws) room_1) (fun aa U => aa = #[(.int x0), (.int x1), (.int x2), (.int x3), (.int x4)] ∧ Z.Warmed39 U.vm ∧ U.heap = h0 ∧ CHv Z EL0 U.vm h0) (fun _ _ _ _ _ => True) (fun _ U o U' => ∃ v L, o = .returned v ∧ Q_rm0 Z x0 x1 x2 x3 x4 G1 fm h0 n0 v U'.heap L ∧ CHr Z EL0 U.vm U.heap U'.vm U'.heap ∧ ReturnedEndW U o U' L 9 24) := by
  refine MetFree.of_bodySF (plainFor_of_name pn3) hisR ?_
  intro p e s m args below meth c s₁ Bd hml0 hP hK
  obtain ⟨rfl, hZ, hh, hCH⟩ := hP
  have hx := Bd.exec
  have hby := Bd.bytes
  have hml : c.maxLocals = 12 := hml0
  have hown : s.vm.findClass "com/example/redress/redress/definition/StatementStripBlanksPinLaw" = some m.cls := findClass_of_methodNamed Bd.named
  have hnm := (name_of_methodNamed Bd.named Bd.method).1
  have X0 : Stand p l e room_1 (s.setVm s.vm) m #[(.int x0), (.int x1), (.int x2), (.int x3), (.int x4)] below meth c s₁ [] 0 0 := Stand.of_body Bd
  have e0 : s₁.heap = h0 := by rw [← hh, Bd.state]; rfl
  have N0 := Fr.nil n0
  have pre0 : ∀ tgt, Steps p.tables e below (s₁.setTop (mkF m 0 #[.val (.int x0), .val (.int x1), .val (.int x2), .val (.int x3), .val (.int x4), .unset, .unset, .unset, .unset, .unset, .unset, .unset] [])) tgt → Steps p.tables e below (s₁.setTop (entryFrame m #[(.int x0), (.int x1), (.int x2), (.int x3), (.int x4)] maxLocals)) tgt := fun tgt kgo => castTop (ef_rm0 m x0 x1 x2 x3 x4) kgo
  have hS0 : s.Since s.vm 0 := (State.WarmedH.refl s).since 0
  have hk0 : 0 ≤ h0.size := Nat.zero_le _
  have CH0 : CHr Z EL0 s.vm h0 s.vm h0 := CHr.refl hCH
  have pre1 : ∀ tgt, Steps p.tables e below (s₁.setTop (mkF m 8 #[.val (.int x0), .val (.int x1), .val (.int x2), .val (.int x3), .val (.int x4), .val (.int ((x0 &&& (2147483647 : Int32)) % (5 : Int32))), .unset, .unset, .unset, .unset, .unset, .unset] [])) tgt → Steps p.tables e below (s₁.setTop (entryFrame m #[(.int x0), (.int x1), (.int x2), (.int x3), (.int x4)] maxLocals)) tgt := by
    intro tgt kgo
    refine pre0 _ ?_
    refine XS.iloadN X0.here hx rfl (hb hby at_0) rfl ?_
    show Steps p.tables e below (s₁.setTop (mkF m 1 #[.val (.int x0), .val (.int x1), .val (.int x2), .val (.int x3), .val (.int x4), .unset, .unset, .unset, .unset, .unset, .unset, .unset] [(.int x0)])) _
    refine X0.ldcI hx hown (mvT hZ (ow0 hw)) rfl (hb hby at_1) ?_
    show Steps p.tables e below (s₁.setTop (mkF m 3 #[.val (.int x0), .val (.int x1), .val (.int x2), .val (.int x3), .val (.int x4), .unset, .unset, .unset, .unset, .unset, .unset, .unset] [(.int (2147483647 : Int32)), (.int x0)])) _
    refine XS.iand X0.here hx rfl (hb hby at_3) rfl ?_
    show Steps p.tables e below (s₁.setTop (mkF m 4 #[.val (.int x0), .val (.int x1), .val (.int x2), .val (.int x3), .val (.int x4), .unset, .unset, .unset, .unset, .unset, .unset, .unset] [(.int (x0 &&& (2147483647 : Int32)))])) _
    refine XS.iconst X0.here hx rfl (hb hby at_4) ?_
    show Steps p.tables e below (s₁.setTop (mkF m 5 #[.val (.int x0), .val (.int x1), .val (.int x2), .val (.int x3), .val (.int x4), .unset, .unset, .unset, .unset, .unset, .unset, .unset] [(.int (5 : Int32)), (.int (x0 &&& (2147483647 : Int32)))])) _
    refine iremM (g := (mkF m 5 #[.val (.int x0), .val (.int x1), .val (.int x2), .val (.int x3), .val (.int x4), .unset, .unset, .unset, .unset, .unset, .unset, .unset] [(.int (5 : Int32)), (.int (x0 &&& (2147483647 : Int32)))])) X0 hx rfl (hb hby at_5) rfl (by decide) ?_
    show Steps p.tables e below (s₁.setTop (mkF m 6 #[.val (.int x0), .val (.int x1), .val (.int x2), .val (.int x3), .val (.int x4), .unset, .unset, .unset, .unset, .unset, .unset, .unset] [(.int ((x0 &&& (2147483647 : Int32)) % (5 : Int32)))])) _
    refine XS.istore X0.here hx rfl (hb hby at_6) rfl (l' := #[.val (.int x0), .val (.int x1), .val (.int x2), .val (.int x3), .val (.int x4), .val (.int ((x0 &&& (2147483647 : Int32)) % (5 : Int32))), .unset, .unset, .unset, .unset, .unset, .unset]) rfl ?_
    show Steps p.tables e below (s₁.setTop (mkF m 8 #[.val (.int x0), .val (.int x1), .val (.int x2), .val (.int x3), .val (.int x4), .val (.int ((x0 &&& (2147483647 : Int32)) % (5 : Int32))), .unset, .unset, .unset, .unset, .unset, .unset] [])) _
    exact kgo
  obtain ⟨nv, hnv⟩ : ∃ z, z = ((x0 &&& (2147483647 : Int32)) % (5 : Int32)) := ⟨_, rfl⟩
  have pre2 : ∀ tgt, Steps p.tables e below (s₁.setTop (mkF m 8 #[.val (.int x0), .val (.int x1), .val (.int x2), .val (.int x3), .val (.int x4), .val (.int nv), .unset, .unset, .unset, .unset, .unset, .unset] [])) tgt → Steps p.tables e below (s₁.setTop (entryFrame m #[(.int x0), (.int x1), (.int x2), (.int x3), (.int x4)] maxLocals)) tgt := by
    rw [hnv]; exact pre1
  obtain ⟨T3, h3, k3, X3, e3, E3, A3, st3⟩ := newP (aty := .char) X0 hx hZ (ow1 hw) e0 (g := (mkF m 9 #[.val (.int x0), .val (.int x1), .val (.int x2), .val (.int x3), .val (.int x4), .val (.int nv), .unset, .unset, .unset, .unset, .unset, .unset] [(.int (4 : Int32))])) rfl (hb hby at_9) rfl (by decide) (cap := 4) (by decide) (by decide) (by decide) (by decide)
  obtain ⟨b3, g3⟩ : ∃ z, z = h0.size := ⟨_, rfl⟩
  rw [← g3] at A3 st3
  have V3 : Arv Z h3 b3 k3 .char (4 : Int32) [(.int (0 : Int32)), (.int (0 : Int32)), (.int (0 : Int32)), (.int (0 : Int32))] (.int (0 : Int32)) := (Arv.new A3 (by decide)).pad (pad_rep [] (.int (0 : Int32)) 4)
  have gn3 : n0 ≤ b3 := Nat.le_trans (own_sz O0) (Nat.le_of_eq g3.symm)
  have Y3 := Safe.ext E3 CH0.1 (Safe.new (x := b3) (Nat.le_of_eq g3.symm))
  have CH4 := CH0.trans (CHr.ext E3 CH0.1)
  have hk4 := Nat.le_trans hk0 E3.1
  have O5 := O0.ext E3
  obtain ⟨_, _, ⟨T6, L6, k6, n6⟩, -, X6, ⟨Lc6, hQ6, l6, y6, z6⟩, st6⟩ := Jvm.LawKit.callS X3 hx (y := (⟨"com/example/redress/redress/definition/StatementStripBlanksPinLaw", "pick", "(I)C"⟩ : MethodName)) hown (mvT hZ (ow2 hw)) (mvT hZ (ow3 hw)) (mvT hZ (ow4 hw)) (mvT hZ (ow5 hw)) (by decide) (backOf (W := 3) (rmpick l Z a0 hw [] x1  h3 n0 O5 ) hZ (ow5 hw) (ow4 hw) (by decide) (by decide)) (g := (mkF m 14 #[.val (.int x0), .val (.int x1), .val (.int x2), .val (.int x3), .val (.int x4), .val (.int nv), .unset, .unset, .unset, .unset, .unset, .unset] [(.int x1), (.int (0 : Int32)), (.ref b3), (.ref b3)])) rfl (by rw [hml]; rfl) (argsL := [(.int x1)]) (rest := [(.int (0 : Int32)), (.ref b3), (.ref b3)]) (lenOf pd11 rfl) rfl (by show 2 * 0 + _ ≤ _; exact Nat.le_of_eq rfl) (hb hby at_14) (fun _ _ => ⟨rfl, e3, (by decide : 1 + 0 ≤ _), (by decide : 4 + 0 ≤ _)⟩)
  dsimp only [Pt.U, Pt.locs, Pt.cells, Pt.slots] at X6 l6 y6 z6 st6 hQ6
  subst l6 y6 z6
  obtain ⟨rfl, Nq6, eq6⟩ := hQ6
  have N7 := Fr.app N0 Nq6
  obtain ⟨cl8, Ar8, q8, S8, M8, H8, G8⟩ := id V3
  have hin8 : ¬ ((0 : Int32) < 0 ∨ cl8.slots.size ≤ ((0 : Int32)).toNatClampNeg) := inb_of S8 ⟨by decide, by decide⟩
  obtain ⟨T9, h9, X9, e9, W9, st9⟩ := stC X6 hx hZ eq6 Ar8 (j := (0 : Int32)) hin8 (g := (mkF m 17 #[.val (.int x0), .val (.int x1), .val (.int x2), .val (.int x3), .val (.int x4), .val (.int nv), .unset, .unset, .unset, .unset, .unset, .unset] [(.int (pkc x1)), (.int (0 : Int32)), (.ref b3), (.ref b3)])) rfl rfl (hb hby at_17)
  have V9 : Arv Z h9 b3 k3 .char (4 : Int32) [(.int (nar .char (pkc x1))), (.int (0 : Int32)), (.int (0 : Int32)), (.int (0 : Int32))] (.int (0 : Int32)) := Arv.set Ar8 q8 S8 M8 H8 G8 (fits_nar_char _) W9 0 rfl (Nat.le_of_ble_eq_true rfl)
  have CH10 := CH4.trans (CHr.wr W9 Y3 CH4.1)
  have hk10 := Nat.le_trans hk4 (Keep.of_wr W9).1
  have N11 := Fr.snoc X9 N7 gn3
  have O11 := O5.wr W9 gn3
  obtain ⟨_, _, ⟨T12, L12, k12, n12⟩, -, X12, ⟨Lc12, hQ12, l12, y12, z12⟩, st12⟩ := Jvm.LawKit.callS X9 hx (y := (⟨"com/example/redress/redress/definition/StatementStripBlanksPinLaw", "pick", "(I)C"⟩ : MethodName)) hown (mvT hZ (ow2 hw)) (mvT hZ (ow3 hw)) (mvT hZ (ow4 hw)) (mvT hZ (ow5 hw)) (by decide) (backOf (W := 3) (rmpick l Z a0 hw [] x2  h9 n0 O11 ) hZ (ow5 hw) (ow4 hw) (by decide) (by decide)) (g := (mkF m 21 #[.val (.int x0), .val (.int x1), .val (.int x2), .val (.int x3), .val (.int x4), .val (.int nv), .unset, .unset, .unset, .unset, .unset, .unset] [(.int x2), (.int (1 : Int32)), (.ref b3), (.ref b3)])) rfl (by rw [hml]; rfl) (argsL := [(.int x2)]) (rest := [(.int (1 : Int32)), (.ref b3), (.ref b3)]) (lenOf pd11 rfl) rfl (by show 2 * 0 + _ ≤ _; exact Nat.le_of_eq rfl) (hb hby at_21) (fun _ _ => ⟨rfl, e9, (by decide : 1 + 0 ≤ _), (by decide : 4 + 0 ≤ _)⟩)
  dsimp only [Pt.U, Pt.locs, Pt.cells, Pt.slots] at X12 l12 y12 z12 st12 hQ12
  subst l12 y12 z12
  obtain ⟨rfl, Nq12, eq12⟩ := hQ12
  have N13 := Fr.app N11 Nq12
  obtain ⟨cl14, Ar14, q14, S14, M14, H14, G14⟩ := id V9
  have hin14 : ¬ ((1 : Int32) < 0 ∨ cl14.slots.size ≤ ((1 : Int32)).toNatClampNeg) := inb_of S14 ⟨by decide, by decide⟩
  obtain ⟨T15, h15, X15, e15, W15, st15⟩ := stC X12 hx hZ eq12 Ar14 (j := (1 : Int32)) hin14 (g := (mkF m 24 #[.val (.int x0), .val (.int x1), .val (.int x2), .val (.int x3), .val (.int x4), .val (.int nv), .unset, .unset, .unset, .unset, .unset, .unset] [(.int (pkc x2)), (.int (1 : Int32)), (.ref b3), (.ref b3)])) rfl rfl (hb hby at_24)
  have V15 : Arv Z h15 b3 k3 .char (4 : Int32) [(.int (nar .char (pkc x1))), (.int (nar .char (pkc x2))), (.int (0 : Int32)), (.int (0 : Int32))] (.int (0 : Int32)) := Arv.set Ar14 q14 S14 M14 H14 G14 (fits_nar_char _) W15 1 rfl (Nat.le_of_ble_eq_true rfl)
  have f16 := (Safe.wr W9 Y3 CH4.1 Y3)
  have CH17 := CH10.trans (CHr.wr W15 f16 CH10.1)
  have hk17 := Nat.le_trans hk10 (Keep.of_wr W15).1
  have N18 := Fr.snoc X15 N13 gn3
  have O18 := O11.wr W15 gn3
  obtain ⟨_, _, ⟨T19, L19, k19, n19⟩, -, X19, ⟨Lc19, hQ19, l19, y19, z19⟩, st19⟩ := Jvm.LawKit.callS X15 hx (y := (⟨"com/example/redress/redress/definition/StatementStripBlanksPinLaw", "pick", "(I)C"⟩ : MethodName)) hown (mvT hZ (ow2 hw)) (mvT hZ (ow3 hw)) (mvT hZ (ow4 hw)) (mvT hZ (ow5 hw)) (by decide) (backOf (W := 3) (rmpick l Z a0 hw [] x3  h15 n0 O18 ) hZ (ow5 hw) (ow4 hw) (by decide) (by decide)) (g := (mkF m 28 #[.val (.int x0), .val (.int x1), .val (.int x2), .val (.int x3), .val (.int x4), .val (.int nv), .unset, .unset, .unset, .unset, .unset, .unset] [(.int x3), (.int (2 : Int32)), (.ref b3), (.ref b3)])) rfl (by rw [hml]; rfl) (argsL := [(.int x3)]) (rest := [(.int (2 : Int32)), (.ref b3), (.ref b3)]) (lenOf pd11 rfl) rfl (by show 2 * 0 + _ ≤ _; exact Nat.le_of_eq rfl) (hb hby at_28) (fun _ _ => ⟨rfl, e15, (by decide : 1 + 0 ≤ _), (by decide : 4 + 0 ≤ _)⟩)
  dsimp only [Pt.U, Pt.locs, Pt.cells, Pt.slots] at X19 l19 y19 z19 st19 hQ19
  subst l19 y19 z19
  obtain ⟨rfl, Nq19, eq19⟩ := hQ19
  have N20 := Fr.app N18 Nq19
  obtain ⟨cl21, Ar21, q21, S21, M21, H21, G21⟩ := id V15
  have hin21 : ¬ ((2 : Int32) < 0 ∨ cl21.slots.size ≤ ((2 : Int32)).toNatClampNeg) := inb_of S21 ⟨by decide, by decide⟩
  obtain ⟨T22, h22, X22, e22, W22, st22⟩ := stC X19 hx hZ eq19 Ar21 (j := (2 : Int32)) hin21 (g := (mkF m 31 #[.val (.int x0), .val (.int x1), .val (.int x2), .val (.int x3), .val (.int x4), .val (.int nv), .unset, .unset, .unset, .unset, .unset, .unset] [(.int (pkc x3)), (.int (2 : Int32)), (.ref b3), (.ref b3)])) rfl rfl (hb hby at_31)
  have V22 : Arv Z h22 b3 k3 .char (4 : Int32) [(.int (nar .char (pkc x1))), (.int (nar .char (pkc x2))), (.int (nar .char (pkc x3))), (.int (0 : Int32))] (.int (0 : Int32)) := Arv.set Ar21 q21 S21 M21 H21 G21 (fits_nar_char _) W22 2 rfl (Nat.le_of_ble_eq_true rfl)
  have f23 := (Safe.wr W15 f16 CH10.1 f16)
  have CH24 := CH17.trans (CHr.wr W22 f23 CH17.1)
  have hk24 := Nat.le_trans hk17 (Keep.of_wr W22).1
  have N25 := Fr.snoc X22 N20 gn3
  have O25 := O18.wr W22 gn3
  obtain ⟨_, _, ⟨T26, L26, k26, n26⟩, -, X26, ⟨Lc26, hQ26, l26, y26, z26⟩, st26⟩ := Jvm.LawKit.callS X22 hx (y := (⟨"com/example/redress/redress/definition/StatementStripBlanksPinLaw", "pick", "(I)C"⟩ : MethodName)) hown (mvT hZ (ow2 hw)) (mvT hZ (ow3 hw)) (mvT hZ (ow4 hw)) (mvT hZ (ow5 hw)) (by decide) (backOf (W := 3) (rmpick l Z a0 hw [] x4  h22 n0 O25 ) hZ (ow5 hw) (ow4 hw) (by decide) (by decide)) (g := (mkF m 36 #[.val (.int x0), .val (.int x1), .val (.int x2), .val (.int x3), .val (.int x4), .val (.int nv), .unset, .unset, .unset, .unset, .unset, .unset] [(.int x4), (.int (3 : Int32)), (.ref b3), (.ref b3)])) rfl (by rw [hml]; rfl) (argsL := [(.int x4)]) (rest := [(.int (3 : Int32)), (.ref b3), (.ref b3)]) (lenOf pd11 rfl) rfl (by show 2 * 0 + _ ≤ _; exact Nat.le_of_eq rfl) (hb hby at_36) (fun _ _ => ⟨rfl, e22, (by decide : 1 + 0 ≤ _), (by decide : 4 + 0 ≤ _)⟩)
  dsimp only [Pt.U, Pt.locs, Pt.cells, Pt.slots] at X26 l26 y26 z26 st26 hQ26
  subst l26 y26 z26
  obtain ⟨rfl, Nq26, eq26⟩ := hQ26
  have N27 := Fr.app N25 Nq26
  obtain ⟨cl28, Ar28, q28, S28, M28, H28, G28⟩ := id V22
  have hin28 : ¬ ((3 : Int32) < 0 ∨ cl28.slots.size ≤ ((3 : Int32)).toNatClampNeg) := inb_of S28 ⟨by decide, by decide⟩
  obtain ⟨T29, h29, X29, e29, W29, st29⟩ := stC X26 hx hZ eq26 Ar28 (j := (3 : Int32)) hin28 (g := (mkF m 39 #[.val (.int x0), .val (.int x1), .val (.int x2), .val (.int x3), .val (.int x4), .val (.int nv), .unset, .unset, .unset, .unset, .unset, .unset] [(.int (pkc x4)), (.int (3 : Int32)), (.ref b3), (.ref b3)])) rfl rfl (hb hby at_39)
  have V29 : Arv Z h29 b3 k3 .char (4 : Int32) [(.int (nar .char (pkc x1))), (.int (nar .char (pkc x2))), (.int (nar .char (pkc x3))), (.int (nar .char (pkc x4)))] (.int (0 : Int32)) := Arv.set Ar28 q28 S28 M28 H28 G28 (fits_nar_char _) W29 3 rfl (Nat.le_of_ble_eq_true rfl)
  have f30 := (Safe.wr W22 f23 CH17.1 f23)
  have CH31 := CH24.trans (CHr.wr W29 f30 CH24.1)
  have hk31 := Nat.le_trans hk24 (Keep.of_wr W29).1
  have N32 := Fr.snoc X29 N27 gn3
  have O32 := O25.wr W29 gn3
  obtain ⟨_, _, ⟨T33, L33, k33, n33⟩, -, Xr33, hSr33, hgr33, ⟨Lc33, hQ33, l33, y33, z33, CR33⟩, st33⟩ := callSS X29 hx (y := (⟨"com/example/redress/redress/definition/StatementStripBlanksPinLaw", "make", "(I[C)Ljava/lang/String;"⟩ : MethodName)) hown (mvT hZ (ow6 hw)) (mvT hZ (ow7 hw)) (mvT hZ (ow4 hw)) (mvT hZ (ow8 hw)) (by decide) (backOfSH (W := 0) (rmmk l Z a0 hw [] nv b3 k3 (nar .char (pkc x1)) (nar .char (pkc x2)) (nar .char (pkc x3)) (nar .char (pkc x4)) G1 h29 n0 O32 O2 P5 V29 (own_dc x1) (own_dc x2) (own_dc x3) (own_dc x4)) hZ (ow8 hw) (ow4 hw) (by decide) (by decide) (own_EW hw) CH31.1) (g := (mkF m 46 #[.val (.int x0), .val (.int x1), .val (.int x2), .val (.int x3), .val (.int x4), .val (.int nv), .val (.ref b3), .unset, .unset, .unset, .unset, .unset] [(.ref b3), (.int nv)])) rfl (by rw [hml]; rfl) (argsL := [(.int nv), (.ref b3)]) (rest := []) (lenOf pd14 rfl) rfl (by show 2 * 0 + _ ≤ _; exact Nat.le_of_eq rfl) (hb hby at_46) (fun _ _ => ⟨rfl, e29, (by decide : 1 + 6 ≤ _), (by decide : 4 + 12 ≤ _)⟩)
  dsimp only [Pt.U, Pt.locs, Pt.cells, Pt.slots] at Xr33 hSr33 hgr33 l33 y33 z33 CR33 st33 hQ33
  subst l33 y33 z33
  obtain ⟨X33, hS33, hZ33, hown33⟩ := rebS hS0 (by rw [e29]; exact hk31) Xr33 hSr33 hgr33 hZ hown
  have hk33 : T33.heap.size ≤ T33.heap.size := Nat.le_refl _
  obtain ⟨sb33, rfl, Nq33, kp33, gb33, Ss33⟩ := hQ33
  have N34 := Fr.app N32 Nq33
  have CH35 := CH31.trans CR33
  have O36 := O32.keep kp33 all0
  obtain ⟨sEM, sCM, spM, slM, tM, skM, sVM, sAM⟩ := id Ss33
  obtain ⟨_, _, ⟨T37, L37, k37, n37⟩, -, Xr37, hSr37, hgr37, ⟨Lc37, hQ37, l37, y37, z37, CR37⟩, st37⟩ := callSS X33 hx (y := (⟨"com/example/redress/redress/definition/Statement", "stripBlanks", "(Ljava/lang/String;)Ljava/lang/String;"⟩ : MethodName)) hown33 (mvT hZ33 (ow30 hw)) (mvT hZ33 (ow31 hw)) (mvT hZ33 (ow32 hw)) (mvT hZ33 (ow33 hw)) (by decide) (backOfSH (W := 0) (rmsb l Z a0 hw [] sb33 (mkl nv (nar .char (pkc x1)) (nar .char (pkc x2)) (nar .char (pkc x3)) (nar .char (pkc x4))) G1 fm T33.heap n0 O36 O2 P5 O4 rf ⟨sEM, sCM, spM, slM, tM, skM, sVM, sAM⟩ (own_mkl _ _ _ _ _)) hZ33 (ow33 hw) (ow32 hw) (by decide) (by decide) (own_EW hw) CH35.1) (g := (mkF m 53 #[.val (.int x0), .val (.int x1), .val (.int x2), .val (.int x3), .val (.int x4), .val (.int nv), .val (.ref b3), .val (.ref sb33), .unset, .unset, .unset, .unset] [(.ref sb33)])) rfl (by rw [hml]; rfl) (argsL := [(.ref sb33)]) (rest := []) (lenOf pd15 rfl) rfl (by show 2 * 0 + _ ≤ _; exact Nat.le_of_eq rfl) (hb hby at_53) (fun _ _ => ⟨rfl, rfl, (by decide : 7 + 2 ≤ _), (by decide : 16 + 8 ≤ _)⟩)
  dsimp only [Pt.U, Pt.locs, Pt.cells, Pt.slots] at Xr37 hSr37 hgr37 l37 y37 z37 CR37 st37 hQ37
  subst l37 y37 z37
  obtain ⟨X37, hS37, hZ37, hown37⟩ := rebS hS33 hk33 Xr37 hSr37 hgr37 hZ33 hown33
  have hk37 : T37.heap.size ≤ T37.heap.size := Nat.le_refl _
  obtain ⟨rb37, i1, j2, rfl, Nq37, kp37, hSB, Sr37⟩ := hQ37
  have N38 := Fr.app N34 Nq37
  have f39 := (V29.keep kp33 nin0)
  have CH40 := CH35.trans CR37
  have O41 := O36.keep kp37 all0
  obtain ⟨sES, sCS, spS, slS, tS, skS, sVS, sAS⟩ := id Sr37
  have pre42 : ∀ tgt, Steps p.tables e below (T37.setTop (mkF m 58 #[.val (.int x0), .val (.int x1), .val (.int x2), .val (.int x3), .val (.int x4), .val (.int nv), .val (.ref b3), .val (.ref sb33), .val (.ref rb37), .unset, .unset, .unset] [])) tgt → Steps p.tables e below (s₁.setTop (entryFrame m #[(.int x0), (.int x1), (.int x2), (.int x3), (.int x4)] maxLocals)) tgt := by
    intro tgt kgo
    refine pre2 _ ?_
    refine XS.iconst X0.here hx rfl (hb hby at_8) ?_
    show Steps p.tables e below (s₁.setTop (mkF m 9 #[.val (.int x0), .val (.int x1), .val (.int x2), .val (.int x3), .val (.int x4), .val (.int nv), .unset, .unset, .unset, .unset, .unset, .unset] [(.int (4 : Int32))])) _
    refine st3 _ ?_
    show Steps p.tables e below (T3.setTop (mkF m 11 #[.val (.int x0), .val (.int x1), .val (.int x2), .val (.int x3), .val (.int x4), .val (.int nv), .unset, .unset, .unset, .unset, .unset, .unset] [(.ref b3)])) _
    refine XS.dup X3.here hx rfl (hb hby at_11) rfl rfl ?_
    show Steps p.tables e below (T3.setTop (mkF m 12 #[.val (.int x0), .val (.int x1), .val (.int x2), .val (.int x3), .val (.int x4), .val (.int nv), .unset, .unset, .unset, .unset, .unset, .unset] [(.ref b3), (.ref b3)])) _
    refine XS.iconst X3.here hx rfl (hb hby at_12) ?_
    show Steps p.tables e below (T3.setTop (mkF m 13 #[.val (.int x0), .val (.int x1), .val (.int x2), .val (.int x3), .val (.int x4), .val (.int nv), .unset, .unset, .unset, .unset, .unset, .unset] [(.int (0 : Int32)), (.ref b3), (.ref b3)])) _
    refine XS.iloadN X3.here hx rfl (hb hby at_13) rfl ?_
    show Steps p.tables e below (T3.setTop (mkF m 14 #[.val (.int x0), .val (.int x1), .val (.int x2), .val (.int x3), .val (.int x4), .val (.int nv), .unset, .unset, .unset, .unset, .unset, .unset] [(.int x1), (.int (0 : Int32)), (.ref b3), (.ref b3)])) _
    refine st6 _ ?_
    show Steps p.tables e below (T6.setTop (mkF m 17 #[.val (.int x0), .val (.int x1), .val (.int x2), .val (.int x3), .val (.int x4), .val (.int nv), .unset, .unset, .unset, .unset, .unset, .unset] [(.int (pkc x1)), (.int (0 : Int32)), (.ref b3), (.ref b3)])) _
    refine st9 _ ?_
    show Steps p.tables e below (T9.setTop (mkF m 18 #[.val (.int x0), .val (.int x1), .val (.int x2), .val (.int x3), .val (.int x4), .val (.int nv), .unset, .unset, .unset, .unset, .unset, .unset] [(.ref b3)])) _
    refine XS.dup X9.here hx rfl (hb hby at_18) rfl rfl ?_
    show Steps p.tables e below (T9.setTop (mkF m 19 #[.val (.int x0), .val (.int x1), .val (.int x2), .val (.int x3), .val (.int x4), .val (.int nv), .unset, .unset, .unset, .unset, .unset, .unset] [(.ref b3), (.ref b3)])) _
    refine XS.iconst X9.here hx rfl (hb hby at_19) ?_
    show Steps p.tables e below (T9.setTop (mkF m 20 #[.val (.int x0), .val (.int x1), .val (.int x2), .val (.int x3), .val (.int x4), .val (.int nv), .unset, .unset, .unset, .unset, .unset, .unset] [(.int (1 : Int32)), (.ref b3), (.ref b3)])) _
    refine XS.iloadN X9.here hx rfl (hb hby at_20) rfl ?_
    show Steps p.tables e below (T9.setTop (mkF m 21 #[.val (.int x0), .val (.int x1), .val (.int x2), .val (.int x3), .val (.int x4), .val (.int nv), .unset, .unset, .unset, .unset, .unset, .unset] [(.int x2), (.int (1 : Int32)), (.ref b3), (.ref b3)])) _
    refine st12 _ ?_
    show Steps p.tables e below (T12.setTop (mkF m 24 #[.val (.int x0), .val (.int x1), .val (.int x2), .val (.int x3), .val (.int x4), .val (.int nv), .unset, .unset, .unset, .unset, .unset, .unset] [(.int (pkc x2)), (.int (1 : Int32)), (.ref b3), (.ref b3)])) _
    refine st15 _ ?_
    show Steps p.tables e below (T15.setTop (mkF m 25 #[.val (.int x0), .val (.int x1), .val (.int x2), .val (.int x3), .val (.int x4), .val (.int nv), .unset, .unset, .unset, .unset, .unset, .unset] [(.ref b3)])) _
    refine XS.dup X15.here hx rfl (hb hby at_25) rfl rfl ?_
    show Steps p.tables e below (T15.setTop (mkF m 26 #[.val (.int x0), .val (.int x1), .val (.int x2), .val (.int x3), .val (.int x4), .val (.int nv), .unset, .unset, .unset, .unset, .unset, .unset] [(.ref b3), (.ref b3)])) _
    refine XS.iconst X15.here hx rfl (hb hby at_26) ?_
    show Steps p.tables e below (T15.setTop (mkF m 27 #[.val (.int x0), .val (.int x1), .val (.int x2), .val (.int x3), .val (.int x4), .val (.int nv), .unset, .unset, .unset, .unset, .unset, .unset] [(.int (2 : Int32)), (.ref b3), (.ref b3)])) _
    refine XS.iloadN X15.here hx rfl (hb hby at_27) rfl ?_
    show Steps p.tables e below (T15.setTop (mkF m 28 #[.val (.int x0), .val (.int x1), .val (.int x2), .val (.int x3), .val (.int x4), .val (.int nv), .unset, .unset, .unset, .unset, .unset, .unset] [(.int x3), (.int (2 : Int32)), (.ref b3), (.ref b3)])) _
    refine st19 _ ?_
    show Steps p.tables e below (T19.setTop (mkF m 31 #[.val (.int x0), .val (.int x1), .val (.int x2), .val (.int x3), .val (.int x4), .val (.int nv), .unset, .unset, .unset, .unset, .unset, .unset] [(.int (pkc x3)), (.int (2 : Int32)), (.ref b3), (.ref b3)])) _
    refine st22 _ ?_
    show Steps p.tables e below (T22.setTop (mkF m 32 #[.val (.int x0), .val (.int x1), .val (.int x2), .val (.int x3), .val (.int x4), .val (.int nv), .unset, .unset, .unset, .unset, .unset, .unset] [(.ref b3)])) _
    refine XS.dup X22.here hx rfl (hb hby at_32) rfl rfl ?_
    show Steps p.tables e below (T22.setTop (mkF m 33 #[.val (.int x0), .val (.int x1), .val (.int x2), .val (.int x3), .val (.int x4), .val (.int nv), .unset, .unset, .unset, .unset, .unset, .unset] [(.ref b3), (.ref b3)])) _
    refine XS.iconst X22.here hx rfl (hb hby at_33) ?_
    show Steps p.tables e below (T22.setTop (mkF m 34 #[.val (.int x0), .val (.int x1), .val (.int x2), .val (.int x3), .val (.int x4), .val (.int nv), .unset, .unset, .unset, .unset, .unset, .unset] [(.int (3 : Int32)), (.ref b3), (.ref b3)])) _
    refine XS.iload X22.here hx rfl (hb hby at_34) rfl ?_
    show Steps p.tables e below (T22.setTop (mkF m 36 #[.val (.int x0), .val (.int x1), .val (.int x2), .val (.int x3), .val (.int x4), .val (.int nv), .unset, .unset, .unset, .unset, .unset, .unset] [(.int x4), (.int (3 : Int32)), (.ref b3), (.ref b3)])) _
    refine st26 _ ?_
    show Steps p.tables e below (T26.setTop (mkF m 39 #[.val (.int x0), .val (.int x1), .val (.int x2), .val (.int x3), .val (.int x4), .val (.int nv), .unset, .unset, .unset, .unset, .unset, .unset] [(.int (pkc x4)), (.int (3 : Int32)), (.ref b3), (.ref b3)])) _
    refine st29 _ ?_
    show Steps p.tables e below (T29.setTop (mkF m 40 #[.val (.int x0), .val (.int x1), .val (.int x2), .val (.int x3), .val (.int x4), .val (.int nv), .unset, .unset, .unset, .unset, .unset, .unset] [(.ref b3)])) _
    refine XS.astore X29.here hx rfl (hb hby at_40) rfl rfl (l' := #[.val (.int x0), .val (.int x1), .val (.int x2), .val (.int x3), .val (.int x4), .val (.int nv), .val (.ref b3), .unset, .unset, .unset, .unset, .unset]) rfl ?_
    show Steps p.tables e below (T29.setTop (mkF m 42 #[.val (.int x0), .val (.int x1), .val (.int x2), .val (.int x3), .val (.int x4), .val (.int nv), .val (.ref b3), .unset, .unset, .unset, .unset, .unset] [])) _
    refine XS.iload X29.here hx rfl (hb hby at_42) rfl ?_
    show Steps p.tables e below (T29.setTop (mkF m 44 #[.val (.int x0), .val (.int x1), .val (.int x2), .val (.int x3), .val (.int x4), .val (.int nv), .val (.ref b3), .unset, .unset, .unset, .unset, .unset] [(.int nv)])) _
    refine XS.aload X29.here hx rfl (hb hby at_44) rfl rfl ?_
    show Steps p.tables e below (T29.setTop (mkF m 46 #[.val (.int x0), .val (.int x1), .val (.int x2), .val (.int x3), .val (.int x4), .val (.int nv), .val (.ref b3), .unset, .unset, .unset, .unset, .unset] [(.ref b3), (.int nv)])) _
    refine st33.trans ?_
    show Steps p.tables e below (T33.setTop (mkF m 49 #[.val (.int x0), .val (.int x1), .val (.int x2), .val (.int x3), .val (.int x4), .val (.int nv), .val (.ref b3), .unset, .unset, .unset, .unset, .unset] [(.ref sb33)])) _
    refine XS.astore X33.here hx rfl (hb hby at_49) rfl rfl (l' := #[.val (.int x0), .val (.int x1), .val (.int x2), .val (.int x3), .val (.int x4), .val (.int nv), .val (.ref b3), .val (.ref sb33), .unset, .unset, .unset, .unset]) rfl ?_
    show Steps p.tables e below (T33.setTop (mkF m 51 #[.val (.int x0), .val (.int x1), .val (.int x2), .val (.int x3), .val (.int x4), .val (.int nv), .val (.ref b3), .val (.ref sb33), .unset, .unset, .unset, .unset] [])) _
    refine XS.aload X33.here hx rfl (hb hby at_51) rfl rfl ?_
    show Steps p.tables e below (T33.setTop (mkF m 53 #[.val (.int x0), .val (.int x1), .val (.int x2), .val (.int x3), .val (.int x4), .val (.int nv), .val (.ref b3), .val (.ref sb33), .unset, .unset, .unset, .unset] [(.ref sb33)])) _
    refine st37.trans ?_
    show Steps p.tables e below (T37.setTop (mkF m 56 #[.val (.int x0), .val (.int x1), .val (.int x2), .val (.int x3), .val (.int x4), .val (.int nv), .val (.ref b3), .val (.ref sb33), .unset, .unset, .unset, .unset] [(.ref rb37)])) _
    refine XS.astore X37.here hx rfl (hb hby at_56) rfl rfl (l' := #[.val (.int x0), .val (.int x1), .val (.int x2), .val (.int x3), .val (.int x4), .val (.int nv), .val (.ref b3), .val (.ref sb33), .val (.ref rb37), .unset, .unset, .unset]) rfl ?_
    show Steps p.tables e below (T37.setTop (mkF m 58 #[.val (.int x0), .val (.int x1), .val (.int x2), .val (.int x3), .val (.int x4), .val (.int nv), .val (.ref b3), .val (.ref sb33), .val (.ref rb37), .unset, .unset, .unset] [])) _
    exact kgo
  rcases own_n5 hnv with hq | hq | hq | hq | hq
  · have pre43 : ∀ tgt, Steps p.tables e below (T37.setTop (mkF m 58 #[.val (.int x0), .val (.int x1), .val (.int x2), .val (.int x3), .val (.int x4), .val (.int (0 : Int32)), .val (.ref b3), .val (.ref sb33), .val (.ref rb37), .unset, .unset, .unset] [])) tgt → Steps p.tables e below (s₁.setTop (entryFrame m #[(.int x0), (.int x1), (.int x2), (.int x3), (.int x4)] maxLocals)) tgt := by
      have q := pre42
      rw [hq] at q
      exact q
    have hSk : SB [] i1 j2 := by have q := hSB; rw [hq] at q; exact q
    obtain ⟨len, hlen⟩ : ∃ z, z = (0 : Int32) - (0 : Int32) := ⟨_, rfl⟩
    have hz : (0 : Int32) = len := hlen.symm
    obtain ⟨hs1, hs2⟩ := own_fin0 hSk
    have hlen' : len = Int32.ofNat (List.length ((List.drop i1 (mkl nv (nar .char (pkc x1)) (nar .char (pkc x2)) (nar .char (pkc x3)) (nar .char (pkc x4)))).take (j2 - i1))) := own_lenk (by rw [hq]; exact hSk) hs1 hs2 hlen (own_mkl _ _ _ _ _)
    rw [← hz] at hlen'
    obtain ⟨cq44, kq44, q44a, q44b, q44c⟩ := isOf hZ37 rfl sES
    obtain ⟨_, _, ⟨T44, L44, k44, n44⟩, -, X44, ⟨Lc44, hQ44, l44, y44, z44⟩, st44⟩ := X37.virtualBack hx (y := (⟨"java/lang/String", "length", "()I"⟩ : MethodName)) (z := (⟨"java/lang/String", "length", "()I"⟩ : MethodName)) hown37 (mvT hZ37 (ow59 hw)) (mvT hZ37 (ow35 hw)) (notFace_of_selects (args := #[]) (mvT hZ37 (ow37 hw))) (mvT hZ37 (ow37 hw)) (mvT hZ37 (ow36 hw)) (by decide) (StrChars.Road.lenW (W := 0) hZ37 (own_wlen hw) (kI := 4) (ow10 hw) (cs := ((List.drop i1 (mkl nv (nar .char (pkc x1)) (nar .char (pkc x2)) (nar .char (pkc x3)) (nar .char (pkc x4)))).take (j2 - i1))) sES sVS sCS sAS (StrChars.Road.codOf rfl (fun c hc => (spS c hc).2)) (own_up _ spS) (O2.ext O41.2) P5 slS (by decide) (by decide)) q44a q44c (g := (mkF m 256 #[.val (.int x0), .val (.int x1), .val (.int x2), .val (.int x3), .val (.int x4), .val (.int (0 : Int32)), .val (.ref b3), .val (.ref sb33), .val (.ref rb37), .val (.int (0 : Int32)), .val (.int (0 : Int32)), .val (.int (0 : Int32))] [(.ref rb37)])) rfl (by rw [hml]; rfl) (Steps.refl _) (argsL := []) (rest := []) (lenOf pd7 rfl) rfl (by show 2 * 0 + _ ≤ _; exact Nat.le_of_eq rfl) (hb hby at_256) (fun _ _ => ⟨rfl, rfl, (by decide : 9 + 0 ≤ _), (by decide : 24 + 0 ≤ _)⟩)
    dsimp only [Pt.U, Pt.locs, Pt.cells, Pt.slots] at X44 l44 y44 z44 st44 hQ44
    subst l44 y44 z44
    obtain ⟨rfl, hL44, eq44⟩ := hQ44
    have Nq44 := own_frn hL44 n0
    have N45 := Fr.app N38 Nq44
    have f46 := (f39.keep kp37 nin0)
    obtain ⟨_, _, ⟨T47, L47, k47, n47⟩, -, X47, ⟨Lc47, hQ47, l47, y47, z47⟩, st47⟩ := Jvm.LawKit.callS X44 hx (y := (⟨"com/example/redress/redress/definition/StatementStripBlanksPinLaw", "at", "(Ljava/lang/String;I[CII)Z"⟩ : MethodName)) hown37 (mvT hZ37 (ow60 hw)) (mvT hZ37 (ow61 hw)) (mvT hZ37 (ow4 hw)) (mvT hZ37 (ow62 hw)) (by decide) (backOf (W := 0) (rmat l Z a0 hw [] rb37 (0 : Int32) b3 (0 : Int32) (0 : Int32) ((List.drop i1 (mkl nv (nar .char (pkc x1)) (nar .char (pkc x2)) (nar .char (pkc x3)) (nar .char (pkc x4)))).take (j2 - i1)) k3 (nar .char (pkc x1)) (nar .char (pkc x2)) (nar .char (pkc x3)) (nar .char (pkc x4)) 0 i1 G1 fm T37.heap n0 O41 O2 P5 O4 rf ⟨sES, sCS, spS, slS, tS, skS, sVS, sAS⟩ (own_rs _ _ (own_mkl _ _ _ _ _)) f46 rfl (by decide) hlen' hs1 (own_atp (by rw [hq]; exact hSk) 0)) hZ37 (ow62 hw) (ow4 hw) (by decide) (by decide)) (g := (mkF m 273 #[.val (.int x0), .val (.int x1), .val (.int x2), .val (.int x3), .val (.int x4), .val (.int (0 : Int32)), .val (.ref b3), .val (.ref sb33), .val (.ref rb37), .val (.int (0 : Int32)), .val (.int (0 : Int32)), .val (.int (0 : Int32))] [(.int (0 : Int32)), (.int (0 : Int32)), (.ref b3), (.int (0 : Int32)), (.ref rb37)])) rfl (by rw [hml]; rfl) (argsL := [(.ref rb37), (.int (0 : Int32)), (.ref b3), (.int (0 : Int32)), (.int (0 : Int32))]) (rest := []) (lenOf pd16 rfl) rfl (by show 2 * 0 + _ ≤ _; exact Nat.le_of_eq rfl) (hb hby at_273) (fun _ _ => ⟨rfl, eq44, (by decide : 9 + 0 ≤ _), (by decide : 24 + 0 ≤ _)⟩)
    dsimp only [Pt.U, Pt.locs, Pt.cells, Pt.slots] at X47 l47 y47 z47 st47 hQ47
    subst l47 y47 z47
    obtain ⟨rfl, Nq47, eq47⟩ := hQ47
    have N48 := Fr.app N45 Nq47
    obtain ⟨_, _, ⟨T49, L49, k49, n49⟩, -, X49, ⟨Lc49, hQ49, l49, y49, z49⟩, st49⟩ := Jvm.LawKit.callS X47 hx (y := (⟨"com/example/redress/redress/definition/StatementStripBlanksPinLaw", "at", "(Ljava/lang/String;I[CII)Z"⟩ : MethodName)) hown37 (mvT hZ37 (ow60 hw)) (mvT hZ37 (ow61 hw)) (mvT hZ37 (ow4 hw)) (mvT hZ37 (ow62 hw)) (by decide) (backOf (W := 0) (rmat l Z a0 hw [] rb37 (1 : Int32) b3 (0 : Int32) (0 : Int32) ((List.drop i1 (mkl nv (nar .char (pkc x1)) (nar .char (pkc x2)) (nar .char (pkc x3)) (nar .char (pkc x4)))).take (j2 - i1)) k3 (nar .char (pkc x1)) (nar .char (pkc x2)) (nar .char (pkc x3)) (nar .char (pkc x4)) 1 i1 G1 fm T37.heap n0 O41 O2 P5 O4 rf ⟨sES, sCS, spS, slS, tS, skS, sVS, sAS⟩ (own_rs _ _ (own_mkl _ _ _ _ _)) f46 rfl (by decide) hlen' hs1 (own_atp (by rw [hq]; exact hSk) 1)) hZ37 (ow62 hw) (ow4 hw) (by decide) (by decide)) (g := (mkF m 288 #[.val (.int x0), .val (.int x1), .val (.int x2), .val (.int x3), .val (.int x4), .val (.int (0 : Int32)), .val (.ref b3), .val (.ref sb33), .val (.ref rb37), .val (.int (0 : Int32)), .val (.int (0 : Int32)), .val (.int (0 : Int32))] [(.int (0 : Int32)), (.int (0 : Int32)), (.ref b3), (.int (1 : Int32)), (.ref rb37)])) rfl (by rw [hml]; rfl) (argsL := [(.ref rb37), (.int (1 : Int32)), (.ref b3), (.int (0 : Int32)), (.int (0 : Int32))]) (rest := []) (lenOf pd16 rfl) rfl (by show 2 * 0 + _ ≤ _; exact Nat.le_of_eq rfl) (hb hby at_288) (fun _ _ => ⟨rfl, eq47, (by decide : 9 + 0 ≤ _), (by decide : 24 + 0 ≤ _)⟩)
    dsimp only [Pt.U, Pt.locs, Pt.cells, Pt.slots] at X49 l49 y49 z49 st49 hQ49
    subst l49 y49 z49
    obtain ⟨rfl, Nq49, eq49⟩ := hQ49
    have N50 := Fr.app N48 Nq49
    obtain ⟨_, _, ⟨T51, L51, k51, n51⟩, -, X51, ⟨Lc51, hQ51, l51, y51, z51⟩, st51⟩ := Jvm.LawKit.callS X49 hx (y := (⟨"com/example/redress/redress/definition/StatementStripBlanksPinLaw", "at", "(Ljava/lang/String;I[CII)Z"⟩ : MethodName)) hown37 (mvT hZ37 (ow60 hw)) (mvT hZ37 (ow61 hw)) (mvT hZ37 (ow4 hw)) (mvT hZ37 (ow62 hw)) (by decide) (backOf (W := 0) (rmat l Z a0 hw [] rb37 (2 : Int32) b3 (0 : Int32) (0 : Int32) ((List.drop i1 (mkl nv (nar .char (pkc x1)) (nar .char (pkc x2)) (nar .char (pkc x3)) (nar .char (pkc x4)))).take (j2 - i1)) k3 (nar .char (pkc x1)) (nar .char (pkc x2)) (nar .char (pkc x3)) (nar .char (pkc x4)) 2 i1 G1 fm T37.heap n0 O41 O2 P5 O4 rf ⟨sES, sCS, spS, slS, tS, skS, sVS, sAS⟩ (own_rs _ _ (own_mkl _ _ _ _ _)) f46 rfl (by decide) hlen' hs1 (own_atp (by rw [hq]; exact hSk) 2)) hZ37 (ow62 hw) (ow4 hw) (by decide) (by decide)) (g := (mkF m 303 #[.val (.int x0), .val (.int x1), .val (.int x2), .val (.int x3), .val (.int x4), .val (.int (0 : Int32)), .val (.ref b3), .val (.ref sb33), .val (.ref rb37), .val (.int (0 : Int32)), .val (.int (0 : Int32)), .val (.int (0 : Int32))] [(.int (0 : Int32)), (.int (0 : Int32)), (.ref b3), (.int (2 : Int32)), (.ref rb37)])) rfl (by rw [hml]; rfl) (argsL := [(.ref rb37), (.int (2 : Int32)), (.ref b3), (.int (0 : Int32)), (.int (0 : Int32))]) (rest := []) (lenOf pd16 rfl) rfl (by show 2 * 0 + _ ≤ _; exact Nat.le_of_eq rfl) (hb hby at_303) (fun _ _ => ⟨rfl, eq49, (by decide : 9 + 0 ≤ _), (by decide : 24 + 0 ≤ _)⟩)
    dsimp only [Pt.U, Pt.locs, Pt.cells, Pt.slots] at X51 l51 y51 z51 st51 hQ51
    subst l51 y51 z51
    obtain ⟨rfl, Nq51, eq51⟩ := hQ51
    have N52 := Fr.app N50 Nq51
    obtain ⟨_, _, ⟨T53, L53, k53, n53⟩, -, X53, ⟨Lc53, hQ53, l53, y53, z53⟩, st53⟩ := Jvm.LawKit.callS X51 hx (y := (⟨"com/example/redress/redress/definition/StatementStripBlanksPinLaw", "at", "(Ljava/lang/String;I[CII)Z"⟩ : MethodName)) hown37 (mvT hZ37 (ow60 hw)) (mvT hZ37 (ow61 hw)) (mvT hZ37 (ow4 hw)) (mvT hZ37 (ow62 hw)) (by decide) (backOf (W := 0) (rmat l Z a0 hw [] rb37 (3 : Int32) b3 (0 : Int32) (0 : Int32) ((List.drop i1 (mkl nv (nar .char (pkc x1)) (nar .char (pkc x2)) (nar .char (pkc x3)) (nar .char (pkc x4)))).take (j2 - i1)) k3 (nar .char (pkc x1)) (nar .char (pkc x2)) (nar .char (pkc x3)) (nar .char (pkc x4)) 3 i1 G1 fm T37.heap n0 O41 O2 P5 O4 rf ⟨sES, sCS, spS, slS, tS, skS, sVS, sAS⟩ (own_rs _ _ (own_mkl _ _ _ _ _)) f46 rfl (by decide) hlen' hs1 (own_atp (by rw [hq]; exact hSk) 3)) hZ37 (ow62 hw) (ow4 hw) (by decide) (by decide)) (g := (mkF m 318 #[.val (.int x0), .val (.int x1), .val (.int x2), .val (.int x3), .val (.int x4), .val (.int (0 : Int32)), .val (.ref b3), .val (.ref sb33), .val (.ref rb37), .val (.int (0 : Int32)), .val (.int (0 : Int32)), .val (.int (0 : Int32))] [(.int (0 : Int32)), (.int (0 : Int32)), (.ref b3), (.int (3 : Int32)), (.ref rb37)])) rfl (by rw [hml]; rfl) (argsL := [(.ref rb37), (.int (3 : Int32)), (.ref b3), (.int (0 : Int32)), (.int (0 : Int32))]) (rest := []) (lenOf pd16 rfl) rfl (by show 2 * 0 + _ ≤ _; exact Nat.le_of_eq rfl) (hb hby at_318) (fun _ _ => ⟨rfl, eq51, (by decide : 9 + 0 ≤ _), (by decide : 24 + 0 ≤ _)⟩)
    dsimp only [Pt.U, Pt.locs, Pt.cells, Pt.slots] at X53 l53 y53 z53 st53 hQ53
    subst l53 y53 z53
    obtain ⟨rfl, Nq53, eq53⟩ := hQ53
    have N54 := Fr.app N52 Nq53
    obtain ⟨fs, hretL, hrun, hended, hEnd⟩ := Stand.leaveW X53 hS37 (by rw [eq53]; exact hk37) (v := some (.int (1 : Int32))) (fun h => by rw [Bd.returns] at h; cases h)
    have hCf : CHr Z EL0 s.vm s.heap T53.vm T53.heap := by rw [hh, eq53]; exact CH40.trans (CHv.at X53 hZ37 (own_EW hw) CH40.1)
    refine ⟨_, _, pre43 _ ?_, hrun, hended, _, _, rfl, ?_, hCf, hEnd.1, hEnd.2.1, hEnd.2.2.1, hEnd.2.2.2.mono (by decide) (by decide)⟩
    · refine XS.iconst X37.here hx rfl (hb hby at_58) ?_
      show Steps p.tables e below (T37.setTop (mkF m 59 #[.val (.int x0), .val (.int x1), .val (.int x2), .val (.int x3), .val (.int x4), .val (.int (0 : Int32)), .val (.ref b3), .val (.ref sb33), .val (.ref rb37), .unset, .unset, .unset] [(.int (0 : Int32))])) _
      refine XS.iload X37.here hx rfl (hb hby at_59) rfl ?_
      show Steps p.tables e below (T37.setTop (mkF m 61 #[.val (.int x0), .val (.int x1), .val (.int x2), .val (.int x3), .val (.int x4), .val (.int (0 : Int32)), .val (.ref b3), .val (.ref sb33), .val (.ref rb37), .unset, .unset, .unset] [(.int (0 : Int32)), (.int (0 : Int32))])) _
      refine XS.icmpYes X37.here hx rfl (pc0 := 61) (pc' := 80) rfl (hb hby at_61) rfl (flt (by decide : ¬ ((0 : Int32) < (0 : Int32)))).2.1 (by decide) (by decide) ?_
      show Steps p.tables e below (T37.setTop (mkF m 80 #[.val (.int x0), .val (.int x1), .val (.int x2), .val (.int x3), .val (.int x4), .val (.int (0 : Int32)), .val (.ref b3), .val (.ref sb33), .val (.ref rb37), .unset, .unset, .unset] [])) _
      refine XS.iconst X37.here hx rfl (hb hby at_80) ?_
      show Steps p.tables e below (T37.setTop (mkF m 81 #[.val (.int x0), .val (.int x1), .val (.int x2), .val (.int x3), .val (.int x4), .val (.int (0 : Int32)), .val (.ref b3), .val (.ref sb33), .val (.ref rb37), .unset, .unset, .unset] [(.int (1 : Int32))])) _
      refine XS.iload X37.here hx rfl (hb hby at_81) rfl ?_
      show Steps p.tables e below (T37.setTop (mkF m 83 #[.val (.int x0), .val (.int x1), .val (.int x2), .val (.int x3), .val (.int x4), .val (.int (0 : Int32)), .val (.ref b3), .val (.ref sb33), .val (.ref rb37), .unset, .unset, .unset] [(.int (0 : Int32)), (.int (1 : Int32))])) _
      refine XS.icmpYes X37.here hx rfl (pc0 := 83) (pc' := 102) rfl (hb hby at_83) rfl (flt (by decide : ¬ ((1 : Int32) < (0 : Int32)))).2.1 (by decide) (by decide) ?_
      show Steps p.tables e below (T37.setTop (mkF m 102 #[.val (.int x0), .val (.int x1), .val (.int x2), .val (.int x3), .val (.int x4), .val (.int (0 : Int32)), .val (.ref b3), .val (.ref sb33), .val (.ref rb37), .unset, .unset, .unset] [])) _
      refine XS.iconst X37.here hx rfl (hb hby at_102) ?_
      show Steps p.tables e below (T37.setTop (mkF m 103 #[.val (.int x0), .val (.int x1), .val (.int x2), .val (.int x3), .val (.int x4), .val (.int (0 : Int32)), .val (.ref b3), .val (.ref sb33), .val (.ref rb37), .unset, .unset, .unset] [(.int (2 : Int32))])) _
      refine XS.iload X37.here hx rfl (hb hby at_103) rfl ?_
      show Steps p.tables e below (T37.setTop (mkF m 105 #[.val (.int x0), .val (.int x1), .val (.int x2), .val (.int x3), .val (.int x4), .val (.int (0 : Int32)), .val (.ref b3), .val (.ref sb33), .val (.ref rb37), .unset, .unset, .unset] [(.int (0 : Int32)), (.int (2 : Int32))])) _
      refine XS.icmpYes X37.here hx rfl (pc0 := 105) (pc' := 124) rfl (hb hby at_105) rfl (flt (by decide : ¬ ((2 : Int32) < (0 : Int32)))).2.1 (by decide) (by decide) ?_
      show Steps p.tables e below (T37.setTop (mkF m 124 #[.val (.int x0), .val (.int x1), .val (.int x2), .val (.int x3), .val (.int x4), .val (.int (0 : Int32)), .val (.ref b3), .val (.ref sb33), .val (.ref rb37), .unset, .unset, .unset] [])) _
      refine XS.iconst X37.here hx rfl (hb hby at_124) ?_
      show Steps p.tables e below (T37.setTop (mkF m 125 #[.val (.int x0), .val (.int x1), .val (.int x2), .val (.int x3), .val (.int x4), .val (.int (0 : Int32)), .val (.ref b3), .val (.ref sb33), .val (.ref rb37), .unset, .unset, .unset] [(.int (3 : Int32))])) _
      refine XS.iload X37.here hx rfl (hb hby at_125) rfl ?_
      show Steps p.tables e below (T37.setTop (mkF m 127 #[.val (.int x0), .val (.int x1), .val (.int x2), .val (.int x3), .val (.int x4), .val (.int (0 : Int32)), .val (.ref b3), .val (.ref sb33), .val (.ref rb37), .unset, .unset, .unset] [(.int (0 : Int32)), (.int (3 : Int32))])) _
      refine XS.icmpYes X37.here hx rfl (pc0 := 127) (pc' := 146) rfl (hb hby at_127) rfl (flt (by decide : ¬ ((3 : Int32) < (0 : Int32)))).2.1 (by decide) (by decide) ?_
      show Steps p.tables e below (T37.setTop (mkF m 146 #[.val (.int x0), .val (.int x1), .val (.int x2), .val (.int x3), .val (.int x4), .val (.int (0 : Int32)), .val (.ref b3), .val (.ref sb33), .val (.ref rb37), .unset, .unset, .unset] [])) _
      refine XS.iload X37.here hx rfl (hb hby at_146) rfl ?_
      show Steps p.tables e below (T37.setTop (mkF m 148 #[.val (.int x0), .val (.int x1), .val (.int x2), .val (.int x3), .val (.int x4), .val (.int (0 : Int32)), .val (.ref b3), .val (.ref sb33), .val (.ref rb37), .unset, .unset, .unset] [(.int (0 : Int32))])) _
      refine XS.istore X37.here hx rfl (hb hby at_148) rfl (l' := #[.val (.int x0), .val (.int x1), .val (.int x2), .val (.int x3), .val (.int x4), .val (.int (0 : Int32)), .val (.ref b3), .val (.ref sb33), .val (.ref rb37), .val (.int (0 : Int32)), .unset, .unset]) rfl ?_
      show Steps p.tables e below (T37.setTop (mkF m 150 #[.val (.int x0), .val (.int x1), .val (.int x2), .val (.int x3), .val (.int x4), .val (.int (0 : Int32)), .val (.ref b3), .val (.ref sb33), .val (.ref rb37), .val (.int (0 : Int32)), .unset, .unset] [])) _
      refine XS.iconst X37.here hx rfl (hb hby at_150) ?_
      show Steps p.tables e below (T37.setTop (mkF m 151 #[.val (.int x0), .val (.int x1), .val (.int x2), .val (.int x3), .val (.int x4), .val (.int (0 : Int32)), .val (.ref b3), .val (.ref sb33), .val (.ref rb37), .val (.int (0 : Int32)), .unset, .unset] [(.int (3 : Int32))])) _
      refine XS.iload X37.here hx rfl (hb hby at_151) rfl ?_
      show Steps p.tables e below (T37.setTop (mkF m 153 #[.val (.int x0), .val (.int x1), .val (.int x2), .val (.int x3), .val (.int x4), .val (.int (0 : Int32)), .val (.ref b3), .val (.ref sb33), .val (.ref rb37), .val (.int (0 : Int32)), .unset, .unset] [(.int (0 : Int32)), (.int (3 : Int32))])) _
      refine XS.icmpYes X37.here hx rfl (pc0 := 153) (pc' := 172) rfl (hb hby at_153) rfl (flt (by decide : ¬ ((3 : Int32) < (0 : Int32)))).2.1 (by decide) (by decide) ?_
      show Steps p.tables e below (T37.setTop (mkF m 172 #[.val (.int x0), .val (.int x1), .val (.int x2), .val (.int x3), .val (.int x4), .val (.int (0 : Int32)), .val (.ref b3), .val (.ref sb33), .val (.ref rb37), .val (.int (0 : Int32)), .unset, .unset] [])) _
      refine XS.iconst X37.here hx rfl (hb hby at_172) ?_
      show Steps p.tables e below (T37.setTop (mkF m 173 #[.val (.int x0), .val (.int x1), .val (.int x2), .val (.int x3), .val (.int x4), .val (.int (0 : Int32)), .val (.ref b3), .val (.ref sb33), .val (.ref rb37), .val (.int (0 : Int32)), .unset, .unset] [(.int (2 : Int32))])) _
      refine XS.iload X37.here hx rfl (hb hby at_173) rfl ?_
      show Steps p.tables e below (T37.setTop (mkF m 175 #[.val (.int x0), .val (.int x1), .val (.int x2), .val (.int x3), .val (.int x4), .val (.int (0 : Int32)), .val (.ref b3), .val (.ref sb33), .val (.ref rb37), .val (.int (0 : Int32)), .unset, .unset] [(.int (0 : Int32)), (.int (2 : Int32))])) _
      refine XS.icmpYes X37.here hx rfl (pc0 := 175) (pc' := 194) rfl (hb hby at_175) rfl (flt (by decide : ¬ ((2 : Int32) < (0 : Int32)))).2.1 (by decide) (by decide) ?_
      show Steps p.tables e below (T37.setTop (mkF m 194 #[.val (.int x0), .val (.int x1), .val (.int x2), .val (.int x3), .val (.int x4), .val (.int (0 : Int32)), .val (.ref b3), .val (.ref sb33), .val (.ref rb37), .val (.int (0 : Int32)), .unset, .unset] [])) _
      refine XS.iconst X37.here hx rfl (hb hby at_194) ?_
      show Steps p.tables e below (T37.setTop (mkF m 195 #[.val (.int x0), .val (.int x1), .val (.int x2), .val (.int x3), .val (.int x4), .val (.int (0 : Int32)), .val (.ref b3), .val (.ref sb33), .val (.ref rb37), .val (.int (0 : Int32)), .unset, .unset] [(.int (1 : Int32))])) _
      refine XS.iload X37.here hx rfl (hb hby at_195) rfl ?_
      show Steps p.tables e below (T37.setTop (mkF m 197 #[.val (.int x0), .val (.int x1), .val (.int x2), .val (.int x3), .val (.int x4), .val (.int (0 : Int32)), .val (.ref b3), .val (.ref sb33), .val (.ref rb37), .val (.int (0 : Int32)), .unset, .unset] [(.int (0 : Int32)), (.int (1 : Int32))])) _
      refine XS.icmpYes X37.here hx rfl (pc0 := 197) (pc' := 216) rfl (hb hby at_197) rfl (flt (by decide : ¬ ((1 : Int32) < (0 : Int32)))).2.1 (by decide) (by decide) ?_
      show Steps p.tables e below (T37.setTop (mkF m 216 #[.val (.int x0), .val (.int x1), .val (.int x2), .val (.int x3), .val (.int x4), .val (.int (0 : Int32)), .val (.ref b3), .val (.ref sb33), .val (.ref rb37), .val (.int (0 : Int32)), .unset, .unset] [])) _
      refine XS.iconst X37.here hx rfl (hb hby at_216) ?_
      show Steps p.tables e below (T37.setTop (mkF m 217 #[.val (.int x0), .val (.int x1), .val (.int x2), .val (.int x3), .val (.int x4), .val (.int (0 : Int32)), .val (.ref b3), .val (.ref sb33), .val (.ref rb37), .val (.int (0 : Int32)), .unset, .unset] [(.int (0 : Int32))])) _
      refine XS.iload X37.here hx rfl (hb hby at_217) rfl ?_
      show Steps p.tables e below (T37.setTop (mkF m 219 #[.val (.int x0), .val (.int x1), .val (.int x2), .val (.int x3), .val (.int x4), .val (.int (0 : Int32)), .val (.ref b3), .val (.ref sb33), .val (.ref rb37), .val (.int (0 : Int32)), .unset, .unset] [(.int (0 : Int32)), (.int (0 : Int32))])) _
      refine XS.icmpYes X37.here hx rfl (pc0 := 219) (pc' := 238) rfl (hb hby at_219) rfl (flt (by decide : ¬ ((0 : Int32) < (0 : Int32)))).2.1 (by decide) (by decide) ?_
      show Steps p.tables e below (T37.setTop (mkF m 238 #[.val (.int x0), .val (.int x1), .val (.int x2), .val (.int x3), .val (.int x4), .val (.int (0 : Int32)), .val (.ref b3), .val (.ref sb33), .val (.ref rb37), .val (.int (0 : Int32)), .unset, .unset] [])) _
      refine XS.iload X37.here hx rfl (hb hby at_238) rfl ?_
      show Steps p.tables e below (T37.setTop (mkF m 240 #[.val (.int x0), .val (.int x1), .val (.int x2), .val (.int x3), .val (.int x4), .val (.int (0 : Int32)), .val (.ref b3), .val (.ref sb33), .val (.ref rb37), .val (.int (0 : Int32)), .unset, .unset] [(.int (0 : Int32))])) _
      refine XS.istore X37.here hx rfl (hb hby at_240) rfl (l' := #[.val (.int x0), .val (.int x1), .val (.int x2), .val (.int x3), .val (.int x4), .val (.int (0 : Int32)), .val (.ref b3), .val (.ref sb33), .val (.ref rb37), .val (.int (0 : Int32)), .val (.int (0 : Int32)), .unset]) rfl ?_
      show Steps p.tables e below (T37.setTop (mkF m 242 #[.val (.int x0), .val (.int x1), .val (.int x2), .val (.int x3), .val (.int x4), .val (.int (0 : Int32)), .val (.ref b3), .val (.ref sb33), .val (.ref rb37), .val (.int (0 : Int32)), .val (.int (0 : Int32)), .unset] [])) _
      refine XS.iload X37.here hx rfl (hb hby at_242) rfl ?_
      show Steps p.tables e below (T37.setTop (mkF m 244 #[.val (.int x0), .val (.int x1), .val (.int x2), .val (.int x3), .val (.int x4), .val (.int (0 : Int32)), .val (.ref b3), .val (.ref sb33), .val (.ref rb37), .val (.int (0 : Int32)), .val (.int (0 : Int32)), .unset] [(.int (0 : Int32))])) _
      refine XS.iload X37.here hx rfl (hb hby at_244) rfl ?_
      show Steps p.tables e below (T37.setTop (mkF m 246 #[.val (.int x0), .val (.int x1), .val (.int x2), .val (.int x3), .val (.int x4), .val (.int (0 : Int32)), .val (.ref b3), .val (.ref sb33), .val (.ref rb37), .val (.int (0 : Int32)), .val (.int (0 : Int32)), .unset] [(.int (0 : Int32)), (.int (0 : Int32))])) _
      refine XS.isub X37.here hx rfl (hb hby at_246) rfl ?_
      show Steps p.tables e below (T37.setTop (mkF m 247 #[.val (.int x0), .val (.int x1), .val (.int x2), .val (.int x3), .val (.int x4), .val (.int (0 : Int32)), .val (.ref b3), .val (.ref sb33), .val (.ref rb37), .val (.int (0 : Int32)), .val (.int (0 : Int32)), .unset] [(.int (0 : Int32))])) _
      refine XS.istore X37.here hx rfl (hb hby at_247) rfl (l' := #[.val (.int x0), .val (.int x1), .val (.int x2), .val (.int x3), .val (.int x4), .val (.int (0 : Int32)), .val (.ref b3), .val (.ref sb33), .val (.ref rb37), .val (.int (0 : Int32)), .val (.int (0 : Int32)), .val (.int (0 : Int32))]) rfl ?_
      show Steps p.tables e below (T37.setTop (mkF m 249 #[.val (.int x0), .val (.int x1), .val (.int x2), .val (.int x3), .val (.int x4), .val (.int (0 : Int32)), .val (.ref b3), .val (.ref sb33), .val (.ref rb37), .val (.int (0 : Int32)), .val (.int (0 : Int32)), .val (.int (0 : Int32))] [])) _
      refine XS.aload X37.here hx rfl (hb hby at_249) rfl rfl ?_
      show Steps p.tables e below (T37.setTop (mkF m 251 #[.val (.int x0), .val (.int x1), .val (.int x2), .val (.int x3), .val (.int x4), .val (.int (0 : Int32)), .val (.ref b3), .val (.ref sb33), .val (.ref rb37), .val (.int (0 : Int32)), .val (.int (0 : Int32)), .val (.int (0 : Int32))] [(.ref rb37)])) _
      refine XS.ifnullNo X37.here hx rfl (hb hby at_251) rfl ?_
      show Steps p.tables e below (T37.setTop (mkF m 254 #[.val (.int x0), .val (.int x1), .val (.int x2), .val (.int x3), .val (.int x4), .val (.int (0 : Int32)), .val (.ref b3), .val (.ref sb33), .val (.ref rb37), .val (.int (0 : Int32)), .val (.int (0 : Int32)), .val (.int (0 : Int32))] [])) _
      refine XS.aload X37.here hx rfl (hb hby at_254) rfl rfl ?_
      show Steps p.tables e below (T37.setTop (mkF m 256 #[.val (.int x0), .val (.int x1), .val (.int x2), .val (.int x3), .val (.int x4), .val (.int (0 : Int32)), .val (.ref b3), .val (.ref sb33), .val (.ref rb37), .val (.int (0 : Int32)), .val (.int (0 : Int32)), .val (.int (0 : Int32))] [(.ref rb37)])) _
      refine st44.trans ?_
      show Steps p.tables e below (T44.setTop (mkF m 259 #[.val (.int x0), .val (.int x1), .val (.int x2), .val (.int x3), .val (.int x4), .val (.int (0 : Int32)), .val (.ref b3), .val (.ref sb33), .val (.ref rb37), .val (.int (0 : Int32)), .val (.int (0 : Int32)), .val (.int (0 : Int32))] [(.int (Int32.ofNat (List.length ((List.drop i1 (mkl nv (nar .char (pkc x1)) (nar .char (pkc x2)) (nar .char (pkc x3)) (nar .char (pkc x4)))).take (j2 - i1)))))])) _
      refine XS.iload X44.here hx rfl (hb hby at_259) rfl ?_
      show Steps p.tables e below (T44.setTop (mkF m 261 #[.val (.int x0), .val (.int x1), .val (.int x2), .val (.int x3), .val (.int x4), .val (.int (0 : Int32)), .val (.ref b3), .val (.ref sb33), .val (.ref rb37), .val (.int (0 : Int32)), .val (.int (0 : Int32)), .val (.int (0 : Int32))] [(.int (0 : Int32)), (.int (Int32.ofNat (List.length ((List.drop i1 (mkl nv (nar .char (pkc x1)) (nar .char (pkc x2)) (nar .char (pkc x3)) (nar .char (pkc x4)))).take (j2 - i1)))))])) _
      refine XS.icmpNo X44.here hx rfl (hb hby at_261) rfl (teq hlen'.symm).2 ?_
      show Steps p.tables e below (T44.setTop (mkF m 264 #[.val (.int x0), .val (.int x1), .val (.int x2), .val (.int x3), .val (.int x4), .val (.int (0 : Int32)), .val (.ref b3), .val (.ref sb33), .val (.ref rb37), .val (.int (0 : Int32)), .val (.int (0 : Int32)), .val (.int (0 : Int32))] [])) _
      refine XS.aload X44.here hx rfl (hb hby at_264) rfl rfl ?_
      show Steps p.tables e below (T44.setTop (mkF m 266 #[.val (.int x0), .val (.int x1), .val (.int x2), .val (.int x3), .val (.int x4), .val (.int (0 : Int32)), .val (.ref b3), .val (.ref sb33), .val (.ref rb37), .val (.int (0 : Int32)), .val (.int (0 : Int32)), .val (.int (0 : Int32))] [(.ref rb37)])) _
      refine XS.iconst X44.here hx rfl (hb hby at_266) ?_
      show Steps p.tables e below (T44.setTop (mkF m 267 #[.val (.int x0), .val (.int x1), .val (.int x2), .val (.int x3), .val (.int x4), .val (.int (0 : Int32)), .val (.ref b3), .val (.ref sb33), .val (.ref rb37), .val (.int (0 : Int32)), .val (.int (0 : Int32)), .val (.int (0 : Int32))] [(.int (0 : Int32)), (.ref rb37)])) _
      refine XS.aload X44.here hx rfl (hb hby at_267) rfl rfl ?_
      show Steps p.tables e below (T44.setTop (mkF m 269 #[.val (.int x0), .val (.int x1), .val (.int x2), .val (.int x3), .val (.int x4), .val (.int (0 : Int32)), .val (.ref b3), .val (.ref sb33), .val (.ref rb37), .val (.int (0 : Int32)), .val (.int (0 : Int32)), .val (.int (0 : Int32))] [(.ref b3), (.int (0 : Int32)), (.ref rb37)])) _
      refine XS.iload X44.here hx rfl (hb hby at_269) rfl ?_
      show Steps p.tables e below (T44.setTop (mkF m 271 #[.val (.int x0), .val (.int x1), .val (.int x2), .val (.int x3), .val (.int x4), .val (.int (0 : Int32)), .val (.ref b3), .val (.ref sb33), .val (.ref rb37), .val (.int (0 : Int32)), .val (.int (0 : Int32)), .val (.int (0 : Int32))] [(.int (0 : Int32)), (.ref b3), (.int (0 : Int32)), (.ref rb37)])) _
      refine XS.iload X44.here hx rfl (hb hby at_271) rfl ?_
      show Steps p.tables e below (T44.setTop (mkF m 273 #[.val (.int x0), .val (.int x1), .val (.int x2), .val (.int x3), .val (.int x4), .val (.int (0 : Int32)), .val (.ref b3), .val (.ref sb33), .val (.ref rb37), .val (.int (0 : Int32)), .val (.int (0 : Int32)), .val (.int (0 : Int32))] [(.int (0 : Int32)), (.int (0 : Int32)), (.ref b3), (.int (0 : Int32)), (.ref rb37)])) _
      refine st47 _ ?_
      show Steps p.tables e below (T47.setTop (mkF m 276 #[.val (.int x0), .val (.int x1), .val (.int x2), .val (.int x3), .val (.int x4), .val (.int (0 : Int32)), .val (.ref b3), .val (.ref sb33), .val (.ref rb37), .val (.int (0 : Int32)), .val (.int (0 : Int32)), .val (.int (0 : Int32))] [(.int (1 : Int32))])) _
      refine XS.ifNo X47.here hx rfl (hb hby at_276) rfl ((if0 _ _).trans (feq (by decide : ¬ ((1 : Int32) = (0 : Int32)))).1) ?_
      show Steps p.tables e below (T47.setTop (mkF m 279 #[.val (.int x0), .val (.int x1), .val (.int x2), .val (.int x3), .val (.int x4), .val (.int (0 : Int32)), .val (.ref b3), .val (.ref sb33), .val (.ref rb37), .val (.int (0 : Int32)), .val (.int (0 : Int32)), .val (.int (0 : Int32))] [])) _
      refine XS.aload X47.here hx rfl (hb hby at_279) rfl rfl ?_
      show Steps p.tables e below (T47.setTop (mkF m 281 #[.val (.int x0), .val (.int x1), .val (.int x2), .val (.int x3), .val (.int x4), .val (.int (0 : Int32)), .val (.ref b3), .val (.ref sb33), .val (.ref rb37), .val (.int (0 : Int32)), .val (.int (0 : Int32)), .val (.int (0 : Int32))] [(.ref rb37)])) _
      refine XS.iconst X47.here hx rfl (hb hby at_281) ?_
      show Steps p.tables e below (T47.setTop (mkF m 282 #[.val (.int x0), .val (.int x1), .val (.int x2), .val (.int x3), .val (.int x4), .val (.int (0 : Int32)), .val (.ref b3), .val (.ref sb33), .val (.ref rb37), .val (.int (0 : Int32)), .val (.int (0 : Int32)), .val (.int (0 : Int32))] [(.int (1 : Int32)), (.ref rb37)])) _
      refine XS.aload X47.here hx rfl (hb hby at_282) rfl rfl ?_
      show Steps p.tables e below (T47.setTop (mkF m 284 #[.val (.int x0), .val (.int x1), .val (.int x2), .val (.int x3), .val (.int x4), .val (.int (0 : Int32)), .val (.ref b3), .val (.ref sb33), .val (.ref rb37), .val (.int (0 : Int32)), .val (.int (0 : Int32)), .val (.int (0 : Int32))] [(.ref b3), (.int (1 : Int32)), (.ref rb37)])) _
      refine XS.iload X47.here hx rfl (hb hby at_284) rfl ?_
      show Steps p.tables e below (T47.setTop (mkF m 286 #[.val (.int x0), .val (.int x1), .val (.int x2), .val (.int x3), .val (.int x4), .val (.int (0 : Int32)), .val (.ref b3), .val (.ref sb33), .val (.ref rb37), .val (.int (0 : Int32)), .val (.int (0 : Int32)), .val (.int (0 : Int32))] [(.int (0 : Int32)), (.ref b3), (.int (1 : Int32)), (.ref rb37)])) _
      refine XS.iload X47.here hx rfl (hb hby at_286) rfl ?_
      show Steps p.tables e below (T47.setTop (mkF m 288 #[.val (.int x0), .val (.int x1), .val (.int x2), .val (.int x3), .val (.int x4), .val (.int (0 : Int32)), .val (.ref b3), .val (.ref sb33), .val (.ref rb37), .val (.int (0 : Int32)), .val (.int (0 : Int32)), .val (.int (0 : Int32))] [(.int (0 : Int32)), (.int (0 : Int32)), (.ref b3), (.int (1 : Int32)), (.ref rb37)])) _
      refine st49 _ ?_
      show Steps p.tables e below (T49.setTop (mkF m 291 #[.val (.int x0), .val (.int x1), .val (.int x2), .val (.int x3), .val (.int x4), .val (.int (0 : Int32)), .val (.ref b3), .val (.ref sb33), .val (.ref rb37), .val (.int (0 : Int32)), .val (.int (0 : Int32)), .val (.int (0 : Int32))] [(.int (1 : Int32))])) _
      refine XS.ifNo X49.here hx rfl (hb hby at_291) rfl ((if0 _ _).trans (feq (by decide : ¬ ((1 : Int32) = (0 : Int32)))).1) ?_
      show Steps p.tables e below (T49.setTop (mkF m 294 #[.val (.int x0), .val (.int x1), .val (.int x2), .val (.int x3), .val (.int x4), .val (.int (0 : Int32)), .val (.ref b3), .val (.ref sb33), .val (.ref rb37), .val (.int (0 : Int32)), .val (.int (0 : Int32)), .val (.int (0 : Int32))] [])) _
      refine XS.aload X49.here hx rfl (hb hby at_294) rfl rfl ?_
      show Steps p.tables e below (T49.setTop (mkF m 296 #[.val (.int x0), .val (.int x1), .val (.int x2), .val (.int x3), .val (.int x4), .val (.int (0 : Int32)), .val (.ref b3), .val (.ref sb33), .val (.ref rb37), .val (.int (0 : Int32)), .val (.int (0 : Int32)), .val (.int (0 : Int32))] [(.ref rb37)])) _
      refine XS.iconst X49.here hx rfl (hb hby at_296) ?_
      show Steps p.tables e below (T49.setTop (mkF m 297 #[.val (.int x0), .val (.int x1), .val (.int x2), .val (.int x3), .val (.int x4), .val (.int (0 : Int32)), .val (.ref b3), .val (.ref sb33), .val (.ref rb37), .val (.int (0 : Int32)), .val (.int (0 : Int32)), .val (.int (0 : Int32))] [(.int (2 : Int32)), (.ref rb37)])) _
      refine XS.aload X49.here hx rfl (hb hby at_297) rfl rfl ?_
      show Steps p.tables e below (T49.setTop (mkF m 299 #[.val (.int x0), .val (.int x1), .val (.int x2), .val (.int x3), .val (.int x4), .val (.int (0 : Int32)), .val (.ref b3), .val (.ref sb33), .val (.ref rb37), .val (.int (0 : Int32)), .val (.int (0 : Int32)), .val (.int (0 : Int32))] [(.ref b3), (.int (2 : Int32)), (.ref rb37)])) _
      refine XS.iload X49.here hx rfl (hb hby at_299) rfl ?_
      show Steps p.tables e below (T49.setTop (mkF m 301 #[.val (.int x0), .val (.int x1), .val (.int x2), .val (.int x3), .val (.int x4), .val (.int (0 : Int32)), .val (.ref b3), .val (.ref sb33), .val (.ref rb37), .val (.int (0 : Int32)), .val (.int (0 : Int32)), .val (.int (0 : Int32))] [(.int (0 : Int32)), (.ref b3), (.int (2 : Int32)), (.ref rb37)])) _
      refine XS.iload X49.here hx rfl (hb hby at_301) rfl ?_
      show Steps p.tables e below (T49.setTop (mkF m 303 #[.val (.int x0), .val (.int x1), .val (.int x2), .val (.int x3), .val (.int x4), .val (.int (0 : Int32)), .val (.ref b3), .val (.ref sb33), .val (.ref rb37), .val (.int (0 : Int32)), .val (.int (0 : Int32)), .val (.int (0 : Int32))] [(.int (0 : Int32)), (.int (0 : Int32)), (.ref b3), (.int (2 : Int32)), (.ref rb37)])) _
      refine st51 _ ?_
      show Steps p.tables e below (T51.setTop (mkF m 306 #[.val (.int x0), .val (.int x1), .val (.int x2), .val (.int x3), .val (.int x4), .val (.int (0 : Int32)), .val (.ref b3), .val (.ref sb33), .val (.ref rb37), .val (.int (0 : Int32)), .val (.int (0 : Int32)), .val (.int (0 : Int32))] [(.int (1 : Int32))])) _
      refine XS.ifNo X51.here hx rfl (hb hby at_306) rfl ((if0 _ _).trans (feq (by decide : ¬ ((1 : Int32) = (0 : Int32)))).1) ?_
      show Steps p.tables e below (T51.setTop (mkF m 309 #[.val (.int x0), .val (.int x1), .val (.int x2), .val (.int x3), .val (.int x4), .val (.int (0 : Int32)), .val (.ref b3), .val (.ref sb33), .val (.ref rb37), .val (.int (0 : Int32)), .val (.int (0 : Int32)), .val (.int (0 : Int32))] [])) _
      refine XS.aload X51.here hx rfl (hb hby at_309) rfl rfl ?_
      show Steps p.tables e below (T51.setTop (mkF m 311 #[.val (.int x0), .val (.int x1), .val (.int x2), .val (.int x3), .val (.int x4), .val (.int (0 : Int32)), .val (.ref b3), .val (.ref sb33), .val (.ref rb37), .val (.int (0 : Int32)), .val (.int (0 : Int32)), .val (.int (0 : Int32))] [(.ref rb37)])) _
      refine XS.iconst X51.here hx rfl (hb hby at_311) ?_
      show Steps p.tables e below (T51.setTop (mkF m 312 #[.val (.int x0), .val (.int x1), .val (.int x2), .val (.int x3), .val (.int x4), .val (.int (0 : Int32)), .val (.ref b3), .val (.ref sb33), .val (.ref rb37), .val (.int (0 : Int32)), .val (.int (0 : Int32)), .val (.int (0 : Int32))] [(.int (3 : Int32)), (.ref rb37)])) _
      refine XS.aload X51.here hx rfl (hb hby at_312) rfl rfl ?_
      show Steps p.tables e below (T51.setTop (mkF m 314 #[.val (.int x0), .val (.int x1), .val (.int x2), .val (.int x3), .val (.int x4), .val (.int (0 : Int32)), .val (.ref b3), .val (.ref sb33), .val (.ref rb37), .val (.int (0 : Int32)), .val (.int (0 : Int32)), .val (.int (0 : Int32))] [(.ref b3), (.int (3 : Int32)), (.ref rb37)])) _
      refine XS.iload X51.here hx rfl (hb hby at_314) rfl ?_
      show Steps p.tables e below (T51.setTop (mkF m 316 #[.val (.int x0), .val (.int x1), .val (.int x2), .val (.int x3), .val (.int x4), .val (.int (0 : Int32)), .val (.ref b3), .val (.ref sb33), .val (.ref rb37), .val (.int (0 : Int32)), .val (.int (0 : Int32)), .val (.int (0 : Int32))] [(.int (0 : Int32)), (.ref b3), (.int (3 : Int32)), (.ref rb37)])) _
      refine XS.iload X51.here hx rfl (hb hby at_316) rfl ?_
      show Steps p.tables e below (T51.setTop (mkF m 318 #[.val (.int x0), .val (.int x1), .val (.int x2), .val (.int x3), .val (.int x4), .val (.int (0 : Int32)), .val (.ref b3), .val (.ref sb33), .val (.ref rb37), .val (.int (0 : Int32)), .val (.int (0 : Int32)), .val (.int (0 : Int32))] [(.int (0 : Int32)), (.int (0 : Int32)), (.ref b3), (.int (3 : Int32)), (.ref rb37)])) _
      refine st53 _ ?_
      show Steps p.tables e below (T53.setTop (mkF m 321 #[.val (.int x0), .val (.int x1), .val (.int x2), .val (.int x3), .val (.int x4), .val (.int (0 : Int32)), .val (.ref b3), .val (.ref sb33), .val (.ref rb37), .val (.int (0 : Int32)), .val (.int (0 : Int32)), .val (.int (0 : Int32))] [(.int (1 : Int32))])) _
      refine XS.ifNo X53.here hx rfl (hb hby at_321) rfl ((if0 _ _).trans (feq (by decide : ¬ ((1 : Int32) = (0 : Int32)))).1) ?_
      show Steps p.tables e below (T53.setTop (mkF m 324 #[.val (.int x0), .val (.int x1), .val (.int x2), .val (.int x3), .val (.int x4), .val (.int (0 : Int32)), .val (.ref b3), .val (.ref sb33), .val (.ref rb37), .val (.int (0 : Int32)), .val (.int (0 : Int32)), .val (.int (0 : Int32))] [])) _
      refine XS.iconst X53.here hx rfl (hb hby at_324) ?_
      show Steps p.tables e below (T53.setTop (mkF m 325 #[.val (.int x0), .val (.int x1), .val (.int x2), .val (.int x3), .val (.int x4), .val (.int (0 : Int32)), .val (.ref b3), .val (.ref sb33), .val (.ref rb37), .val (.int (0 : Int32)), .val (.int (0 : Int32)), .val (.int (0 : Int32))] [(.int (1 : Int32))])) _
      refine XS.goto X53.here hx rfl (pc0 := 325) (pc' := 329) rfl (hb hby at_325) (by decide) (by decide) ?_
      show Steps p.tables e below (T53.setTop (mkF m 329 #[.val (.int x0), .val (.int x1), .val (.int x2), .val (.int x3), .val (.int x4), .val (.int (0 : Int32)), .val (.ref b3), .val (.ref sb33), .val (.ref rb37), .val (.int (0 : Int32)), .val (.int (0 : Int32)), .val (.int (0 : Int32))] [(.int (1 : Int32))])) _
      exact retOut X53 hx Bd.returns rfl (Or.inl ⟨rfl, Or.inr (Or.inl rfl), _, rfl⟩) (hb hby at_329) hretL
    · show Q_rm0 Z x0 x1 x2 x3 x4 G1 fm h0 n0 _ T53.heap _
      rw [eq53]
      exact ⟨rfl, N54⟩
  · have pre55 : ∀ tgt, Steps p.tables e below (T37.setTop (mkF m 58 #[.val (.int x0), .val (.int x1), .val (.int x2), .val (.int x3), .val (.int x4), .val (.int (1 : Int32)), .val (.ref b3), .val (.ref sb33), .val (.ref rb37), .unset, .unset, .unset] [])) tgt → Steps p.tables e below (s₁.setTop (entryFrame m #[(.int x0), (.int x1), (.int x2), (.int x3), (.int x4)] maxLocals)) tgt := by
      have q := pre42
      rw [hq] at q
      exact q
    have hSk : SB [(nar .char (pkc x1))] i1 j2 := by have q := hSB; rw [hq] at q; exact q
    have f57 := (f39.keep kp37 nin0)
    obtain ⟨cl56, Ar56, q56, S56, M56, H56, G56⟩ := id f57
    have hin56 : ¬ ((0 : Int32) < 0 ∨ cl56.slots.size ≤ ((0 : Int32)).toNatClampNeg) := inb_of S56 ⟨by decide, by decide⟩
    have hat56 : cl56.slots[((0 : Int32)).toNatClampNeg]? = some (.int (nar .char (pkc x1))) := H56.at hin56 rfl
    obtain ⟨_, _, ⟨T58, L58, k58, n58⟩, -, X58, ⟨Lc58, hQ58, l58, y58, z58⟩, st58⟩ := Jvm.LawKit.callS X37 hx (y := (⟨"com/example/redress/redress/definition/StatementStripBlanksPinLaw", "blank", "(C)Z"⟩ : MethodName)) hown37 (mvT hZ37 (ow121 hw)) (mvT hZ37 (ow122 hw)) (mvT hZ37 (ow4 hw)) (mvT hZ37 (ow123 hw)) (by decide) (backOf (W := 0) (rmbl l Z a0 hw [] (nar .char (pkc x1))  T37.heap n0 O41 ) hZ37 (ow123 hw) (ow4 hw) (by decide) (by decide)) (g := (mkF m 68 #[.val (.int x0), .val (.int x1), .val (.int x2), .val (.int x3), .val (.int x4), .val (.int (1 : Int32)), .val (.ref b3), .val (.ref sb33), .val (.ref rb37), .unset, .unset, .unset] [(.int (nar .char (pkc x1)))])) rfl (by rw [hml]; rfl) (argsL := [(.int (nar .char (pkc x1)))]) (rest := []) (lenOf pd12 rfl) rfl (by show 2 * 0 + _ ≤ _; exact Nat.le_of_eq rfl) (hb hby at_68) (fun _ _ => ⟨rfl, rfl, (by decide : 9 + 0 ≤ _), (by decide : 24 + 0 ≤ _)⟩)
    dsimp only [Pt.U, Pt.locs, Pt.cells, Pt.slots] at X58 l58 y58 z58 st58 hQ58
    subst l58 y58 z58
    obtain ⟨rfl, Nq58, eq58⟩ := hQ58
    have N59 := Fr.app N38 Nq58
    have pre60 : ∀ tgt, Steps p.tables e below (T58.setTop (mkF m 71 #[.val (.int x0), .val (.int x1), .val (.int x2), .val (.int x3), .val (.int x4), .val (.int (1 : Int32)), .val (.ref b3), .val (.ref sb33), .val (.ref rb37), .unset, .unset, .unset] [(.int (bl (nar .char (pkc x1))))])) tgt → Steps p.tables e below (s₁.setTop (entryFrame m #[(.int x0), (.int x1), (.int x2), (.int x3), (.int x4)] maxLocals)) tgt := by
      intro tgt kgo
      refine pre55 _ ?_
      refine XS.iconst X37.here hx rfl (hb hby at_58) ?_
      show Steps p.tables e below (T37.setTop (mkF m 59 #[.val (.int x0), .val (.int x1), .val (.int x2), .val (.int x3), .val (.int x4), .val (.int (1 : Int32)), .val (.ref b3), .val (.ref sb33), .val (.ref rb37), .unset, .unset, .unset] [(.int (0 : Int32))])) _
      refine XS.iload X37.here hx rfl (hb hby at_59) rfl ?_
      show Steps p.tables e below (T37.setTop (mkF m 61 #[.val (.int x0), .val (.int x1), .val (.int x2), .val (.int x3), .val (.int x4), .val (.int (1 : Int32)), .val (.ref b3), .val (.ref sb33), .val (.ref rb37), .unset, .unset, .unset] [(.int (1 : Int32)), (.int (0 : Int32))])) _
      refine XS.icmpNo X37.here hx rfl (hb hby at_61) rfl (tlt (by decide : (0 : Int32) < (1 : Int32))).2.1 ?_
      show Steps p.tables e below (T37.setTop (mkF m 64 #[.val (.int x0), .val (.int x1), .val (.int x2), .val (.int x3), .val (.int x4), .val (.int (1 : Int32)), .val (.ref b3), .val (.ref sb33), .val (.ref rb37), .unset, .unset, .unset] [])) _
      refine XS.aload X37.here hx rfl (hb hby at_64) rfl rfl ?_
      show Steps p.tables e below (T37.setTop (mkF m 66 #[.val (.int x0), .val (.int x1), .val (.int x2), .val (.int x3), .val (.int x4), .val (.int (1 : Int32)), .val (.ref b3), .val (.ref sb33), .val (.ref rb37), .unset, .unset, .unset] [(.ref b3)])) _
      refine XS.iconst X37.here hx rfl (hb hby at_66) ?_
      show Steps p.tables e below (T37.setTop (mkF m 67 #[.val (.int x0), .val (.int x1), .val (.int x2), .val (.int x3), .val (.int x4), .val (.int (1 : Int32)), .val (.ref b3), .val (.ref sb33), .val (.ref rb37), .unset, .unset, .unset] [(.int (0 : Int32)), (.ref b3)])) _
      refine X37.caload hx (j := (0 : Int32)) (v := (.int (nar .char (pkc x1)))) Ar56.1 (State.isArrayOf_alike hZ37.alike Ar56.2.1) Ar56.2.2 hin56 hat56 (g := (mkF m 67 #[.val (.int x0), .val (.int x1), .val (.int x2), .val (.int x3), .val (.int x4), .val (.int (1 : Int32)), .val (.ref b3), .val (.ref sb33), .val (.ref rb37), .unset, .unset, .unset] [(.int (0 : Int32)), (.ref b3)])) rfl rfl (hb hby at_67) _ ?_
      show Steps p.tables e below (T37.setTop (mkF m 68 #[.val (.int x0), .val (.int x1), .val (.int x2), .val (.int x3), .val (.int x4), .val (.int (1 : Int32)), .val (.ref b3), .val (.ref sb33), .val (.ref rb37), .unset, .unset, .unset] [(.int (nar .char (pkc x1)))])) _
      refine st58 _ ?_
      show Steps p.tables e below (T58.setTop (mkF m 71 #[.val (.int x0), .val (.int x1), .val (.int x2), .val (.int x3), .val (.int x4), .val (.int (1 : Int32)), .val (.ref b3), .val (.ref sb33), .val (.ref rb37), .unset, .unset, .unset] [(.int (bl (nar .char (pkc x1))))])) _
      exact kgo
    obtain ⟨T61, lo61, stt, X61, e61, N61, hstt, pre61⟩ : ∃ (T' : State) (lo61 : List Loc) (stt : Int32), Stand p l e room_1 (s.setVm T37.vm) m #[(.int x0), (.int x1), (.int x2), (.int x3), (.int x4)] below meth c T' lo61 9 24 ∧ T'.heap = T37.heap ∧ Fr n0 lo61 ∧ stt = (if (bl (nar .char (pkc x1))) = (0 : Int32) then (0 : Int32) else (1 : Int32)) ∧ ∀ tgt, Steps p.tables e below (T'.setTop (mkF m 150 #[.val (.int x0), .val (.int x1), .val (.int x2), .val (.int x3), .val (.int x4), .val (.int (1 : Int32)), .val (.ref b3), .val (.ref sb33), .val (.ref rb37), .val (.int stt), .unset, .unset] [])) tgt → Steps p.tables e below (s₁.setTop (entryFrame m #[(.int x0), (.int x1), (.int x2), (.int x3), (.int x4)] maxLocals)) tgt := by
      by_cases hc71_62 : (bl (nar .char (pkc x1))) = (0 : Int32)
      · have pre63 : ∀ tgt, Steps p.tables e below (T58.setTop (mkF m 150 #[.val (.int x0), .val (.int x1), .val (.int x2), .val (.int x3), .val (.int x4), .val (.int (1 : Int32)), .val (.ref b3), .val (.ref sb33), .val (.ref rb37), .val (.int (0 : Int32)), .unset, .unset] [])) tgt → Steps p.tables e below (s₁.setTop (entryFrame m #[(.int x0), (.int x1), (.int x2), (.int x3), (.int x4)] maxLocals)) tgt := by
          intro tgt kgo
          refine pre60 _ ?_
          refine XS.ifNo X58.here hx rfl (hb hby at_71) rfl ((if0 _ _).trans (teq hc71_62).2) ?_
          show Steps p.tables e below (T58.setTop (mkF m 74 #[.val (.int x0), .val (.int x1), .val (.int x2), .val (.int x3), .val (.int x4), .val (.int (1 : Int32)), .val (.ref b3), .val (.ref sb33), .val (.ref rb37), .unset, .unset, .unset] [])) _
          refine XS.iconst X58.here hx rfl (hb hby at_74) ?_
          show Steps p.tables e below (T58.setTop (mkF m 75 #[.val (.int x0), .val (.int x1), .val (.int x2), .val (.int x3), .val (.int x4), .val (.int (1 : Int32)), .val (.ref b3), .val (.ref sb33), .val (.ref rb37), .unset, .unset, .unset] [(.int (0 : Int32))])) _
          refine XS.istore X58.here hx rfl (hb hby at_75) rfl (l' := #[.val (.int x0), .val (.int x1), .val (.int x2), .val (.int x3), .val (.int x4), .val (.int (1 : Int32)), .val (.ref b3), .val (.ref sb33), .val (.ref rb37), .val (.int (0 : Int32)), .unset, .unset]) rfl ?_
          show Steps p.tables e below (T58.setTop (mkF m 77 #[.val (.int x0), .val (.int x1), .val (.int x2), .val (.int x3), .val (.int x4), .val (.int (1 : Int32)), .val (.ref b3), .val (.ref sb33), .val (.ref rb37), .val (.int (0 : Int32)), .unset, .unset] [])) _
          refine XS.goto X58.here hx rfl (pc0 := 77) (pc' := 150) rfl (hb hby at_77) (by decide) (by decide) ?_
          show Steps p.tables e below (T58.setTop (mkF m 150 #[.val (.int x0), .val (.int x1), .val (.int x2), .val (.int x3), .val (.int x4), .val (.int (1 : Int32)), .val (.ref b3), .val (.ref sb33), .val (.ref rb37), .val (.int (0 : Int32)), .unset, .unset] [])) _
          exact kgo
        exact ⟨T58, _, (0 : Int32), X58, eq58, N59, (by simp only [if_pos hc71_62]), pre63⟩
      · have pre64 : ∀ tgt, Steps p.tables e below (T58.setTop (mkF m 150 #[.val (.int x0), .val (.int x1), .val (.int x2), .val (.int x3), .val (.int x4), .val (.int (1 : Int32)), .val (.ref b3), .val (.ref sb33), .val (.ref rb37), .val (.int (1 : Int32)), .unset, .unset] [])) tgt → Steps p.tables e below (s₁.setTop (entryFrame m #[(.int x0), (.int x1), (.int x2), (.int x3), (.int x4)] maxLocals)) tgt := by
          intro tgt kgo
          refine pre60 _ ?_
          refine XS.ifYes X58.here hx rfl (pc0 := 71) (pc' := 80) rfl (hb hby at_71) rfl ((if0 _ _).trans (feq hc71_62).2) (by decide) (by decide) ?_
          show Steps p.tables e below (T58.setTop (mkF m 80 #[.val (.int x0), .val (.int x1), .val (.int x2), .val (.int x3), .val (.int x4), .val (.int (1 : Int32)), .val (.ref b3), .val (.ref sb33), .val (.ref rb37), .unset, .unset, .unset] [])) _
          refine XS.iconst X58.here hx rfl (hb hby at_80) ?_
          show Steps p.tables e below (T58.setTop (mkF m 81 #[.val (.int x0), .val (.int x1), .val (.int x2), .val (.int x3), .val (.int x4), .val (.int (1 : Int32)), .val (.ref b3), .val (.ref sb33), .val (.ref rb37), .unset, .unset, .unset] [(.int (1 : Int32))])) _
          refine XS.iload X58.here hx rfl (hb hby at_81) rfl ?_
          show Steps p.tables e below (T58.setTop (mkF m 83 #[.val (.int x0), .val (.int x1), .val (.int x2), .val (.int x3), .val (.int x4), .val (.int (1 : Int32)), .val (.ref b3), .val (.ref sb33), .val (.ref rb37), .unset, .unset, .unset] [(.int (1 : Int32)), (.int (1 : Int32))])) _
          refine XS.icmpYes X58.here hx rfl (pc0 := 83) (pc' := 102) rfl (hb hby at_83) rfl (flt (by decide : ¬ ((1 : Int32) < (1 : Int32)))).2.1 (by decide) (by decide) ?_
          show Steps p.tables e below (T58.setTop (mkF m 102 #[.val (.int x0), .val (.int x1), .val (.int x2), .val (.int x3), .val (.int x4), .val (.int (1 : Int32)), .val (.ref b3), .val (.ref sb33), .val (.ref rb37), .unset, .unset, .unset] [])) _
          refine XS.iconst X58.here hx rfl (hb hby at_102) ?_
          show Steps p.tables e below (T58.setTop (mkF m 103 #[.val (.int x0), .val (.int x1), .val (.int x2), .val (.int x3), .val (.int x4), .val (.int (1 : Int32)), .val (.ref b3), .val (.ref sb33), .val (.ref rb37), .unset, .unset, .unset] [(.int (2 : Int32))])) _
          refine XS.iload X58.here hx rfl (hb hby at_103) rfl ?_
          show Steps p.tables e below (T58.setTop (mkF m 105 #[.val (.int x0), .val (.int x1), .val (.int x2), .val (.int x3), .val (.int x4), .val (.int (1 : Int32)), .val (.ref b3), .val (.ref sb33), .val (.ref rb37), .unset, .unset, .unset] [(.int (1 : Int32)), (.int (2 : Int32))])) _
          refine XS.icmpYes X58.here hx rfl (pc0 := 105) (pc' := 124) rfl (hb hby at_105) rfl (flt (by decide : ¬ ((2 : Int32) < (1 : Int32)))).2.1 (by decide) (by decide) ?_
          show Steps p.tables e below (T58.setTop (mkF m 124 #[.val (.int x0), .val (.int x1), .val (.int x2), .val (.int x3), .val (.int x4), .val (.int (1 : Int32)), .val (.ref b3), .val (.ref sb33), .val (.ref rb37), .unset, .unset, .unset] [])) _
          refine XS.iconst X58.here hx rfl (hb hby at_124) ?_
          show Steps p.tables e below (T58.setTop (mkF m 125 #[.val (.int x0), .val (.int x1), .val (.int x2), .val (.int x3), .val (.int x4), .val (.int (1 : Int32)), .val (.ref b3), .val (.ref sb33), .val (.ref rb37), .unset, .unset, .unset] [(.int (3 : Int32))])) _
          refine XS.iload X58.here hx rfl (hb hby at_125) rfl ?_
          show Steps p.tables e below (T58.setTop (mkF m 127 #[.val (.int x0), .val (.int x1), .val (.int x2), .val (.int x3), .val (.int x4), .val (.int (1 : Int32)), .val (.ref b3), .val (.ref sb33), .val (.ref rb37), .unset, .unset, .unset] [(.int (1 : Int32)), (.int (3 : Int32))])) _
          refine XS.icmpYes X58.here hx rfl (pc0 := 127) (pc' := 146) rfl (hb hby at_127) rfl (flt (by decide : ¬ ((3 : Int32) < (1 : Int32)))).2.1 (by decide) (by decide) ?_
          show Steps p.tables e below (T58.setTop (mkF m 146 #[.val (.int x0), .val (.int x1), .val (.int x2), .val (.int x3), .val (.int x4), .val (.int (1 : Int32)), .val (.ref b3), .val (.ref sb33), .val (.ref rb37), .unset, .unset, .unset] [])) _
          refine XS.iload X58.here hx rfl (hb hby at_146) rfl ?_
          show Steps p.tables e below (T58.setTop (mkF m 148 #[.val (.int x0), .val (.int x1), .val (.int x2), .val (.int x3), .val (.int x4), .val (.int (1 : Int32)), .val (.ref b3), .val (.ref sb33), .val (.ref rb37), .unset, .unset, .unset] [(.int (1 : Int32))])) _
          refine XS.istore X58.here hx rfl (hb hby at_148) rfl (l' := #[.val (.int x0), .val (.int x1), .val (.int x2), .val (.int x3), .val (.int x4), .val (.int (1 : Int32)), .val (.ref b3), .val (.ref sb33), .val (.ref rb37), .val (.int (1 : Int32)), .unset, .unset]) rfl ?_
          show Steps p.tables e below (T58.setTop (mkF m 150 #[.val (.int x0), .val (.int x1), .val (.int x2), .val (.int x3), .val (.int x4), .val (.int (1 : Int32)), .val (.ref b3), .val (.ref sb33), .val (.ref rb37), .val (.int (1 : Int32)), .unset, .unset] [])) _
          exact kgo
        exact ⟨T58, _, (1 : Int32), X58, eq58, N59, (by simp only [if_neg hc71_62]), pre64⟩
    obtain ⟨cl65, Ar65, q65, S65, M65, H65, G65⟩ := id f57
    have hin65 : ¬ ((0 : Int32) < 0 ∨ cl65.slots.size ≤ ((0 : Int32)).toNatClampNeg) := inb_of S65 ⟨by decide, by decide⟩
    have hat65 : cl65.slots[((0 : Int32)).toNatClampNeg]? = some (.int (nar .char (pkc x1))) := H65.at hin65 rfl
    obtain ⟨_, _, ⟨T66, L66, k66, n66⟩, -, X66, ⟨Lc66, hQ66, l66, y66, z66⟩, st66⟩ := Jvm.LawKit.callS X61 hx (y := (⟨"com/example/redress/redress/definition/StatementStripBlanksPinLaw", "blank", "(C)Z"⟩ : MethodName)) hown37 (mvT hZ37 (ow121 hw)) (mvT hZ37 (ow122 hw)) (mvT hZ37 (ow4 hw)) (mvT hZ37 (ow123 hw)) (by decide) (backOf (W := 0) (rmbl l Z a0 hw [] (nar .char (pkc x1))  T37.heap n0 O41 ) hZ37 (ow123 hw) (ow4 hw) (by decide) (by decide)) (g := (mkF m 226 #[.val (.int x0), .val (.int x1), .val (.int x2), .val (.int x3), .val (.int x4), .val (.int (1 : Int32)), .val (.ref b3), .val (.ref sb33), .val (.ref rb37), .val (.int stt), .unset, .unset] [(.int (nar .char (pkc x1)))])) rfl (by rw [hml]; rfl) (argsL := [(.int (nar .char (pkc x1)))]) (rest := []) (lenOf pd12 rfl) rfl (by show 2 * 0 + _ ≤ _; exact Nat.le_of_eq rfl) (hb hby at_226) (fun _ _ => ⟨rfl, e61, (by decide : 9 + 0 ≤ _), (by decide : 24 + 0 ≤ _)⟩)
    dsimp only [Pt.U, Pt.locs, Pt.cells, Pt.slots] at X66 l66 y66 z66 st66 hQ66
    subst l66 y66 z66
    obtain ⟨rfl, Nq66, eq66⟩ := hQ66
    have N67 := Fr.app N61 Nq66
    have pre68 : ∀ tgt, Steps p.tables e below (T66.setTop (mkF m 229 #[.val (.int x0), .val (.int x1), .val (.int x2), .val (.int x3), .val (.int x4), .val (.int (1 : Int32)), .val (.ref b3), .val (.ref sb33), .val (.ref rb37), .val (.int stt), .unset, .unset] [(.int (bl (nar .char (pkc x1))))])) tgt → Steps p.tables e below (s₁.setTop (entryFrame m #[(.int x0), (.int x1), (.int x2), (.int x3), (.int x4)] maxLocals)) tgt := by
      intro tgt kgo
      refine pre61 _ ?_
      refine XS.iconst X61.here hx rfl (hb hby at_150) ?_
      show Steps p.tables e below (T61.setTop (mkF m 151 #[.val (.int x0), .val (.int x1), .val (.int x2), .val (.int x3), .val (.int x4), .val (.int (1 : Int32)), .val (.ref b3), .val (.ref sb33), .val (.ref rb37), .val (.int stt), .unset, .unset] [(.int (3 : Int32))])) _
      refine XS.iload X61.here hx rfl (hb hby at_151) rfl ?_
      show Steps p.tables e below (T61.setTop (mkF m 153 #[.val (.int x0), .val (.int x1), .val (.int x2), .val (.int x3), .val (.int x4), .val (.int (1 : Int32)), .val (.ref b3), .val (.ref sb33), .val (.ref rb37), .val (.int stt), .unset, .unset] [(.int (1 : Int32)), (.int (3 : Int32))])) _
      refine XS.icmpYes X61.here hx rfl (pc0 := 153) (pc' := 172) rfl (hb hby at_153) rfl (flt (by decide : ¬ ((3 : Int32) < (1 : Int32)))).2.1 (by decide) (by decide) ?_
      show Steps p.tables e below (T61.setTop (mkF m 172 #[.val (.int x0), .val (.int x1), .val (.int x2), .val (.int x3), .val (.int x4), .val (.int (1 : Int32)), .val (.ref b3), .val (.ref sb33), .val (.ref rb37), .val (.int stt), .unset, .unset] [])) _
      refine XS.iconst X61.here hx rfl (hb hby at_172) ?_
      show Steps p.tables e below (T61.setTop (mkF m 173 #[.val (.int x0), .val (.int x1), .val (.int x2), .val (.int x3), .val (.int x4), .val (.int (1 : Int32)), .val (.ref b3), .val (.ref sb33), .val (.ref rb37), .val (.int stt), .unset, .unset] [(.int (2 : Int32))])) _
      refine XS.iload X61.here hx rfl (hb hby at_173) rfl ?_
      show Steps p.tables e below (T61.setTop (mkF m 175 #[.val (.int x0), .val (.int x1), .val (.int x2), .val (.int x3), .val (.int x4), .val (.int (1 : Int32)), .val (.ref b3), .val (.ref sb33), .val (.ref rb37), .val (.int stt), .unset, .unset] [(.int (1 : Int32)), (.int (2 : Int32))])) _
      refine XS.icmpYes X61.here hx rfl (pc0 := 175) (pc' := 194) rfl (hb hby at_175) rfl (flt (by decide : ¬ ((2 : Int32) < (1 : Int32)))).2.1 (by decide) (by decide) ?_
      show Steps p.tables e below (T61.setTop (mkF m 194 #[.val (.int x0), .val (.int x1), .val (.int x2), .val (.int x3), .val (.int x4), .val (.int (1 : Int32)), .val (.ref b3), .val (.ref sb33), .val (.ref rb37), .val (.int stt), .unset, .unset] [])) _
      refine XS.iconst X61.here hx rfl (hb hby at_194) ?_
      show Steps p.tables e below (T61.setTop (mkF m 195 #[.val (.int x0), .val (.int x1), .val (.int x2), .val (.int x3), .val (.int x4), .val (.int (1 : Int32)), .val (.ref b3), .val (.ref sb33), .val (.ref rb37), .val (.int stt), .unset, .unset] [(.int (1 : Int32))])) _
      refine XS.iload X61.here hx rfl (hb hby at_195) rfl ?_
      show Steps p.tables e below (T61.setTop (mkF m 197 #[.val (.int x0), .val (.int x1), .val (.int x2), .val (.int x3), .val (.int x4), .val (.int (1 : Int32)), .val (.ref b3), .val (.ref sb33), .val (.ref rb37), .val (.int stt), .unset, .unset] [(.int (1 : Int32)), (.int (1 : Int32))])) _
      refine XS.icmpYes X61.here hx rfl (pc0 := 197) (pc' := 216) rfl (hb hby at_197) rfl (flt (by decide : ¬ ((1 : Int32) < (1 : Int32)))).2.1 (by decide) (by decide) ?_
      show Steps p.tables e below (T61.setTop (mkF m 216 #[.val (.int x0), .val (.int x1), .val (.int x2), .val (.int x3), .val (.int x4), .val (.int (1 : Int32)), .val (.ref b3), .val (.ref sb33), .val (.ref rb37), .val (.int stt), .unset, .unset] [])) _
      refine XS.iconst X61.here hx rfl (hb hby at_216) ?_
      show Steps p.tables e below (T61.setTop (mkF m 217 #[.val (.int x0), .val (.int x1), .val (.int x2), .val (.int x3), .val (.int x4), .val (.int (1 : Int32)), .val (.ref b3), .val (.ref sb33), .val (.ref rb37), .val (.int stt), .unset, .unset] [(.int (0 : Int32))])) _
      refine XS.iload X61.here hx rfl (hb hby at_217) rfl ?_
      show Steps p.tables e below (T61.setTop (mkF m 219 #[.val (.int x0), .val (.int x1), .val (.int x2), .val (.int x3), .val (.int x4), .val (.int (1 : Int32)), .val (.ref b3), .val (.ref sb33), .val (.ref rb37), .val (.int stt), .unset, .unset] [(.int (1 : Int32)), (.int (0 : Int32))])) _
      refine XS.icmpNo X61.here hx rfl (hb hby at_219) rfl (tlt (by decide : (0 : Int32) < (1 : Int32))).2.1 ?_
      show Steps p.tables e below (T61.setTop (mkF m 222 #[.val (.int x0), .val (.int x1), .val (.int x2), .val (.int x3), .val (.int x4), .val (.int (1 : Int32)), .val (.ref b3), .val (.ref sb33), .val (.ref rb37), .val (.int stt), .unset, .unset] [])) _
      refine XS.aload X61.here hx rfl (hb hby at_222) rfl rfl ?_
      show Steps p.tables e below (T61.setTop (mkF m 224 #[.val (.int x0), .val (.int x1), .val (.int x2), .val (.int x3), .val (.int x4), .val (.int (1 : Int32)), .val (.ref b3), .val (.ref sb33), .val (.ref rb37), .val (.int stt), .unset, .unset] [(.ref b3)])) _
      refine XS.iconst X61.here hx rfl (hb hby at_224) ?_
      show Steps p.tables e below (T61.setTop (mkF m 225 #[.val (.int x0), .val (.int x1), .val (.int x2), .val (.int x3), .val (.int x4), .val (.int (1 : Int32)), .val (.ref b3), .val (.ref sb33), .val (.ref rb37), .val (.int stt), .unset, .unset] [(.int (0 : Int32)), (.ref b3)])) _
      refine X61.caload hx (j := (0 : Int32)) (v := (.int (nar .char (pkc x1)))) (by rw [e61]; exact Ar65.1) (State.isArrayOf_alike hZ37.alike Ar65.2.1) Ar65.2.2 hin65 hat65 (g := (mkF m 225 #[.val (.int x0), .val (.int x1), .val (.int x2), .val (.int x3), .val (.int x4), .val (.int (1 : Int32)), .val (.ref b3), .val (.ref sb33), .val (.ref rb37), .val (.int stt), .unset, .unset] [(.int (0 : Int32)), (.ref b3)])) rfl rfl (hb hby at_225) _ ?_
      show Steps p.tables e below (T61.setTop (mkF m 226 #[.val (.int x0), .val (.int x1), .val (.int x2), .val (.int x3), .val (.int x4), .val (.int (1 : Int32)), .val (.ref b3), .val (.ref sb33), .val (.ref rb37), .val (.int stt), .unset, .unset] [(.int (nar .char (pkc x1)))])) _
      refine st66 _ ?_
      show Steps p.tables e below (T66.setTop (mkF m 229 #[.val (.int x0), .val (.int x1), .val (.int x2), .val (.int x3), .val (.int x4), .val (.int (1 : Int32)), .val (.ref b3), .val (.ref sb33), .val (.ref rb37), .val (.int stt), .unset, .unset] [(.int (bl (nar .char (pkc x1))))])) _
      exact kgo
    obtain ⟨T69, lo69, enn, X69, e69, N69, henn, pre69⟩ : ∃ (T' : State) (lo69 : List Loc) (enn : Int32), Stand p l e room_1 (s.setVm T37.vm) m #[(.int x0), (.int x1), (.int x2), (.int x3), (.int x4)] below meth c T' lo69 9 24 ∧ T'.heap = T37.heap ∧ Fr n0 lo69 ∧ enn = (if (bl (nar .char (pkc x1))) = (0 : Int32) then (1 : Int32) else (1 : Int32)) ∧ ∀ tgt, Steps p.tables e below (T'.setTop (mkF m 242 #[.val (.int x0), .val (.int x1), .val (.int x2), .val (.int x3), .val (.int x4), .val (.int (1 : Int32)), .val (.ref b3), .val (.ref sb33), .val (.ref rb37), .val (.int stt), .val (.int enn), .unset] [])) tgt → Steps p.tables e below (s₁.setTop (entryFrame m #[(.int x0), (.int x1), (.int x2), (.int x3), (.int x4)] maxLocals)) tgt := by
      by_cases hc229_70 : (bl (nar .char (pkc x1))) = (0 : Int32)
      · have pre71 : ∀ tgt, Steps p.tables e below (T66.setTop (mkF m 242 #[.val (.int x0), .val (.int x1), .val (.int x2), .val (.int x3), .val (.int x4), .val (.int (1 : Int32)), .val (.ref b3), .val (.ref sb33), .val (.ref rb37), .val (.int stt), .val (.int (1 : Int32)), .unset] [])) tgt → Steps p.tables e below (s₁.setTop (entryFrame m #[(.int x0), (.int x1), (.int x2), (.int x3), (.int x4)] maxLocals)) tgt := by
          intro tgt kgo
          refine pre68 _ ?_
          refine XS.ifNo X66.here hx rfl (hb hby at_229) rfl ((if0 _ _).trans (teq hc229_70).2) ?_
          show Steps p.tables e below (T66.setTop (mkF m 232 #[.val (.int x0), .val (.int x1), .val (.int x2), .val (.int x3), .val (.int x4), .val (.int (1 : Int32)), .val (.ref b3), .val (.ref sb33), .val (.ref rb37), .val (.int stt), .unset, .unset] [])) _
          refine XS.iconst X66.here hx rfl (hb hby at_232) ?_
          show Steps p.tables e below (T66.setTop (mkF m 233 #[.val (.int x0), .val (.int x1), .val (.int x2), .val (.int x3), .val (.int x4), .val (.int (1 : Int32)), .val (.ref b3), .val (.ref sb33), .val (.ref rb37), .val (.int stt), .unset, .unset] [(.int (1 : Int32))])) _
          refine XS.istore X66.here hx rfl (hb hby at_233) rfl (l' := #[.val (.int x0), .val (.int x1), .val (.int x2), .val (.int x3), .val (.int x4), .val (.int (1 : Int32)), .val (.ref b3), .val (.ref sb33), .val (.ref rb37), .val (.int stt), .val (.int (1 : Int32)), .unset]) rfl ?_
          show Steps p.tables e below (T66.setTop (mkF m 235 #[.val (.int x0), .val (.int x1), .val (.int x2), .val (.int x3), .val (.int x4), .val (.int (1 : Int32)), .val (.ref b3), .val (.ref sb33), .val (.ref rb37), .val (.int stt), .val (.int (1 : Int32)), .unset] [])) _
          refine XS.goto X66.here hx rfl (pc0 := 235) (pc' := 242) rfl (hb hby at_235) (by decide) (by decide) ?_
          show Steps p.tables e below (T66.setTop (mkF m 242 #[.val (.int x0), .val (.int x1), .val (.int x2), .val (.int x3), .val (.int x4), .val (.int (1 : Int32)), .val (.ref b3), .val (.ref sb33), .val (.ref rb37), .val (.int stt), .val (.int (1 : Int32)), .unset] [])) _
          exact kgo
        exact ⟨T66, _, (1 : Int32), X66, eq66, N67, (by simp only [if_pos hc229_70]), pre71⟩
      · have pre72 : ∀ tgt, Steps p.tables e below (T66.setTop (mkF m 242 #[.val (.int x0), .val (.int x1), .val (.int x2), .val (.int x3), .val (.int x4), .val (.int (1 : Int32)), .val (.ref b3), .val (.ref sb33), .val (.ref rb37), .val (.int stt), .val (.int (1 : Int32)), .unset] [])) tgt → Steps p.tables e below (s₁.setTop (entryFrame m #[(.int x0), (.int x1), (.int x2), (.int x3), (.int x4)] maxLocals)) tgt := by
          intro tgt kgo
          refine pre68 _ ?_
          refine XS.ifYes X66.here hx rfl (pc0 := 229) (pc' := 238) rfl (hb hby at_229) rfl ((if0 _ _).trans (feq hc229_70).2) (by decide) (by decide) ?_
          show Steps p.tables e below (T66.setTop (mkF m 238 #[.val (.int x0), .val (.int x1), .val (.int x2), .val (.int x3), .val (.int x4), .val (.int (1 : Int32)), .val (.ref b3), .val (.ref sb33), .val (.ref rb37), .val (.int stt), .unset, .unset] [])) _
          refine XS.iload X66.here hx rfl (hb hby at_238) rfl ?_
          show Steps p.tables e below (T66.setTop (mkF m 240 #[.val (.int x0), .val (.int x1), .val (.int x2), .val (.int x3), .val (.int x4), .val (.int (1 : Int32)), .val (.ref b3), .val (.ref sb33), .val (.ref rb37), .val (.int stt), .unset, .unset] [(.int (1 : Int32))])) _
          refine XS.istore X66.here hx rfl (hb hby at_240) rfl (l' := #[.val (.int x0), .val (.int x1), .val (.int x2), .val (.int x3), .val (.int x4), .val (.int (1 : Int32)), .val (.ref b3), .val (.ref sb33), .val (.ref rb37), .val (.int stt), .val (.int (1 : Int32)), .unset]) rfl ?_
          show Steps p.tables e below (T66.setTop (mkF m 242 #[.val (.int x0), .val (.int x1), .val (.int x2), .val (.int x3), .val (.int x4), .val (.int (1 : Int32)), .val (.ref b3), .val (.ref sb33), .val (.ref rb37), .val (.int stt), .val (.int (1 : Int32)), .unset] [])) _
          exact kgo
        exact ⟨T66, _, (1 : Int32), X66, eq66, N67, (by simp only [if_neg hc229_70]), pre72⟩
    have pre73 : ∀ tgt, Steps p.tables e below (T69.setTop (mkF m 249 #[.val (.int x0), .val (.int x1), .val (.int x2), .val (.int x3), .val (.int x4), .val (.int (1 : Int32)), .val (.ref b3), .val (.ref sb33), .val (.ref rb37), .val (.int stt), .val (.int enn), .val (.int (enn - stt))] [])) tgt → Steps p.tables e below (s₁.setTop (entryFrame m #[(.int x0), (.int x1), (.int x2), (.int x3), (.int x4)] maxLocals)) tgt := by
      intro tgt kgo
      refine pre69 _ ?_
      refine XS.iload X69.here hx rfl (hb hby at_242) rfl ?_
      show Steps p.tables e below (T69.setTop (mkF m 244 #[.val (.int x0), .val (.int x1), .val (.int x2), .val (.int x3), .val (.int x4), .val (.int (1 : Int32)), .val (.ref b3), .val (.ref sb33), .val (.ref rb37), .val (.int stt), .val (.int enn), .unset] [(.int enn)])) _
      refine XS.iload X69.here hx rfl (hb hby at_244) rfl ?_
      show Steps p.tables e below (T69.setTop (mkF m 246 #[.val (.int x0), .val (.int x1), .val (.int x2), .val (.int x3), .val (.int x4), .val (.int (1 : Int32)), .val (.ref b3), .val (.ref sb33), .val (.ref rb37), .val (.int stt), .val (.int enn), .unset] [(.int stt), (.int enn)])) _
      refine XS.isub X69.here hx rfl (hb hby at_246) rfl ?_
      show Steps p.tables e below (T69.setTop (mkF m 247 #[.val (.int x0), .val (.int x1), .val (.int x2), .val (.int x3), .val (.int x4), .val (.int (1 : Int32)), .val (.ref b3), .val (.ref sb33), .val (.ref rb37), .val (.int stt), .val (.int enn), .unset] [(.int (enn - stt))])) _
      refine XS.istore X69.here hx rfl (hb hby at_247) rfl (l' := #[.val (.int x0), .val (.int x1), .val (.int x2), .val (.int x3), .val (.int x4), .val (.int (1 : Int32)), .val (.ref b3), .val (.ref sb33), .val (.ref rb37), .val (.int stt), .val (.int enn), .val (.int (enn - stt))]) rfl ?_
      show Steps p.tables e below (T69.setTop (mkF m 249 #[.val (.int x0), .val (.int x1), .val (.int x2), .val (.int x3), .val (.int x4), .val (.int (1 : Int32)), .val (.ref b3), .val (.ref sb33), .val (.ref rb37), .val (.int stt), .val (.int enn), .val (.int (enn - stt))] [])) _
      exact kgo
    obtain ⟨len, hlen⟩ : ∃ z, z = (enn - stt) := ⟨_, rfl⟩
    have pre74 : ∀ tgt, Steps p.tables e below (T69.setTop (mkF m 249 #[.val (.int x0), .val (.int x1), .val (.int x2), .val (.int x3), .val (.int x4), .val (.int (1 : Int32)), .val (.ref b3), .val (.ref sb33), .val (.ref rb37), .val (.int stt), .val (.int enn), .val (.int len)] [])) tgt → Steps p.tables e below (s₁.setTop (entryFrame m #[(.int x0), (.int x1), (.int x2), (.int x3), (.int x4)] maxLocals)) tgt := by
      rw [hlen]; exact pre73
    obtain ⟨hs1, hs2⟩ := own_fin1 hSk hstt henn
    have hlen' : len = Int32.ofNat (List.length ((List.drop i1 (mkl nv (nar .char (pkc x1)) (nar .char (pkc x2)) (nar .char (pkc x3)) (nar .char (pkc x4)))).take (j2 - i1))) := own_lenk (by rw [hq]; exact hSk) hs1 hs2 hlen (own_mkl _ _ _ _ _)
    obtain ⟨cq75, kq75, q75a, q75b, q75c⟩ := isOf hZ37 e69 sES
    obtain ⟨_, _, ⟨T75, L75, k75, n75⟩, -, X75, ⟨Lc75, hQ75, l75, y75, z75⟩, st75⟩ := X69.virtualBack hx (y := (⟨"java/lang/String", "length", "()I"⟩ : MethodName)) (z := (⟨"java/lang/String", "length", "()I"⟩ : MethodName)) hown37 (mvT hZ37 (ow59 hw)) (mvT hZ37 (ow35 hw)) (notFace_of_selects (args := #[]) (mvT hZ37 (ow37 hw))) (mvT hZ37 (ow37 hw)) (mvT hZ37 (ow36 hw)) (by decide) (StrChars.Road.lenW (W := 0) hZ37 (own_wlen hw) (kI := 4) (ow10 hw) (cs := ((List.drop i1 (mkl nv (nar .char (pkc x1)) (nar .char (pkc x2)) (nar .char (pkc x3)) (nar .char (pkc x4)))).take (j2 - i1))) sES sVS sCS sAS (StrChars.Road.codOf rfl (fun c hc => (spS c hc).2)) (own_up _ spS) (O2.ext O41.2) P5 slS (by decide) (by decide)) q75a q75c (g := (mkF m 256 #[.val (.int x0), .val (.int x1), .val (.int x2), .val (.int x3), .val (.int x4), .val (.int (1 : Int32)), .val (.ref b3), .val (.ref sb33), .val (.ref rb37), .val (.int stt), .val (.int enn), .val (.int len)] [(.ref rb37)])) rfl (by rw [hml]; rfl) (Steps.refl _) (argsL := []) (rest := []) (lenOf pd7 rfl) rfl (by show 2 * 0 + _ ≤ _; exact Nat.le_of_eq rfl) (hb hby at_256) (fun _ _ => ⟨rfl, e69, (by decide : 9 + 0 ≤ _), (by decide : 24 + 0 ≤ _)⟩)
    dsimp only [Pt.U, Pt.locs, Pt.cells, Pt.slots] at X75 l75 y75 z75 st75 hQ75
    subst l75 y75 z75
    obtain ⟨rfl, hL75, eq75⟩ := hQ75
    have Nq75 := own_frn hL75 n0
    have N76 := Fr.app N69 Nq75
    obtain ⟨_, _, ⟨T77, L77, k77, n77⟩, -, X77, ⟨Lc77, hQ77, l77, y77, z77⟩, st77⟩ := Jvm.LawKit.callS X75 hx (y := (⟨"com/example/redress/redress/definition/StatementStripBlanksPinLaw", "at", "(Ljava/lang/String;I[CII)Z"⟩ : MethodName)) hown37 (mvT hZ37 (ow60 hw)) (mvT hZ37 (ow61 hw)) (mvT hZ37 (ow4 hw)) (mvT hZ37 (ow62 hw)) (by decide) (backOf (W := 0) (rmat l Z a0 hw [] rb37 (0 : Int32) b3 stt len ((List.drop i1 (mkl nv (nar .char (pkc x1)) (nar .char (pkc x2)) (nar .char (pkc x3)) (nar .char (pkc x4)))).take (j2 - i1)) k3 (nar .char (pkc x1)) (nar .char (pkc x2)) (nar .char (pkc x3)) (nar .char (pkc x4)) 0 i1 G1 fm T37.heap n0 O41 O2 P5 O4 rf ⟨sES, sCS, spS, slS, tS, skS, sVS, sAS⟩ (own_rs _ _ (own_mkl _ _ _ _ _)) f57 rfl (by decide) hlen' hs1 (own_atp (by rw [hq]; exact hSk) 0)) hZ37 (ow62 hw) (ow4 hw) (by decide) (by decide)) (g := (mkF m 273 #[.val (.int x0), .val (.int x1), .val (.int x2), .val (.int x3), .val (.int x4), .val (.int (1 : Int32)), .val (.ref b3), .val (.ref sb33), .val (.ref rb37), .val (.int stt), .val (.int enn), .val (.int len)] [(.int len), (.int stt), (.ref b3), (.int (0 : Int32)), (.ref rb37)])) rfl (by rw [hml]; rfl) (argsL := [(.ref rb37), (.int (0 : Int32)), (.ref b3), (.int stt), (.int len)]) (rest := []) (lenOf pd16 rfl) rfl (by show 2 * 0 + _ ≤ _; exact Nat.le_of_eq rfl) (hb hby at_273) (fun _ _ => ⟨rfl, eq75, (by decide : 9 + 0 ≤ _), (by decide : 24 + 0 ≤ _)⟩)
    dsimp only [Pt.U, Pt.locs, Pt.cells, Pt.slots] at X77 l77 y77 z77 st77 hQ77
    subst l77 y77 z77
    obtain ⟨rfl, Nq77, eq77⟩ := hQ77
    have N78 := Fr.app N76 Nq77
    obtain ⟨_, _, ⟨T79, L79, k79, n79⟩, -, X79, ⟨Lc79, hQ79, l79, y79, z79⟩, st79⟩ := Jvm.LawKit.callS X77 hx (y := (⟨"com/example/redress/redress/definition/StatementStripBlanksPinLaw", "at", "(Ljava/lang/String;I[CII)Z"⟩ : MethodName)) hown37 (mvT hZ37 (ow60 hw)) (mvT hZ37 (ow61 hw)) (mvT hZ37 (ow4 hw)) (mvT hZ37 (ow62 hw)) (by decide) (backOf (W := 0) (rmat l Z a0 hw [] rb37 (1 : Int32) b3 stt len ((List.drop i1 (mkl nv (nar .char (pkc x1)) (nar .char (pkc x2)) (nar .char (pkc x3)) (nar .char (pkc x4)))).take (j2 - i1)) k3 (nar .char (pkc x1)) (nar .char (pkc x2)) (nar .char (pkc x3)) (nar .char (pkc x4)) 1 i1 G1 fm T37.heap n0 O41 O2 P5 O4 rf ⟨sES, sCS, spS, slS, tS, skS, sVS, sAS⟩ (own_rs _ _ (own_mkl _ _ _ _ _)) f57 rfl (by decide) hlen' hs1 (own_atp (by rw [hq]; exact hSk) 1)) hZ37 (ow62 hw) (ow4 hw) (by decide) (by decide)) (g := (mkF m 288 #[.val (.int x0), .val (.int x1), .val (.int x2), .val (.int x3), .val (.int x4), .val (.int (1 : Int32)), .val (.ref b3), .val (.ref sb33), .val (.ref rb37), .val (.int stt), .val (.int enn), .val (.int len)] [(.int len), (.int stt), (.ref b3), (.int (1 : Int32)), (.ref rb37)])) rfl (by rw [hml]; rfl) (argsL := [(.ref rb37), (.int (1 : Int32)), (.ref b3), (.int stt), (.int len)]) (rest := []) (lenOf pd16 rfl) rfl (by show 2 * 0 + _ ≤ _; exact Nat.le_of_eq rfl) (hb hby at_288) (fun _ _ => ⟨rfl, eq77, (by decide : 9 + 0 ≤ _), (by decide : 24 + 0 ≤ _)⟩)
    dsimp only [Pt.U, Pt.locs, Pt.cells, Pt.slots] at X79 l79 y79 z79 st79 hQ79
    subst l79 y79 z79
    obtain ⟨rfl, Nq79, eq79⟩ := hQ79
    have N80 := Fr.app N78 Nq79
    obtain ⟨_, _, ⟨T81, L81, k81, n81⟩, -, X81, ⟨Lc81, hQ81, l81, y81, z81⟩, st81⟩ := Jvm.LawKit.callS X79 hx (y := (⟨"com/example/redress/redress/definition/StatementStripBlanksPinLaw", "at", "(Ljava/lang/String;I[CII)Z"⟩ : MethodName)) hown37 (mvT hZ37 (ow60 hw)) (mvT hZ37 (ow61 hw)) (mvT hZ37 (ow4 hw)) (mvT hZ37 (ow62 hw)) (by decide) (backOf (W := 0) (rmat l Z a0 hw [] rb37 (2 : Int32) b3 stt len ((List.drop i1 (mkl nv (nar .char (pkc x1)) (nar .char (pkc x2)) (nar .char (pkc x3)) (nar .char (pkc x4)))).take (j2 - i1)) k3 (nar .char (pkc x1)) (nar .char (pkc x2)) (nar .char (pkc x3)) (nar .char (pkc x4)) 2 i1 G1 fm T37.heap n0 O41 O2 P5 O4 rf ⟨sES, sCS, spS, slS, tS, skS, sVS, sAS⟩ (own_rs _ _ (own_mkl _ _ _ _ _)) f57 rfl (by decide) hlen' hs1 (own_atp (by rw [hq]; exact hSk) 2)) hZ37 (ow62 hw) (ow4 hw) (by decide) (by decide)) (g := (mkF m 303 #[.val (.int x0), .val (.int x1), .val (.int x2), .val (.int x3), .val (.int x4), .val (.int (1 : Int32)), .val (.ref b3), .val (.ref sb33), .val (.ref rb37), .val (.int stt), .val (.int enn), .val (.int len)] [(.int len), (.int stt), (.ref b3), (.int (2 : Int32)), (.ref rb37)])) rfl (by rw [hml]; rfl) (argsL := [(.ref rb37), (.int (2 : Int32)), (.ref b3), (.int stt), (.int len)]) (rest := []) (lenOf pd16 rfl) rfl (by show 2 * 0 + _ ≤ _; exact Nat.le_of_eq rfl) (hb hby at_303) (fun _ _ => ⟨rfl, eq79, (by decide : 9 + 0 ≤ _), (by decide : 24 + 0 ≤ _)⟩)
    dsimp only [Pt.U, Pt.locs, Pt.cells, Pt.slots] at X81 l81 y81 z81 st81 hQ81
    subst l81 y81 z81
    obtain ⟨rfl, Nq81, eq81⟩ := hQ81
    have N82 := Fr.app N80 Nq81
    obtain ⟨_, _, ⟨T83, L83, k83, n83⟩, -, X83, ⟨Lc83, hQ83, l83, y83, z83⟩, st83⟩ := Jvm.LawKit.callS X81 hx (y := (⟨"com/example/redress/redress/definition/StatementStripBlanksPinLaw", "at", "(Ljava/lang/String;I[CII)Z"⟩ : MethodName)) hown37 (mvT hZ37 (ow60 hw)) (mvT hZ37 (ow61 hw)) (mvT hZ37 (ow4 hw)) (mvT hZ37 (ow62 hw)) (by decide) (backOf (W := 0) (rmat l Z a0 hw [] rb37 (3 : Int32) b3 stt len ((List.drop i1 (mkl nv (nar .char (pkc x1)) (nar .char (pkc x2)) (nar .char (pkc x3)) (nar .char (pkc x4)))).take (j2 - i1)) k3 (nar .char (pkc x1)) (nar .char (pkc x2)) (nar .char (pkc x3)) (nar .char (pkc x4)) 3 i1 G1 fm T37.heap n0 O41 O2 P5 O4 rf ⟨sES, sCS, spS, slS, tS, skS, sVS, sAS⟩ (own_rs _ _ (own_mkl _ _ _ _ _)) f57 rfl (by decide) hlen' hs1 (own_atp (by rw [hq]; exact hSk) 3)) hZ37 (ow62 hw) (ow4 hw) (by decide) (by decide)) (g := (mkF m 318 #[.val (.int x0), .val (.int x1), .val (.int x2), .val (.int x3), .val (.int x4), .val (.int (1 : Int32)), .val (.ref b3), .val (.ref sb33), .val (.ref rb37), .val (.int stt), .val (.int enn), .val (.int len)] [(.int len), (.int stt), (.ref b3), (.int (3 : Int32)), (.ref rb37)])) rfl (by rw [hml]; rfl) (argsL := [(.ref rb37), (.int (3 : Int32)), (.ref b3), (.int stt), (.int len)]) (rest := []) (lenOf pd16 rfl) rfl (by show 2 * 0 + _ ≤ _; exact Nat.le_of_eq rfl) (hb hby at_318) (fun _ _ => ⟨rfl, eq81, (by decide : 9 + 0 ≤ _), (by decide : 24 + 0 ≤ _)⟩)
    dsimp only [Pt.U, Pt.locs, Pt.cells, Pt.slots] at X83 l83 y83 z83 st83 hQ83
    subst l83 y83 z83
    obtain ⟨rfl, Nq83, eq83⟩ := hQ83
    have N84 := Fr.app N82 Nq83
    obtain ⟨fs, hretL, hrun, hended, hEnd⟩ := Stand.leaveW X83 hS37 (by rw [eq83]; exact hk37) (v := some (.int (1 : Int32))) (fun h => by rw [Bd.returns] at h; cases h)
    have hCf : CHr Z EL0 s.vm s.heap T83.vm T83.heap := by rw [hh, eq83]; exact CH40.trans (CHv.at X83 hZ37 (own_EW hw) CH40.1)
    refine ⟨_, _, pre74 _ ?_, hrun, hended, _, _, rfl, ?_, hCf, hEnd.1, hEnd.2.1, hEnd.2.2.1, hEnd.2.2.2.mono (by decide) (by decide)⟩
    · refine XS.aload X69.here hx rfl (hb hby at_249) rfl rfl ?_
      show Steps p.tables e below (T69.setTop (mkF m 251 #[.val (.int x0), .val (.int x1), .val (.int x2), .val (.int x3), .val (.int x4), .val (.int (1 : Int32)), .val (.ref b3), .val (.ref sb33), .val (.ref rb37), .val (.int stt), .val (.int enn), .val (.int len)] [(.ref rb37)])) _
      refine XS.ifnullNo X69.here hx rfl (hb hby at_251) rfl ?_
      show Steps p.tables e below (T69.setTop (mkF m 254 #[.val (.int x0), .val (.int x1), .val (.int x2), .val (.int x3), .val (.int x4), .val (.int (1 : Int32)), .val (.ref b3), .val (.ref sb33), .val (.ref rb37), .val (.int stt), .val (.int enn), .val (.int len)] [])) _
      refine XS.aload X69.here hx rfl (hb hby at_254) rfl rfl ?_
      show Steps p.tables e below (T69.setTop (mkF m 256 #[.val (.int x0), .val (.int x1), .val (.int x2), .val (.int x3), .val (.int x4), .val (.int (1 : Int32)), .val (.ref b3), .val (.ref sb33), .val (.ref rb37), .val (.int stt), .val (.int enn), .val (.int len)] [(.ref rb37)])) _
      refine st75.trans ?_
      show Steps p.tables e below (T75.setTop (mkF m 259 #[.val (.int x0), .val (.int x1), .val (.int x2), .val (.int x3), .val (.int x4), .val (.int (1 : Int32)), .val (.ref b3), .val (.ref sb33), .val (.ref rb37), .val (.int stt), .val (.int enn), .val (.int len)] [(.int (Int32.ofNat (List.length ((List.drop i1 (mkl nv (nar .char (pkc x1)) (nar .char (pkc x2)) (nar .char (pkc x3)) (nar .char (pkc x4)))).take (j2 - i1)))))])) _
      refine XS.iload X75.here hx rfl (hb hby at_259) rfl ?_
      show Steps p.tables e below (T75.setTop (mkF m 261 #[.val (.int x0), .val (.int x1), .val (.int x2), .val (.int x3), .val (.int x4), .val (.int (1 : Int32)), .val (.ref b3), .val (.ref sb33), .val (.ref rb37), .val (.int stt), .val (.int enn), .val (.int len)] [(.int len), (.int (Int32.ofNat (List.length ((List.drop i1 (mkl nv (nar .char (pkc x1)) (nar .char (pkc x2)) (nar .char (pkc x3)) (nar .char (pkc x4)))).take (j2 - i1)))))])) _
      refine XS.icmpNo X75.here hx rfl (hb hby at_261) rfl (teq hlen'.symm).2 ?_
      show Steps p.tables e below (T75.setTop (mkF m 264 #[.val (.int x0), .val (.int x1), .val (.int x2), .val (.int x3), .val (.int x4), .val (.int (1 : Int32)), .val (.ref b3), .val (.ref sb33), .val (.ref rb37), .val (.int stt), .val (.int enn), .val (.int len)] [])) _
      refine XS.aload X75.here hx rfl (hb hby at_264) rfl rfl ?_
      show Steps p.tables e below (T75.setTop (mkF m 266 #[.val (.int x0), .val (.int x1), .val (.int x2), .val (.int x3), .val (.int x4), .val (.int (1 : Int32)), .val (.ref b3), .val (.ref sb33), .val (.ref rb37), .val (.int stt), .val (.int enn), .val (.int len)] [(.ref rb37)])) _
      refine XS.iconst X75.here hx rfl (hb hby at_266) ?_
      show Steps p.tables e below (T75.setTop (mkF m 267 #[.val (.int x0), .val (.int x1), .val (.int x2), .val (.int x3), .val (.int x4), .val (.int (1 : Int32)), .val (.ref b3), .val (.ref sb33), .val (.ref rb37), .val (.int stt), .val (.int enn), .val (.int len)] [(.int (0 : Int32)), (.ref rb37)])) _
      refine XS.aload X75.here hx rfl (hb hby at_267) rfl rfl ?_
      show Steps p.tables e below (T75.setTop (mkF m 269 #[.val (.int x0), .val (.int x1), .val (.int x2), .val (.int x3), .val (.int x4), .val (.int (1 : Int32)), .val (.ref b3), .val (.ref sb33), .val (.ref rb37), .val (.int stt), .val (.int enn), .val (.int len)] [(.ref b3), (.int (0 : Int32)), (.ref rb37)])) _
      refine XS.iload X75.here hx rfl (hb hby at_269) rfl ?_
      show Steps p.tables e below (T75.setTop (mkF m 271 #[.val (.int x0), .val (.int x1), .val (.int x2), .val (.int x3), .val (.int x4), .val (.int (1 : Int32)), .val (.ref b3), .val (.ref sb33), .val (.ref rb37), .val (.int stt), .val (.int enn), .val (.int len)] [(.int stt), (.ref b3), (.int (0 : Int32)), (.ref rb37)])) _
      refine XS.iload X75.here hx rfl (hb hby at_271) rfl ?_
      show Steps p.tables e below (T75.setTop (mkF m 273 #[.val (.int x0), .val (.int x1), .val (.int x2), .val (.int x3), .val (.int x4), .val (.int (1 : Int32)), .val (.ref b3), .val (.ref sb33), .val (.ref rb37), .val (.int stt), .val (.int enn), .val (.int len)] [(.int len), (.int stt), (.ref b3), (.int (0 : Int32)), (.ref rb37)])) _
      refine st77 _ ?_
      show Steps p.tables e below (T77.setTop (mkF m 276 #[.val (.int x0), .val (.int x1), .val (.int x2), .val (.int x3), .val (.int x4), .val (.int (1 : Int32)), .val (.ref b3), .val (.ref sb33), .val (.ref rb37), .val (.int stt), .val (.int enn), .val (.int len)] [(.int (1 : Int32))])) _
      refine XS.ifNo X77.here hx rfl (hb hby at_276) rfl ((if0 _ _).trans (feq (by decide : ¬ ((1 : Int32) = (0 : Int32)))).1) ?_
      show Steps p.tables e below (T77.setTop (mkF m 279 #[.val (.int x0), .val (.int x1), .val (.int x2), .val (.int x3), .val (.int x4), .val (.int (1 : Int32)), .val (.ref b3), .val (.ref sb33), .val (.ref rb37), .val (.int stt), .val (.int enn), .val (.int len)] [])) _
      refine XS.aload X77.here hx rfl (hb hby at_279) rfl rfl ?_
      show Steps p.tables e below (T77.setTop (mkF m 281 #[.val (.int x0), .val (.int x1), .val (.int x2), .val (.int x3), .val (.int x4), .val (.int (1 : Int32)), .val (.ref b3), .val (.ref sb33), .val (.ref rb37), .val (.int stt), .val (.int enn), .val (.int len)] [(.ref rb37)])) _
      refine XS.iconst X77.here hx rfl (hb hby at_281) ?_
      show Steps p.tables e below (T77.setTop (mkF m 282 #[.val (.int x0), .val (.int x1), .val (.int x2), .val (.int x3), .val (.int x4), .val (.int (1 : Int32)), .val (.ref b3), .val (.ref sb33), .val (.ref rb37), .val (.int stt), .val (.int enn), .val (.int len)] [(.int (1 : Int32)), (.ref rb37)])) _
      refine XS.aload X77.here hx rfl (hb hby at_282) rfl rfl ?_
      show Steps p.tables e below (T77.setTop (mkF m 284 #[.val (.int x0), .val (.int x1), .val (.int x2), .val (.int x3), .val (.int x4), .val (.int (1 : Int32)), .val (.ref b3), .val (.ref sb33), .val (.ref rb37), .val (.int stt), .val (.int enn), .val (.int len)] [(.ref b3), (.int (1 : Int32)), (.ref rb37)])) _
      refine XS.iload X77.here hx rfl (hb hby at_284) rfl ?_
      show Steps p.tables e below (T77.setTop (mkF m 286 #[.val (.int x0), .val (.int x1), .val (.int x2), .val (.int x3), .val (.int x4), .val (.int (1 : Int32)), .val (.ref b3), .val (.ref sb33), .val (.ref rb37), .val (.int stt), .val (.int enn), .val (.int len)] [(.int stt), (.ref b3), (.int (1 : Int32)), (.ref rb37)])) _
      refine XS.iload X77.here hx rfl (hb hby at_286) rfl ?_
      show Steps p.tables e below (T77.setTop (mkF m 288 #[.val (.int x0), .val (.int x1), .val (.int x2), .val (.int x3), .val (.int x4), .val (.int (1 : Int32)), .val (.ref b3), .val (.ref sb33), .val (.ref rb37), .val (.int stt), .val (.int enn), .val (.int len)] [(.int len), (.int stt), (.ref b3), (.int (1 : Int32)), (.ref rb37)])) _
      refine st79 _ ?_
      show Steps p.tables e below (T79.setTop (mkF m 291 #[.val (.int x0), .val (.int x1), .val (.int x2), .val (.int x3), .val (.int x4), .val (.int (1 : Int32)), .val (.ref b3), .val (.ref sb33), .val (.ref rb37), .val (.int stt), .val (.int enn), .val (.int len)] [(.int (1 : Int32))])) _
      refine XS.ifNo X79.here hx rfl (hb hby at_291) rfl ((if0 _ _).trans (feq (by decide : ¬ ((1 : Int32) = (0 : Int32)))).1) ?_
      show Steps p.tables e below (T79.setTop (mkF m 294 #[.val (.int x0), .val (.int x1), .val (.int x2), .val (.int x3), .val (.int x4), .val (.int (1 : Int32)), .val (.ref b3), .val (.ref sb33), .val (.ref rb37), .val (.int stt), .val (.int enn), .val (.int len)] [])) _
      refine XS.aload X79.here hx rfl (hb hby at_294) rfl rfl ?_
      show Steps p.tables e below (T79.setTop (mkF m 296 #[.val (.int x0), .val (.int x1), .val (.int x2), .val (.int x3), .val (.int x4), .val (.int (1 : Int32)), .val (.ref b3), .val (.ref sb33), .val (.ref rb37), .val (.int stt), .val (.int enn), .val (.int len)] [(.ref rb37)])) _
      refine XS.iconst X79.here hx rfl (hb hby at_296) ?_
      show Steps p.tables e below (T79.setTop (mkF m 297 #[.val (.int x0), .val (.int x1), .val (.int x2), .val (.int x3), .val (.int x4), .val (.int (1 : Int32)), .val (.ref b3), .val (.ref sb33), .val (.ref rb37), .val (.int stt), .val (.int enn), .val (.int len)] [(.int (2 : Int32)), (.ref rb37)])) _
      refine XS.aload X79.here hx rfl (hb hby at_297) rfl rfl ?_
      show Steps p.tables e below (T79.setTop (mkF m 299 #[.val (.int x0), .val (.int x1), .val (.int x2), .val (.int x3), .val (.int x4), .val (.int (1 : Int32)), .val (.ref b3), .val (.ref sb33), .val (.ref rb37), .val (.int stt), .val (.int enn), .val (.int len)] [(.ref b3), (.int (2 : Int32)), (.ref rb37)])) _
      refine XS.iload X79.here hx rfl (hb hby at_299) rfl ?_
      show Steps p.tables e below (T79.setTop (mkF m 301 #[.val (.int x0), .val (.int x1), .val (.int x2), .val (.int x3), .val (.int x4), .val (.int (1 : Int32)), .val (.ref b3), .val (.ref sb33), .val (.ref rb37), .val (.int stt), .val (.int enn), .val (.int len)] [(.int stt), (.ref b3), (.int (2 : Int32)), (.ref rb37)])) _
      refine XS.iload X79.here hx rfl (hb hby at_301) rfl ?_
      show Steps p.tables e below (T79.setTop (mkF m 303 #[.val (.int x0), .val (.int x1), .val (.int x2), .val (.int x3), .val (.int x4), .val (.int (1 : Int32)), .val (.ref b3), .val (.ref sb33), .val (.ref rb37), .val (.int stt), .val (.int enn), .val (.int len)] [(.int len), (.int stt), (.ref b3), (.int (2 : Int32)), (.ref rb37)])) _
      refine st81 _ ?_
      show Steps p.tables e below (T81.setTop (mkF m 306 #[.val (.int x0), .val (.int x1), .val (.int x2), .val (.int x3), .val (.int x4), .val (.int (1 : Int32)), .val (.ref b3), .val (.ref sb33), .val (.ref rb37), .val (.int stt), .val (.int enn), .val (.int len)] [(.int (1 : Int32))])) _
      refine XS.ifNo X81.here hx rfl (hb hby at_306) rfl ((if0 _ _).trans (feq (by decide : ¬ ((1 : Int32) = (0 : Int32)))).1) ?_
      show Steps p.tables e below (T81.setTop (mkF m 309 #[.val (.int x0), .val (.int x1), .val (.int x2), .val (.int x3), .val (.int x4), .val (.int (1 : Int32)), .val (.ref b3), .val (.ref sb33), .val (.ref rb37), .val (.int stt), .val (.int enn), .val (.int len)] [])) _
      refine XS.aload X81.here hx rfl (hb hby at_309) rfl rfl ?_
      show Steps p.tables e below (T81.setTop (mkF m 311 #[.val (.int x0), .val (.int x1), .val (.int x2), .val (.int x3), .val (.int x4), .val (.int (1 : Int32)), .val (.ref b3), .val (.ref sb33), .val (.ref rb37), .val (.int stt), .val (.int enn), .val (.int len)] [(.ref rb37)])) _
      refine XS.iconst X81.here hx rfl (hb hby at_311) ?_
      show Steps p.tables e below (T81.setTop (mkF m 312 #[.val (.int x0), .val (.int x1), .val (.int x2), .val (.int x3), .val (.int x4), .val (.int (1 : Int32)), .val (.ref b3), .val (.ref sb33), .val (.ref rb37), .val (.int stt), .val (.int enn), .val (.int len)] [(.int (3 : Int32)), (.ref rb37)])) _
      refine XS.aload X81.here hx rfl (hb hby at_312) rfl rfl ?_
      show Steps p.tables e below (T81.setTop (mkF m 314 #[.val (.int x0), .val (.int x1), .val (.int x2), .val (.int x3), .val (.int x4), .val (.int (1 : Int32)), .val (.ref b3), .val (.ref sb33), .val (.ref rb37), .val (.int stt), .val (.int enn), .val (.int len)] [(.ref b3), (.int (3 : Int32)), (.ref rb37)])) _
      refine XS.iload X81.here hx rfl (hb hby at_314) rfl ?_
      show Steps p.tables e below (T81.setTop (mkF m 316 #[.val (.int x0), .val (.int x1), .val (.int x2), .val (.int x3), .val (.int x4), .val (.int (1 : Int32)), .val (.ref b3), .val (.ref sb33), .val (.ref rb37), .val (.int stt), .val (.int enn), .val (.int len)] [(.int stt), (.ref b3), (.int (3 : Int32)), (.ref rb37)])) _
      refine XS.iload X81.here hx rfl (hb hby at_316) rfl ?_
      show Steps p.tables e below (T81.setTop (mkF m 318 #[.val (.int x0), .val (.int x1), .val (.int x2), .val (.int x3), .val (.int x4), .val (.int (1 : Int32)), .val (.ref b3), .val (.ref sb33), .val (.ref rb37), .val (.int stt), .val (.int enn), .val (.int len)] [(.int len), (.int stt), (.ref b3), (.int (3 : Int32)), (.ref rb37)])) _
      refine st83 _ ?_
      show Steps p.tables e below (T83.setTop (mkF m 321 #[.val (.int x0), .val (.int x1), .val (.int x2), .val (.int x3), .val (.int x4), .val (.int (1 : Int32)), .val (.ref b3), .val (.ref sb33), .val (.ref rb37), .val (.int stt), .val (.int enn), .val (.int len)] [(.int (1 : Int32))])) _
      refine XS.ifNo X83.here hx rfl (hb hby at_321) rfl ((if0 _ _).trans (feq (by decide : ¬ ((1 : Int32) = (0 : Int32)))).1) ?_
      show Steps p.tables e below (T83.setTop (mkF m 324 #[.val (.int x0), .val (.int x1), .val (.int x2), .val (.int x3), .val (.int x4), .val (.int (1 : Int32)), .val (.ref b3), .val (.ref sb33), .val (.ref rb37), .val (.int stt), .val (.int enn), .val (.int len)] [])) _
      refine XS.iconst X83.here hx rfl (hb hby at_324) ?_
      show Steps p.tables e below (T83.setTop (mkF m 325 #[.val (.int x0), .val (.int x1), .val (.int x2), .val (.int x3), .val (.int x4), .val (.int (1 : Int32)), .val (.ref b3), .val (.ref sb33), .val (.ref rb37), .val (.int stt), .val (.int enn), .val (.int len)] [(.int (1 : Int32))])) _
      refine XS.goto X83.here hx rfl (pc0 := 325) (pc' := 329) rfl (hb hby at_325) (by decide) (by decide) ?_
      show Steps p.tables e below (T83.setTop (mkF m 329 #[.val (.int x0), .val (.int x1), .val (.int x2), .val (.int x3), .val (.int x4), .val (.int (1 : Int32)), .val (.ref b3), .val (.ref sb33), .val (.ref rb37), .val (.int stt), .val (.int enn), .val (.int len)] [(.int (1 : Int32))])) _
      exact retOut X83 hx Bd.returns rfl (Or.inl ⟨rfl, Or.inr (Or.inl rfl), _, rfl⟩) (hb hby at_329) hretL
    · show Q_rm0 Z x0 x1 x2 x3 x4 G1 fm h0 n0 _ T83.heap _
      rw [eq83]
      exact ⟨rfl, N84⟩
  · have pre85 : ∀ tgt, Steps p.tables e below (T37.setTop (mkF m 58 #[.val (.int x0), .val (.int x1), .val (.int x2), .val (.int x3), .val (.int x4), .val (.int (2 : Int32)), .val (.ref b3), .val (.ref sb33), .val (.ref rb37), .unset, .unset, .unset] [])) tgt → Steps p.tables e below (s₁.setTop (entryFrame m #[(.int x0), (.int x1), (.int x2), (.int x3), (.int x4)] maxLocals)) tgt := by
      have q := pre42
      rw [hq] at q
      exact q
    have hSk : SB [(nar .char (pkc x1)), (nar .char (pkc x2))] i1 j2 := by have q := hSB; rw [hq] at q; exact q
    have f87 := (f39.keep kp37 nin0)
    obtain ⟨cl86, Ar86, q86, S86, M86, H86, G86⟩ := id f87
    have hin86 : ¬ ((0 : Int32) < 0 ∨ cl86.slots.size ≤ ((0 : Int32)).toNatClampNeg) := inb_of S86 ⟨by decide, by decide⟩
    have hat86 : cl86.slots[((0 : Int32)).toNatClampNeg]? = some (.int (nar .char (pkc x1))) := H86.at hin86 rfl
    obtain ⟨_, _, ⟨T88, L88, k88, n88⟩, -, X88, ⟨Lc88, hQ88, l88, y88, z88⟩, st88⟩ := Jvm.LawKit.callS X37 hx (y := (⟨"com/example/redress/redress/definition/StatementStripBlanksPinLaw", "blank", "(C)Z"⟩ : MethodName)) hown37 (mvT hZ37 (ow121 hw)) (mvT hZ37 (ow122 hw)) (mvT hZ37 (ow4 hw)) (mvT hZ37 (ow123 hw)) (by decide) (backOf (W := 0) (rmbl l Z a0 hw [] (nar .char (pkc x1))  T37.heap n0 O41 ) hZ37 (ow123 hw) (ow4 hw) (by decide) (by decide)) (g := (mkF m 68 #[.val (.int x0), .val (.int x1), .val (.int x2), .val (.int x3), .val (.int x4), .val (.int (2 : Int32)), .val (.ref b3), .val (.ref sb33), .val (.ref rb37), .unset, .unset, .unset] [(.int (nar .char (pkc x1)))])) rfl (by rw [hml]; rfl) (argsL := [(.int (nar .char (pkc x1)))]) (rest := []) (lenOf pd12 rfl) rfl (by show 2 * 0 + _ ≤ _; exact Nat.le_of_eq rfl) (hb hby at_68) (fun _ _ => ⟨rfl, rfl, (by decide : 9 + 0 ≤ _), (by decide : 24 + 0 ≤ _)⟩)
    dsimp only [Pt.U, Pt.locs, Pt.cells, Pt.slots] at X88 l88 y88 z88 st88 hQ88
    subst l88 y88 z88
    obtain ⟨rfl, Nq88, eq88⟩ := hQ88
    have N89 := Fr.app N38 Nq88
    have pre90 : ∀ tgt, Steps p.tables e below (T88.setTop (mkF m 71 #[.val (.int x0), .val (.int x1), .val (.int x2), .val (.int x3), .val (.int x4), .val (.int (2 : Int32)), .val (.ref b3), .val (.ref sb33), .val (.ref rb37), .unset, .unset, .unset] [(.int (bl (nar .char (pkc x1))))])) tgt → Steps p.tables e below (s₁.setTop (entryFrame m #[(.int x0), (.int x1), (.int x2), (.int x3), (.int x4)] maxLocals)) tgt := by
      intro tgt kgo
      refine pre85 _ ?_
      refine XS.iconst X37.here hx rfl (hb hby at_58) ?_
      show Steps p.tables e below (T37.setTop (mkF m 59 #[.val (.int x0), .val (.int x1), .val (.int x2), .val (.int x3), .val (.int x4), .val (.int (2 : Int32)), .val (.ref b3), .val (.ref sb33), .val (.ref rb37), .unset, .unset, .unset] [(.int (0 : Int32))])) _
      refine XS.iload X37.here hx rfl (hb hby at_59) rfl ?_
      show Steps p.tables e below (T37.setTop (mkF m 61 #[.val (.int x0), .val (.int x1), .val (.int x2), .val (.int x3), .val (.int x4), .val (.int (2 : Int32)), .val (.ref b3), .val (.ref sb33), .val (.ref rb37), .unset, .unset, .unset] [(.int (2 : Int32)), (.int (0 : Int32))])) _
      refine XS.icmpNo X37.here hx rfl (hb hby at_61) rfl (tlt (by decide : (0 : Int32) < (2 : Int32))).2.1 ?_
      show Steps p.tables e below (T37.setTop (mkF m 64 #[.val (.int x0), .val (.int x1), .val (.int x2), .val (.int x3), .val (.int x4), .val (.int (2 : Int32)), .val (.ref b3), .val (.ref sb33), .val (.ref rb37), .unset, .unset, .unset] [])) _
      refine XS.aload X37.here hx rfl (hb hby at_64) rfl rfl ?_
      show Steps p.tables e below (T37.setTop (mkF m 66 #[.val (.int x0), .val (.int x1), .val (.int x2), .val (.int x3), .val (.int x4), .val (.int (2 : Int32)), .val (.ref b3), .val (.ref sb33), .val (.ref rb37), .unset, .unset, .unset] [(.ref b3)])) _
      refine XS.iconst X37.here hx rfl (hb hby at_66) ?_
      show Steps p.tables e below (T37.setTop (mkF m 67 #[.val (.int x0), .val (.int x1), .val (.int x2), .val (.int x3), .val (.int x4), .val (.int (2 : Int32)), .val (.ref b3), .val (.ref sb33), .val (.ref rb37), .unset, .unset, .unset] [(.int (0 : Int32)), (.ref b3)])) _
      refine X37.caload hx (j := (0 : Int32)) (v := (.int (nar .char (pkc x1)))) Ar86.1 (State.isArrayOf_alike hZ37.alike Ar86.2.1) Ar86.2.2 hin86 hat86 (g := (mkF m 67 #[.val (.int x0), .val (.int x1), .val (.int x2), .val (.int x3), .val (.int x4), .val (.int (2 : Int32)), .val (.ref b3), .val (.ref sb33), .val (.ref rb37), .unset, .unset, .unset] [(.int (0 : Int32)), (.ref b3)])) rfl rfl (hb hby at_67) _ ?_
      show Steps p.tables e below (T37.setTop (mkF m 68 #[.val (.int x0), .val (.int x1), .val (.int x2), .val (.int x3), .val (.int x4), .val (.int (2 : Int32)), .val (.ref b3), .val (.ref sb33), .val (.ref rb37), .unset, .unset, .unset] [(.int (nar .char (pkc x1)))])) _
      refine st88 _ ?_
      show Steps p.tables e below (T88.setTop (mkF m 71 #[.val (.int x0), .val (.int x1), .val (.int x2), .val (.int x3), .val (.int x4), .val (.int (2 : Int32)), .val (.ref b3), .val (.ref sb33), .val (.ref rb37), .unset, .unset, .unset] [(.int (bl (nar .char (pkc x1))))])) _
      exact kgo
    obtain ⟨T91, lo91, stt, X91, e91, N91, hstt, pre91⟩ : ∃ (T' : State) (lo91 : List Loc) (stt : Int32), Stand p l e room_1 (s.setVm T37.vm) m #[(.int x0), (.int x1), (.int x2), (.int x3), (.int x4)] below meth c T' lo91 9 24 ∧ T'.heap = T37.heap ∧ Fr n0 lo91 ∧ stt = (if (bl (nar .char (pkc x1))) = (0 : Int32) then (0 : Int32) else (if (bl (nar .char (pkc x2))) = (0 : Int32) then (1 : Int32) else (2 : Int32))) ∧ ∀ tgt, Steps p.tables e below (T'.setTop (mkF m 150 #[.val (.int x0), .val (.int x1), .val (.int x2), .val (.int x3), .val (.int x4), .val (.int (2 : Int32)), .val (.ref b3), .val (.ref sb33), .val (.ref rb37), .val (.int stt), .unset, .unset] [])) tgt → Steps p.tables e below (s₁.setTop (entryFrame m #[(.int x0), (.int x1), (.int x2), (.int x3), (.int x4)] maxLocals)) tgt := by
      by_cases hc71_92 : (bl (nar .char (pkc x1))) = (0 : Int32)
      · have pre93 : ∀ tgt, Steps p.tables e below (T88.setTop (mkF m 150 #[.val (.int x0), .val (.int x1), .val (.int x2), .val (.int x3), .val (.int x4), .val (.int (2 : Int32)), .val (.ref b3), .val (.ref sb33), .val (.ref rb37), .val (.int (0 : Int32)), .unset, .unset] [])) tgt → Steps p.tables e below (s₁.setTop (entryFrame m #[(.int x0), (.int x1), (.int x2), (.int x3), (.int x4)] maxLocals)) tgt := by
          intro tgt kgo
          refine pre90 _ ?_
          refine XS.ifNo X88.here hx rfl (hb hby at_71) rfl ((if0 _ _).trans (teq hc71_92).2) ?_
          show Steps p.tables e below (T88.setTop (mkF m 74 #[.val (.int x0), .val (.int x1), .val (.int x2), .val (.int x3), .val (.int x4), .val (.int (2 : Int32)), .val (.ref b3), .val (.ref sb33), .val (.ref rb37), .unset, .unset, .unset] [])) _
          refine XS.iconst X88.here hx rfl (hb hby at_74) ?_
          show Steps p.tables e below (T88.setTop (mkF m 75 #[.val (.int x0), .val (.int x1), .val (.int x2), .val (.int x3), .val (.int x4), .val (.int (2 : Int32)), .val (.ref b3), .val (.ref sb33), .val (.ref rb37), .unset, .unset, .unset] [(.int (0 : Int32))])) _
          refine XS.istore X88.here hx rfl (hb hby at_75) rfl (l' := #[.val (.int x0), .val (.int x1), .val (.int x2), .val (.int x3), .val (.int x4), .val (.int (2 : Int32)), .val (.ref b3), .val (.ref sb33), .val (.ref rb37), .val (.int (0 : Int32)), .unset, .unset]) rfl ?_
          show Steps p.tables e below (T88.setTop (mkF m 77 #[.val (.int x0), .val (.int x1), .val (.int x2), .val (.int x3), .val (.int x4), .val (.int (2 : Int32)), .val (.ref b3), .val (.ref sb33), .val (.ref rb37), .val (.int (0 : Int32)), .unset, .unset] [])) _
          refine XS.goto X88.here hx rfl (pc0 := 77) (pc' := 150) rfl (hb hby at_77) (by decide) (by decide) ?_
          show Steps p.tables e below (T88.setTop (mkF m 150 #[.val (.int x0), .val (.int x1), .val (.int x2), .val (.int x3), .val (.int x4), .val (.int (2 : Int32)), .val (.ref b3), .val (.ref sb33), .val (.ref rb37), .val (.int (0 : Int32)), .unset, .unset] [])) _
          exact kgo
        exact ⟨T88, _, (0 : Int32), X88, eq88, N89, (by simp only [if_pos hc71_92]), pre93⟩
      · obtain ⟨cl94, Ar94, q94, S94, M94, H94, G94⟩ := id f87
        have hin94 : ¬ ((1 : Int32) < 0 ∨ cl94.slots.size ≤ ((1 : Int32)).toNatClampNeg) := inb_of S94 ⟨by decide, by decide⟩
        have hat94 : cl94.slots[((1 : Int32)).toNatClampNeg]? = some (.int (nar .char (pkc x2))) := H94.at hin94 rfl
        obtain ⟨_, _, ⟨T95, L95, k95, n95⟩, -, X95, ⟨Lc95, hQ95, l95, y95, z95⟩, st95⟩ := Jvm.LawKit.callS X88 hx (y := (⟨"com/example/redress/redress/definition/StatementStripBlanksPinLaw", "blank", "(C)Z"⟩ : MethodName)) hown37 (mvT hZ37 (ow121 hw)) (mvT hZ37 (ow122 hw)) (mvT hZ37 (ow4 hw)) (mvT hZ37 (ow123 hw)) (by decide) (backOf (W := 0) (rmbl l Z a0 hw [] (nar .char (pkc x2))  T37.heap n0 O41 ) hZ37 (ow123 hw) (ow4 hw) (by decide) (by decide)) (g := (mkF m 90 #[.val (.int x0), .val (.int x1), .val (.int x2), .val (.int x3), .val (.int x4), .val (.int (2 : Int32)), .val (.ref b3), .val (.ref sb33), .val (.ref rb37), .unset, .unset, .unset] [(.int (nar .char (pkc x2)))])) rfl (by rw [hml]; rfl) (argsL := [(.int (nar .char (pkc x2)))]) (rest := []) (lenOf pd12 rfl) rfl (by show 2 * 0 + _ ≤ _; exact Nat.le_of_eq rfl) (hb hby at_90) (fun _ _ => ⟨rfl, eq88, (by decide : 9 + 0 ≤ _), (by decide : 24 + 0 ≤ _)⟩)
        dsimp only [Pt.U, Pt.locs, Pt.cells, Pt.slots] at X95 l95 y95 z95 st95 hQ95
        subst l95 y95 z95
        obtain ⟨rfl, Nq95, eq95⟩ := hQ95
        have N96 := Fr.app N89 Nq95
        have pre97 : ∀ tgt, Steps p.tables e below (T95.setTop (mkF m 93 #[.val (.int x0), .val (.int x1), .val (.int x2), .val (.int x3), .val (.int x4), .val (.int (2 : Int32)), .val (.ref b3), .val (.ref sb33), .val (.ref rb37), .unset, .unset, .unset] [(.int (bl (nar .char (pkc x2))))])) tgt → Steps p.tables e below (s₁.setTop (entryFrame m #[(.int x0), (.int x1), (.int x2), (.int x3), (.int x4)] maxLocals)) tgt := by
          intro tgt kgo
          refine pre90 _ ?_
          refine XS.ifYes X88.here hx rfl (pc0 := 71) (pc' := 80) rfl (hb hby at_71) rfl ((if0 _ _).trans (feq hc71_92).2) (by decide) (by decide) ?_
          show Steps p.tables e below (T88.setTop (mkF m 80 #[.val (.int x0), .val (.int x1), .val (.int x2), .val (.int x3), .val (.int x4), .val (.int (2 : Int32)), .val (.ref b3), .val (.ref sb33), .val (.ref rb37), .unset, .unset, .unset] [])) _
          refine XS.iconst X88.here hx rfl (hb hby at_80) ?_
          show Steps p.tables e below (T88.setTop (mkF m 81 #[.val (.int x0), .val (.int x1), .val (.int x2), .val (.int x3), .val (.int x4), .val (.int (2 : Int32)), .val (.ref b3), .val (.ref sb33), .val (.ref rb37), .unset, .unset, .unset] [(.int (1 : Int32))])) _
          refine XS.iload X88.here hx rfl (hb hby at_81) rfl ?_
          show Steps p.tables e below (T88.setTop (mkF m 83 #[.val (.int x0), .val (.int x1), .val (.int x2), .val (.int x3), .val (.int x4), .val (.int (2 : Int32)), .val (.ref b3), .val (.ref sb33), .val (.ref rb37), .unset, .unset, .unset] [(.int (2 : Int32)), (.int (1 : Int32))])) _
          refine XS.icmpNo X88.here hx rfl (hb hby at_83) rfl (tlt (by decide : (1 : Int32) < (2 : Int32))).2.1 ?_
          show Steps p.tables e below (T88.setTop (mkF m 86 #[.val (.int x0), .val (.int x1), .val (.int x2), .val (.int x3), .val (.int x4), .val (.int (2 : Int32)), .val (.ref b3), .val (.ref sb33), .val (.ref rb37), .unset, .unset, .unset] [])) _
          refine XS.aload X88.here hx rfl (hb hby at_86) rfl rfl ?_
          show Steps p.tables e below (T88.setTop (mkF m 88 #[.val (.int x0), .val (.int x1), .val (.int x2), .val (.int x3), .val (.int x4), .val (.int (2 : Int32)), .val (.ref b3), .val (.ref sb33), .val (.ref rb37), .unset, .unset, .unset] [(.ref b3)])) _
          refine XS.iconst X88.here hx rfl (hb hby at_88) ?_
          show Steps p.tables e below (T88.setTop (mkF m 89 #[.val (.int x0), .val (.int x1), .val (.int x2), .val (.int x3), .val (.int x4), .val (.int (2 : Int32)), .val (.ref b3), .val (.ref sb33), .val (.ref rb37), .unset, .unset, .unset] [(.int (1 : Int32)), (.ref b3)])) _
          refine X88.caload hx (j := (1 : Int32)) (v := (.int (nar .char (pkc x2)))) (by rw [eq88]; exact Ar94.1) (State.isArrayOf_alike hZ37.alike Ar94.2.1) Ar94.2.2 hin94 hat94 (g := (mkF m 89 #[.val (.int x0), .val (.int x1), .val (.int x2), .val (.int x3), .val (.int x4), .val (.int (2 : Int32)), .val (.ref b3), .val (.ref sb33), .val (.ref rb37), .unset, .unset, .unset] [(.int (1 : Int32)), (.ref b3)])) rfl rfl (hb hby at_89) _ ?_
          show Steps p.tables e below (T88.setTop (mkF m 90 #[.val (.int x0), .val (.int x1), .val (.int x2), .val (.int x3), .val (.int x4), .val (.int (2 : Int32)), .val (.ref b3), .val (.ref sb33), .val (.ref rb37), .unset, .unset, .unset] [(.int (nar .char (pkc x2)))])) _
          refine st95 _ ?_
          show Steps p.tables e below (T95.setTop (mkF m 93 #[.val (.int x0), .val (.int x1), .val (.int x2), .val (.int x3), .val (.int x4), .val (.int (2 : Int32)), .val (.ref b3), .val (.ref sb33), .val (.ref rb37), .unset, .unset, .unset] [(.int (bl (nar .char (pkc x2))))])) _
          exact kgo
        by_cases hc93_98 : (bl (nar .char (pkc x2))) = (0 : Int32)
        · have pre99 : ∀ tgt, Steps p.tables e below (T95.setTop (mkF m 150 #[.val (.int x0), .val (.int x1), .val (.int x2), .val (.int x3), .val (.int x4), .val (.int (2 : Int32)), .val (.ref b3), .val (.ref sb33), .val (.ref rb37), .val (.int (1 : Int32)), .unset, .unset] [])) tgt → Steps p.tables e below (s₁.setTop (entryFrame m #[(.int x0), (.int x1), (.int x2), (.int x3), (.int x4)] maxLocals)) tgt := by
            intro tgt kgo
            refine pre97 _ ?_
            refine XS.ifNo X95.here hx rfl (hb hby at_93) rfl ((if0 _ _).trans (teq hc93_98).2) ?_
            show Steps p.tables e below (T95.setTop (mkF m 96 #[.val (.int x0), .val (.int x1), .val (.int x2), .val (.int x3), .val (.int x4), .val (.int (2 : Int32)), .val (.ref b3), .val (.ref sb33), .val (.ref rb37), .unset, .unset, .unset] [])) _
            refine XS.iconst X95.here hx rfl (hb hby at_96) ?_
            show Steps p.tables e below (T95.setTop (mkF m 97 #[.val (.int x0), .val (.int x1), .val (.int x2), .val (.int x3), .val (.int x4), .val (.int (2 : Int32)), .val (.ref b3), .val (.ref sb33), .val (.ref rb37), .unset, .unset, .unset] [(.int (1 : Int32))])) _
            refine XS.istore X95.here hx rfl (hb hby at_97) rfl (l' := #[.val (.int x0), .val (.int x1), .val (.int x2), .val (.int x3), .val (.int x4), .val (.int (2 : Int32)), .val (.ref b3), .val (.ref sb33), .val (.ref rb37), .val (.int (1 : Int32)), .unset, .unset]) rfl ?_
            show Steps p.tables e below (T95.setTop (mkF m 99 #[.val (.int x0), .val (.int x1), .val (.int x2), .val (.int x3), .val (.int x4), .val (.int (2 : Int32)), .val (.ref b3), .val (.ref sb33), .val (.ref rb37), .val (.int (1 : Int32)), .unset, .unset] [])) _
            refine XS.goto X95.here hx rfl (pc0 := 99) (pc' := 150) rfl (hb hby at_99) (by decide) (by decide) ?_
            show Steps p.tables e below (T95.setTop (mkF m 150 #[.val (.int x0), .val (.int x1), .val (.int x2), .val (.int x3), .val (.int x4), .val (.int (2 : Int32)), .val (.ref b3), .val (.ref sb33), .val (.ref rb37), .val (.int (1 : Int32)), .unset, .unset] [])) _
            exact kgo
          exact ⟨T95, _, (1 : Int32), X95, eq95, N96, (by simp only [if_neg hc71_92, if_pos hc93_98]), pre99⟩
        · have pre100 : ∀ tgt, Steps p.tables e below (T95.setTop (mkF m 150 #[.val (.int x0), .val (.int x1), .val (.int x2), .val (.int x3), .val (.int x4), .val (.int (2 : Int32)), .val (.ref b3), .val (.ref sb33), .val (.ref rb37), .val (.int (2 : Int32)), .unset, .unset] [])) tgt → Steps p.tables e below (s₁.setTop (entryFrame m #[(.int x0), (.int x1), (.int x2), (.int x3), (.int x4)] maxLocals)) tgt := by
            intro tgt kgo
            refine pre97 _ ?_
            refine XS.ifYes X95.here hx rfl (pc0 := 93) (pc' := 102) rfl (hb hby at_93) rfl ((if0 _ _).trans (feq hc93_98).2) (by decide) (by decide) ?_
            show Steps p.tables e below (T95.setTop (mkF m 102 #[.val (.int x0), .val (.int x1), .val (.int x2), .val (.int x3), .val (.int x4), .val (.int (2 : Int32)), .val (.ref b3), .val (.ref sb33), .val (.ref rb37), .unset, .unset, .unset] [])) _
            refine XS.iconst X95.here hx rfl (hb hby at_102) ?_
            show Steps p.tables e below (T95.setTop (mkF m 103 #[.val (.int x0), .val (.int x1), .val (.int x2), .val (.int x3), .val (.int x4), .val (.int (2 : Int32)), .val (.ref b3), .val (.ref sb33), .val (.ref rb37), .unset, .unset, .unset] [(.int (2 : Int32))])) _
            refine XS.iload X95.here hx rfl (hb hby at_103) rfl ?_
            show Steps p.tables e below (T95.setTop (mkF m 105 #[.val (.int x0), .val (.int x1), .val (.int x2), .val (.int x3), .val (.int x4), .val (.int (2 : Int32)), .val (.ref b3), .val (.ref sb33), .val (.ref rb37), .unset, .unset, .unset] [(.int (2 : Int32)), (.int (2 : Int32))])) _
            refine XS.icmpYes X95.here hx rfl (pc0 := 105) (pc' := 124) rfl (hb hby at_105) rfl (flt (by decide : ¬ ((2 : Int32) < (2 : Int32)))).2.1 (by decide) (by decide) ?_
            show Steps p.tables e below (T95.setTop (mkF m 124 #[.val (.int x0), .val (.int x1), .val (.int x2), .val (.int x3), .val (.int x4), .val (.int (2 : Int32)), .val (.ref b3), .val (.ref sb33), .val (.ref rb37), .unset, .unset, .unset] [])) _
            refine XS.iconst X95.here hx rfl (hb hby at_124) ?_
            show Steps p.tables e below (T95.setTop (mkF m 125 #[.val (.int x0), .val (.int x1), .val (.int x2), .val (.int x3), .val (.int x4), .val (.int (2 : Int32)), .val (.ref b3), .val (.ref sb33), .val (.ref rb37), .unset, .unset, .unset] [(.int (3 : Int32))])) _
            refine XS.iload X95.here hx rfl (hb hby at_125) rfl ?_
            show Steps p.tables e below (T95.setTop (mkF m 127 #[.val (.int x0), .val (.int x1), .val (.int x2), .val (.int x3), .val (.int x4), .val (.int (2 : Int32)), .val (.ref b3), .val (.ref sb33), .val (.ref rb37), .unset, .unset, .unset] [(.int (2 : Int32)), (.int (3 : Int32))])) _
            refine XS.icmpYes X95.here hx rfl (pc0 := 127) (pc' := 146) rfl (hb hby at_127) rfl (flt (by decide : ¬ ((3 : Int32) < (2 : Int32)))).2.1 (by decide) (by decide) ?_
            show Steps p.tables e below (T95.setTop (mkF m 146 #[.val (.int x0), .val (.int x1), .val (.int x2), .val (.int x3), .val (.int x4), .val (.int (2 : Int32)), .val (.ref b3), .val (.ref sb33), .val (.ref rb37), .unset, .unset, .unset] [])) _
            refine XS.iload X95.here hx rfl (hb hby at_146) rfl ?_
            show Steps p.tables e below (T95.setTop (mkF m 148 #[.val (.int x0), .val (.int x1), .val (.int x2), .val (.int x3), .val (.int x4), .val (.int (2 : Int32)), .val (.ref b3), .val (.ref sb33), .val (.ref rb37), .unset, .unset, .unset] [(.int (2 : Int32))])) _
            refine XS.istore X95.here hx rfl (hb hby at_148) rfl (l' := #[.val (.int x0), .val (.int x1), .val (.int x2), .val (.int x3), .val (.int x4), .val (.int (2 : Int32)), .val (.ref b3), .val (.ref sb33), .val (.ref rb37), .val (.int (2 : Int32)), .unset, .unset]) rfl ?_
            show Steps p.tables e below (T95.setTop (mkF m 150 #[.val (.int x0), .val (.int x1), .val (.int x2), .val (.int x3), .val (.int x4), .val (.int (2 : Int32)), .val (.ref b3), .val (.ref sb33), .val (.ref rb37), .val (.int (2 : Int32)), .unset, .unset] [])) _
            exact kgo
          exact ⟨T95, _, (2 : Int32), X95, eq95, N96, (by simp only [if_neg hc71_92, if_neg hc93_98]), pre100⟩
    obtain ⟨cl101, Ar101, q101, S101, M101, H101, G101⟩ := id f87
    have hin101 : ¬ ((1 : Int32) < 0 ∨ cl101.slots.size ≤ ((1 : Int32)).toNatClampNeg) := inb_of S101 ⟨by decide, by decide⟩
    have hat101 : cl101.slots[((1 : Int32)).toNatClampNeg]? = some (.int (nar .char (pkc x2))) := H101.at hin101 rfl
    obtain ⟨_, _, ⟨T102, L102, k102, n102⟩, -, X102, ⟨Lc102, hQ102, l102, y102, z102⟩, st102⟩ := Jvm.LawKit.callS X91 hx (y := (⟨"com/example/redress/redress/definition/StatementStripBlanksPinLaw", "blank", "(C)Z"⟩ : MethodName)) hown37 (mvT hZ37 (ow121 hw)) (mvT hZ37 (ow122 hw)) (mvT hZ37 (ow4 hw)) (mvT hZ37 (ow123 hw)) (by decide) (backOf (W := 0) (rmbl l Z a0 hw [] (nar .char (pkc x2))  T37.heap n0 O41 ) hZ37 (ow123 hw) (ow4 hw) (by decide) (by decide)) (g := (mkF m 204 #[.val (.int x0), .val (.int x1), .val (.int x2), .val (.int x3), .val (.int x4), .val (.int (2 : Int32)), .val (.ref b3), .val (.ref sb33), .val (.ref rb37), .val (.int stt), .unset, .unset] [(.int (nar .char (pkc x2)))])) rfl (by rw [hml]; rfl) (argsL := [(.int (nar .char (pkc x2)))]) (rest := []) (lenOf pd12 rfl) rfl (by show 2 * 0 + _ ≤ _; exact Nat.le_of_eq rfl) (hb hby at_204) (fun _ _ => ⟨rfl, e91, (by decide : 9 + 0 ≤ _), (by decide : 24 + 0 ≤ _)⟩)
    dsimp only [Pt.U, Pt.locs, Pt.cells, Pt.slots] at X102 l102 y102 z102 st102 hQ102
    subst l102 y102 z102
    obtain ⟨rfl, Nq102, eq102⟩ := hQ102
    have N103 := Fr.app N91 Nq102
    have pre104 : ∀ tgt, Steps p.tables e below (T102.setTop (mkF m 207 #[.val (.int x0), .val (.int x1), .val (.int x2), .val (.int x3), .val (.int x4), .val (.int (2 : Int32)), .val (.ref b3), .val (.ref sb33), .val (.ref rb37), .val (.int stt), .unset, .unset] [(.int (bl (nar .char (pkc x2))))])) tgt → Steps p.tables e below (s₁.setTop (entryFrame m #[(.int x0), (.int x1), (.int x2), (.int x3), (.int x4)] maxLocals)) tgt := by
      intro tgt kgo
      refine pre91 _ ?_
      refine XS.iconst X91.here hx rfl (hb hby at_150) ?_
      show Steps p.tables e below (T91.setTop (mkF m 151 #[.val (.int x0), .val (.int x1), .val (.int x2), .val (.int x3), .val (.int x4), .val (.int (2 : Int32)), .val (.ref b3), .val (.ref sb33), .val (.ref rb37), .val (.int stt), .unset, .unset] [(.int (3 : Int32))])) _
      refine XS.iload X91.here hx rfl (hb hby at_151) rfl ?_
      show Steps p.tables e below (T91.setTop (mkF m 153 #[.val (.int x0), .val (.int x1), .val (.int x2), .val (.int x3), .val (.int x4), .val (.int (2 : Int32)), .val (.ref b3), .val (.ref sb33), .val (.ref rb37), .val (.int stt), .unset, .unset] [(.int (2 : Int32)), (.int (3 : Int32))])) _
      refine XS.icmpYes X91.here hx rfl (pc0 := 153) (pc' := 172) rfl (hb hby at_153) rfl (flt (by decide : ¬ ((3 : Int32) < (2 : Int32)))).2.1 (by decide) (by decide) ?_
      show Steps p.tables e below (T91.setTop (mkF m 172 #[.val (.int x0), .val (.int x1), .val (.int x2), .val (.int x3), .val (.int x4), .val (.int (2 : Int32)), .val (.ref b3), .val (.ref sb33), .val (.ref rb37), .val (.int stt), .unset, .unset] [])) _
      refine XS.iconst X91.here hx rfl (hb hby at_172) ?_
      show Steps p.tables e below (T91.setTop (mkF m 173 #[.val (.int x0), .val (.int x1), .val (.int x2), .val (.int x3), .val (.int x4), .val (.int (2 : Int32)), .val (.ref b3), .val (.ref sb33), .val (.ref rb37), .val (.int stt), .unset, .unset] [(.int (2 : Int32))])) _
      refine XS.iload X91.here hx rfl (hb hby at_173) rfl ?_
      show Steps p.tables e below (T91.setTop (mkF m 175 #[.val (.int x0), .val (.int x1), .val (.int x2), .val (.int x3), .val (.int x4), .val (.int (2 : Int32)), .val (.ref b3), .val (.ref sb33), .val (.ref rb37), .val (.int stt), .unset, .unset] [(.int (2 : Int32)), (.int (2 : Int32))])) _
      refine XS.icmpYes X91.here hx rfl (pc0 := 175) (pc' := 194) rfl (hb hby at_175) rfl (flt (by decide : ¬ ((2 : Int32) < (2 : Int32)))).2.1 (by decide) (by decide) ?_
      show Steps p.tables e below (T91.setTop (mkF m 194 #[.val (.int x0), .val (.int x1), .val (.int x2), .val (.int x3), .val (.int x4), .val (.int (2 : Int32)), .val (.ref b3), .val (.ref sb33), .val (.ref rb37), .val (.int stt), .unset, .unset] [])) _
      refine XS.iconst X91.here hx rfl (hb hby at_194) ?_
      show Steps p.tables e below (T91.setTop (mkF m 195 #[.val (.int x0), .val (.int x1), .val (.int x2), .val (.int x3), .val (.int x4), .val (.int (2 : Int32)), .val (.ref b3), .val (.ref sb33), .val (.ref rb37), .val (.int stt), .unset, .unset] [(.int (1 : Int32))])) _
      refine XS.iload X91.here hx rfl (hb hby at_195) rfl ?_
      show Steps p.tables e below (T91.setTop (mkF m 197 #[.val (.int x0), .val (.int x1), .val (.int x2), .val (.int x3), .val (.int x4), .val (.int (2 : Int32)), .val (.ref b3), .val (.ref sb33), .val (.ref rb37), .val (.int stt), .unset, .unset] [(.int (2 : Int32)), (.int (1 : Int32))])) _
      refine XS.icmpNo X91.here hx rfl (hb hby at_197) rfl (tlt (by decide : (1 : Int32) < (2 : Int32))).2.1 ?_
      show Steps p.tables e below (T91.setTop (mkF m 200 #[.val (.int x0), .val (.int x1), .val (.int x2), .val (.int x3), .val (.int x4), .val (.int (2 : Int32)), .val (.ref b3), .val (.ref sb33), .val (.ref rb37), .val (.int stt), .unset, .unset] [])) _
      refine XS.aload X91.here hx rfl (hb hby at_200) rfl rfl ?_
      show Steps p.tables e below (T91.setTop (mkF m 202 #[.val (.int x0), .val (.int x1), .val (.int x2), .val (.int x3), .val (.int x4), .val (.int (2 : Int32)), .val (.ref b3), .val (.ref sb33), .val (.ref rb37), .val (.int stt), .unset, .unset] [(.ref b3)])) _
      refine XS.iconst X91.here hx rfl (hb hby at_202) ?_
      show Steps p.tables e below (T91.setTop (mkF m 203 #[.val (.int x0), .val (.int x1), .val (.int x2), .val (.int x3), .val (.int x4), .val (.int (2 : Int32)), .val (.ref b3), .val (.ref sb33), .val (.ref rb37), .val (.int stt), .unset, .unset] [(.int (1 : Int32)), (.ref b3)])) _
      refine X91.caload hx (j := (1 : Int32)) (v := (.int (nar .char (pkc x2)))) (by rw [e91]; exact Ar101.1) (State.isArrayOf_alike hZ37.alike Ar101.2.1) Ar101.2.2 hin101 hat101 (g := (mkF m 203 #[.val (.int x0), .val (.int x1), .val (.int x2), .val (.int x3), .val (.int x4), .val (.int (2 : Int32)), .val (.ref b3), .val (.ref sb33), .val (.ref rb37), .val (.int stt), .unset, .unset] [(.int (1 : Int32)), (.ref b3)])) rfl rfl (hb hby at_203) _ ?_
      show Steps p.tables e below (T91.setTop (mkF m 204 #[.val (.int x0), .val (.int x1), .val (.int x2), .val (.int x3), .val (.int x4), .val (.int (2 : Int32)), .val (.ref b3), .val (.ref sb33), .val (.ref rb37), .val (.int stt), .unset, .unset] [(.int (nar .char (pkc x2)))])) _
      refine st102 _ ?_
      show Steps p.tables e below (T102.setTop (mkF m 207 #[.val (.int x0), .val (.int x1), .val (.int x2), .val (.int x3), .val (.int x4), .val (.int (2 : Int32)), .val (.ref b3), .val (.ref sb33), .val (.ref rb37), .val (.int stt), .unset, .unset] [(.int (bl (nar .char (pkc x2))))])) _
      exact kgo
    obtain ⟨T105, lo105, enn, X105, e105, N105, henn, pre105⟩ : ∃ (T' : State) (lo105 : List Loc) (enn : Int32), Stand p l e room_1 (s.setVm T37.vm) m #[(.int x0), (.int x1), (.int x2), (.int x3), (.int x4)] below meth c T' lo105 9 24 ∧ T'.heap = T37.heap ∧ Fr n0 lo105 ∧ enn = (if (bl (nar .char (pkc x2))) = (0 : Int32) then (2 : Int32) else (if (bl (nar .char (pkc x1))) = (0 : Int32) then (1 : Int32) else (2 : Int32))) ∧ ∀ tgt, Steps p.tables e below (T'.setTop (mkF m 242 #[.val (.int x0), .val (.int x1), .val (.int x2), .val (.int x3), .val (.int x4), .val (.int (2 : Int32)), .val (.ref b3), .val (.ref sb33), .val (.ref rb37), .val (.int stt), .val (.int enn), .unset] [])) tgt → Steps p.tables e below (s₁.setTop (entryFrame m #[(.int x0), (.int x1), (.int x2), (.int x3), (.int x4)] maxLocals)) tgt := by
      by_cases hc207_106 : (bl (nar .char (pkc x2))) = (0 : Int32)
      · have pre107 : ∀ tgt, Steps p.tables e below (T102.setTop (mkF m 242 #[.val (.int x0), .val (.int x1), .val (.int x2), .val (.int x3), .val (.int x4), .val (.int (2 : Int32)), .val (.ref b3), .val (.ref sb33), .val (.ref rb37), .val (.int stt), .val (.int (2 : Int32)), .unset] [])) tgt → Steps p.tables e below (s₁.setTop (entryFrame m #[(.int x0), (.int x1), (.int x2), (.int x3), (.int x4)] maxLocals)) tgt := by
          intro tgt kgo
          refine pre104 _ ?_
          refine XS.ifNo X102.here hx rfl (hb hby at_207) rfl ((if0 _ _).trans (teq hc207_106).2) ?_
          show Steps p.tables e below (T102.setTop (mkF m 210 #[.val (.int x0), .val (.int x1), .val (.int x2), .val (.int x3), .val (.int x4), .val (.int (2 : Int32)), .val (.ref b3), .val (.ref sb33), .val (.ref rb37), .val (.int stt), .unset, .unset] [])) _
          refine XS.iconst X102.here hx rfl (hb hby at_210) ?_
          show Steps p.tables e below (T102.setTop (mkF m 211 #[.val (.int x0), .val (.int x1), .val (.int x2), .val (.int x3), .val (.int x4), .val (.int (2 : Int32)), .val (.ref b3), .val (.ref sb33), .val (.ref rb37), .val (.int stt), .unset, .unset] [(.int (2 : Int32))])) _
          refine XS.istore X102.here hx rfl (hb hby at_211) rfl (l' := #[.val (.int x0), .val (.int x1), .val (.int x2), .val (.int x3), .val (.int x4), .val (.int (2 : Int32)), .val (.ref b3), .val (.ref sb33), .val (.ref rb37), .val (.int stt), .val (.int (2 : Int32)), .unset]) rfl ?_
          show Steps p.tables e below (T102.setTop (mkF m 213 #[.val (.int x0), .val (.int x1), .val (.int x2), .val (.int x3), .val (.int x4), .val (.int (2 : Int32)), .val (.ref b3), .val (.ref sb33), .val (.ref rb37), .val (.int stt), .val (.int (2 : Int32)), .unset] [])) _
          refine XS.goto X102.here hx rfl (pc0 := 213) (pc' := 242) rfl (hb hby at_213) (by decide) (by decide) ?_
          show Steps p.tables e below (T102.setTop (mkF m 242 #[.val (.int x0), .val (.int x1), .val (.int x2), .val (.int x3), .val (.int x4), .val (.int (2 : Int32)), .val (.ref b3), .val (.ref sb33), .val (.ref rb37), .val (.int stt), .val (.int (2 : Int32)), .unset] [])) _
          exact kgo
        exact ⟨T102, _, (2 : Int32), X102, eq102, N103, (by simp only [if_pos hc207_106]), pre107⟩
      · obtain ⟨cl108, Ar108, q108, S108, M108, H108, G108⟩ := id f87
        have hin108 : ¬ ((0 : Int32) < 0 ∨ cl108.slots.size ≤ ((0 : Int32)).toNatClampNeg) := inb_of S108 ⟨by decide, by decide⟩
        have hat108 : cl108.slots[((0 : Int32)).toNatClampNeg]? = some (.int (nar .char (pkc x1))) := H108.at hin108 rfl
        obtain ⟨_, _, ⟨T109, L109, k109, n109⟩, -, X109, ⟨Lc109, hQ109, l109, y109, z109⟩, st109⟩ := Jvm.LawKit.callS X102 hx (y := (⟨"com/example/redress/redress/definition/StatementStripBlanksPinLaw", "blank", "(C)Z"⟩ : MethodName)) hown37 (mvT hZ37 (ow121 hw)) (mvT hZ37 (ow122 hw)) (mvT hZ37 (ow4 hw)) (mvT hZ37 (ow123 hw)) (by decide) (backOf (W := 0) (rmbl l Z a0 hw [] (nar .char (pkc x1))  T37.heap n0 O41 ) hZ37 (ow123 hw) (ow4 hw) (by decide) (by decide)) (g := (mkF m 226 #[.val (.int x0), .val (.int x1), .val (.int x2), .val (.int x3), .val (.int x4), .val (.int (2 : Int32)), .val (.ref b3), .val (.ref sb33), .val (.ref rb37), .val (.int stt), .unset, .unset] [(.int (nar .char (pkc x1)))])) rfl (by rw [hml]; rfl) (argsL := [(.int (nar .char (pkc x1)))]) (rest := []) (lenOf pd12 rfl) rfl (by show 2 * 0 + _ ≤ _; exact Nat.le_of_eq rfl) (hb hby at_226) (fun _ _ => ⟨rfl, eq102, (by decide : 9 + 0 ≤ _), (by decide : 24 + 0 ≤ _)⟩)
        dsimp only [Pt.U, Pt.locs, Pt.cells, Pt.slots] at X109 l109 y109 z109 st109 hQ109
        subst l109 y109 z109
        obtain ⟨rfl, Nq109, eq109⟩ := hQ109
        have N110 := Fr.app N103 Nq109
        have pre111 : ∀ tgt, Steps p.tables e below (T109.setTop (mkF m 229 #[.val (.int x0), .val (.int x1), .val (.int x2), .val (.int x3), .val (.int x4), .val (.int (2 : Int32)), .val (.ref b3), .val (.ref sb33), .val (.ref rb37), .val (.int stt), .unset, .unset] [(.int (bl (nar .char (pkc x1))))])) tgt → Steps p.tables e below (s₁.setTop (entryFrame m #[(.int x0), (.int x1), (.int x2), (.int x3), (.int x4)] maxLocals)) tgt := by
          intro tgt kgo
          refine pre104 _ ?_
          refine XS.ifYes X102.here hx rfl (pc0 := 207) (pc' := 216) rfl (hb hby at_207) rfl ((if0 _ _).trans (feq hc207_106).2) (by decide) (by decide) ?_
          show Steps p.tables e below (T102.setTop (mkF m 216 #[.val (.int x0), .val (.int x1), .val (.int x2), .val (.int x3), .val (.int x4), .val (.int (2 : Int32)), .val (.ref b3), .val (.ref sb33), .val (.ref rb37), .val (.int stt), .unset, .unset] [])) _
          refine XS.iconst X102.here hx rfl (hb hby at_216) ?_
          show Steps p.tables e below (T102.setTop (mkF m 217 #[.val (.int x0), .val (.int x1), .val (.int x2), .val (.int x3), .val (.int x4), .val (.int (2 : Int32)), .val (.ref b3), .val (.ref sb33), .val (.ref rb37), .val (.int stt), .unset, .unset] [(.int (0 : Int32))])) _
          refine XS.iload X102.here hx rfl (hb hby at_217) rfl ?_
          show Steps p.tables e below (T102.setTop (mkF m 219 #[.val (.int x0), .val (.int x1), .val (.int x2), .val (.int x3), .val (.int x4), .val (.int (2 : Int32)), .val (.ref b3), .val (.ref sb33), .val (.ref rb37), .val (.int stt), .unset, .unset] [(.int (2 : Int32)), (.int (0 : Int32))])) _
          refine XS.icmpNo X102.here hx rfl (hb hby at_219) rfl (tlt (by decide : (0 : Int32) < (2 : Int32))).2.1 ?_
          show Steps p.tables e below (T102.setTop (mkF m 222 #[.val (.int x0), .val (.int x1), .val (.int x2), .val (.int x3), .val (.int x4), .val (.int (2 : Int32)), .val (.ref b3), .val (.ref sb33), .val (.ref rb37), .val (.int stt), .unset, .unset] [])) _
          refine XS.aload X102.here hx rfl (hb hby at_222) rfl rfl ?_
          show Steps p.tables e below (T102.setTop (mkF m 224 #[.val (.int x0), .val (.int x1), .val (.int x2), .val (.int x3), .val (.int x4), .val (.int (2 : Int32)), .val (.ref b3), .val (.ref sb33), .val (.ref rb37), .val (.int stt), .unset, .unset] [(.ref b3)])) _
          refine XS.iconst X102.here hx rfl (hb hby at_224) ?_
          show Steps p.tables e below (T102.setTop (mkF m 225 #[.val (.int x0), .val (.int x1), .val (.int x2), .val (.int x3), .val (.int x4), .val (.int (2 : Int32)), .val (.ref b3), .val (.ref sb33), .val (.ref rb37), .val (.int stt), .unset, .unset] [(.int (0 : Int32)), (.ref b3)])) _
          refine X102.caload hx (j := (0 : Int32)) (v := (.int (nar .char (pkc x1)))) (by rw [eq102]; exact Ar108.1) (State.isArrayOf_alike hZ37.alike Ar108.2.1) Ar108.2.2 hin108 hat108 (g := (mkF m 225 #[.val (.int x0), .val (.int x1), .val (.int x2), .val (.int x3), .val (.int x4), .val (.int (2 : Int32)), .val (.ref b3), .val (.ref sb33), .val (.ref rb37), .val (.int stt), .unset, .unset] [(.int (0 : Int32)), (.ref b3)])) rfl rfl (hb hby at_225) _ ?_
          show Steps p.tables e below (T102.setTop (mkF m 226 #[.val (.int x0), .val (.int x1), .val (.int x2), .val (.int x3), .val (.int x4), .val (.int (2 : Int32)), .val (.ref b3), .val (.ref sb33), .val (.ref rb37), .val (.int stt), .unset, .unset] [(.int (nar .char (pkc x1)))])) _
          refine st109 _ ?_
          show Steps p.tables e below (T109.setTop (mkF m 229 #[.val (.int x0), .val (.int x1), .val (.int x2), .val (.int x3), .val (.int x4), .val (.int (2 : Int32)), .val (.ref b3), .val (.ref sb33), .val (.ref rb37), .val (.int stt), .unset, .unset] [(.int (bl (nar .char (pkc x1))))])) _
          exact kgo
        by_cases hc229_112 : (bl (nar .char (pkc x1))) = (0 : Int32)
        · have pre113 : ∀ tgt, Steps p.tables e below (T109.setTop (mkF m 242 #[.val (.int x0), .val (.int x1), .val (.int x2), .val (.int x3), .val (.int x4), .val (.int (2 : Int32)), .val (.ref b3), .val (.ref sb33), .val (.ref rb37), .val (.int stt), .val (.int (1 : Int32)), .unset] [])) tgt → Steps p.tables e below (s₁.setTop (entryFrame m #[(.int x0), (.int x1), (.int x2), (.int x3), (.int x4)] maxLocals)) tgt := by
            intro tgt kgo
            refine pre111 _ ?_
            refine XS.ifNo X109.here hx rfl (hb hby at_229) rfl ((if0 _ _).trans (teq hc229_112).2) ?_
            show Steps p.tables e below (T109.setTop (mkF m 232 #[.val (.int x0), .val (.int x1), .val (.int x2), .val (.int x3), .val (.int x4), .val (.int (2 : Int32)), .val (.ref b3), .val (.ref sb33), .val (.ref rb37), .val (.int stt), .unset, .unset] [])) _
            refine XS.iconst X109.here hx rfl (hb hby at_232) ?_
            show Steps p.tables e below (T109.setTop (mkF m 233 #[.val (.int x0), .val (.int x1), .val (.int x2), .val (.int x3), .val (.int x4), .val (.int (2 : Int32)), .val (.ref b3), .val (.ref sb33), .val (.ref rb37), .val (.int stt), .unset, .unset] [(.int (1 : Int32))])) _
            refine XS.istore X109.here hx rfl (hb hby at_233) rfl (l' := #[.val (.int x0), .val (.int x1), .val (.int x2), .val (.int x3), .val (.int x4), .val (.int (2 : Int32)), .val (.ref b3), .val (.ref sb33), .val (.ref rb37), .val (.int stt), .val (.int (1 : Int32)), .unset]) rfl ?_
            show Steps p.tables e below (T109.setTop (mkF m 235 #[.val (.int x0), .val (.int x1), .val (.int x2), .val (.int x3), .val (.int x4), .val (.int (2 : Int32)), .val (.ref b3), .val (.ref sb33), .val (.ref rb37), .val (.int stt), .val (.int (1 : Int32)), .unset] [])) _
            refine XS.goto X109.here hx rfl (pc0 := 235) (pc' := 242) rfl (hb hby at_235) (by decide) (by decide) ?_
            show Steps p.tables e below (T109.setTop (mkF m 242 #[.val (.int x0), .val (.int x1), .val (.int x2), .val (.int x3), .val (.int x4), .val (.int (2 : Int32)), .val (.ref b3), .val (.ref sb33), .val (.ref rb37), .val (.int stt), .val (.int (1 : Int32)), .unset] [])) _
            exact kgo
          exact ⟨T109, _, (1 : Int32), X109, eq109, N110, (by simp only [if_neg hc207_106, if_pos hc229_112]), pre113⟩
        · have pre114 : ∀ tgt, Steps p.tables e below (T109.setTop (mkF m 242 #[.val (.int x0), .val (.int x1), .val (.int x2), .val (.int x3), .val (.int x4), .val (.int (2 : Int32)), .val (.ref b3), .val (.ref sb33), .val (.ref rb37), .val (.int stt), .val (.int (2 : Int32)), .unset] [])) tgt → Steps p.tables e below (s₁.setTop (entryFrame m #[(.int x0), (.int x1), (.int x2), (.int x3), (.int x4)] maxLocals)) tgt := by
            intro tgt kgo
            refine pre111 _ ?_
            refine XS.ifYes X109.here hx rfl (pc0 := 229) (pc' := 238) rfl (hb hby at_229) rfl ((if0 _ _).trans (feq hc229_112).2) (by decide) (by decide) ?_
            show Steps p.tables e below (T109.setTop (mkF m 238 #[.val (.int x0), .val (.int x1), .val (.int x2), .val (.int x3), .val (.int x4), .val (.int (2 : Int32)), .val (.ref b3), .val (.ref sb33), .val (.ref rb37), .val (.int stt), .unset, .unset] [])) _
            refine XS.iload X109.here hx rfl (hb hby at_238) rfl ?_
            show Steps p.tables e below (T109.setTop (mkF m 240 #[.val (.int x0), .val (.int x1), .val (.int x2), .val (.int x3), .val (.int x4), .val (.int (2 : Int32)), .val (.ref b3), .val (.ref sb33), .val (.ref rb37), .val (.int stt), .unset, .unset] [(.int (2 : Int32))])) _
            refine XS.istore X109.here hx rfl (hb hby at_240) rfl (l' := #[.val (.int x0), .val (.int x1), .val (.int x2), .val (.int x3), .val (.int x4), .val (.int (2 : Int32)), .val (.ref b3), .val (.ref sb33), .val (.ref rb37), .val (.int stt), .val (.int (2 : Int32)), .unset]) rfl ?_
            show Steps p.tables e below (T109.setTop (mkF m 242 #[.val (.int x0), .val (.int x1), .val (.int x2), .val (.int x3), .val (.int x4), .val (.int (2 : Int32)), .val (.ref b3), .val (.ref sb33), .val (.ref rb37), .val (.int stt), .val (.int (2 : Int32)), .unset] [])) _
            exact kgo
          exact ⟨T109, _, (2 : Int32), X109, eq109, N110, (by simp only [if_neg hc207_106, if_neg hc229_112]), pre114⟩
    have pre115 : ∀ tgt, Steps p.tables e below (T105.setTop (mkF m 249 #[.val (.int x0), .val (.int x1), .val (.int x2), .val (.int x3), .val (.int x4), .val (.int (2 : Int32)), .val (.ref b3), .val (.ref sb33), .val (.ref rb37), .val (.int stt), .val (.int enn), .val (.int (enn - stt))] [])) tgt → Steps p.tables e below (s₁.setTop (entryFrame m #[(.int x0), (.int x1), (.int x2), (.int x3), (.int x4)] maxLocals)) tgt := by
      intro tgt kgo
      refine pre105 _ ?_
      refine XS.iload X105.here hx rfl (hb hby at_242) rfl ?_
      show Steps p.tables e below (T105.setTop (mkF m 244 #[.val (.int x0), .val (.int x1), .val (.int x2), .val (.int x3), .val (.int x4), .val (.int (2 : Int32)), .val (.ref b3), .val (.ref sb33), .val (.ref rb37), .val (.int stt), .val (.int enn), .unset] [(.int enn)])) _
      refine XS.iload X105.here hx rfl (hb hby at_244) rfl ?_
      show Steps p.tables e below (T105.setTop (mkF m 246 #[.val (.int x0), .val (.int x1), .val (.int x2), .val (.int x3), .val (.int x4), .val (.int (2 : Int32)), .val (.ref b3), .val (.ref sb33), .val (.ref rb37), .val (.int stt), .val (.int enn), .unset] [(.int stt), (.int enn)])) _
      refine XS.isub X105.here hx rfl (hb hby at_246) rfl ?_
      show Steps p.tables e below (T105.setTop (mkF m 247 #[.val (.int x0), .val (.int x1), .val (.int x2), .val (.int x3), .val (.int x4), .val (.int (2 : Int32)), .val (.ref b3), .val (.ref sb33), .val (.ref rb37), .val (.int stt), .val (.int enn), .unset] [(.int (enn - stt))])) _
      refine XS.istore X105.here hx rfl (hb hby at_247) rfl (l' := #[.val (.int x0), .val (.int x1), .val (.int x2), .val (.int x3), .val (.int x4), .val (.int (2 : Int32)), .val (.ref b3), .val (.ref sb33), .val (.ref rb37), .val (.int stt), .val (.int enn), .val (.int (enn - stt))]) rfl ?_
      show Steps p.tables e below (T105.setTop (mkF m 249 #[.val (.int x0), .val (.int x1), .val (.int x2), .val (.int x3), .val (.int x4), .val (.int (2 : Int32)), .val (.ref b3), .val (.ref sb33), .val (.ref rb37), .val (.int stt), .val (.int enn), .val (.int (enn - stt))] [])) _
      exact kgo
    obtain ⟨len, hlen⟩ : ∃ z, z = (enn - stt) := ⟨_, rfl⟩
    have pre116 : ∀ tgt, Steps p.tables e below (T105.setTop (mkF m 249 #[.val (.int x0), .val (.int x1), .val (.int x2), .val (.int x3), .val (.int x4), .val (.int (2 : Int32)), .val (.ref b3), .val (.ref sb33), .val (.ref rb37), .val (.int stt), .val (.int enn), .val (.int len)] [])) tgt → Steps p.tables e below (s₁.setTop (entryFrame m #[(.int x0), (.int x1), (.int x2), (.int x3), (.int x4)] maxLocals)) tgt := by
      rw [hlen]; exact pre115
    obtain ⟨hs1, hs2⟩ := own_fin2 hSk hstt henn
    have hlen' : len = Int32.ofNat (List.length ((List.drop i1 (mkl nv (nar .char (pkc x1)) (nar .char (pkc x2)) (nar .char (pkc x3)) (nar .char (pkc x4)))).take (j2 - i1))) := own_lenk (by rw [hq]; exact hSk) hs1 hs2 hlen (own_mkl _ _ _ _ _)
    obtain ⟨cq117, kq117, q117a, q117b, q117c⟩ := isOf hZ37 e105 sES
    obtain ⟨_, _, ⟨T117, L117, k117, n117⟩, -, X117, ⟨Lc117, hQ117, l117, y117, z117⟩, st117⟩ := X105.virtualBack hx (y := (⟨"java/lang/String", "length", "()I"⟩ : MethodName)) (z := (⟨"java/lang/String", "length", "()I"⟩ : MethodName)) hown37 (mvT hZ37 (ow59 hw)) (mvT hZ37 (ow35 hw)) (notFace_of_selects (args := #[]) (mvT hZ37 (ow37 hw))) (mvT hZ37 (ow37 hw)) (mvT hZ37 (ow36 hw)) (by decide) (StrChars.Road.lenW (W := 0) hZ37 (own_wlen hw) (kI := 4) (ow10 hw) (cs := ((List.drop i1 (mkl nv (nar .char (pkc x1)) (nar .char (pkc x2)) (nar .char (pkc x3)) (nar .char (pkc x4)))).take (j2 - i1))) sES sVS sCS sAS (StrChars.Road.codOf rfl (fun c hc => (spS c hc).2)) (own_up _ spS) (O2.ext O41.2) P5 slS (by decide) (by decide)) q117a q117c (g := (mkF m 256 #[.val (.int x0), .val (.int x1), .val (.int x2), .val (.int x3), .val (.int x4), .val (.int (2 : Int32)), .val (.ref b3), .val (.ref sb33), .val (.ref rb37), .val (.int stt), .val (.int enn), .val (.int len)] [(.ref rb37)])) rfl (by rw [hml]; rfl) (Steps.refl _) (argsL := []) (rest := []) (lenOf pd7 rfl) rfl (by show 2 * 0 + _ ≤ _; exact Nat.le_of_eq rfl) (hb hby at_256) (fun _ _ => ⟨rfl, e105, (by decide : 9 + 0 ≤ _), (by decide : 24 + 0 ≤ _)⟩)
    dsimp only [Pt.U, Pt.locs, Pt.cells, Pt.slots] at X117 l117 y117 z117 st117 hQ117
    subst l117 y117 z117
    obtain ⟨rfl, hL117, eq117⟩ := hQ117
    have Nq117 := own_frn hL117 n0
    have N118 := Fr.app N105 Nq117
    obtain ⟨_, _, ⟨T119, L119, k119, n119⟩, -, X119, ⟨Lc119, hQ119, l119, y119, z119⟩, st119⟩ := Jvm.LawKit.callS X117 hx (y := (⟨"com/example/redress/redress/definition/StatementStripBlanksPinLaw", "at", "(Ljava/lang/String;I[CII)Z"⟩ : MethodName)) hown37 (mvT hZ37 (ow60 hw)) (mvT hZ37 (ow61 hw)) (mvT hZ37 (ow4 hw)) (mvT hZ37 (ow62 hw)) (by decide) (backOf (W := 0) (rmat l Z a0 hw [] rb37 (0 : Int32) b3 stt len ((List.drop i1 (mkl nv (nar .char (pkc x1)) (nar .char (pkc x2)) (nar .char (pkc x3)) (nar .char (pkc x4)))).take (j2 - i1)) k3 (nar .char (pkc x1)) (nar .char (pkc x2)) (nar .char (pkc x3)) (nar .char (pkc x4)) 0 i1 G1 fm T37.heap n0 O41 O2 P5 O4 rf ⟨sES, sCS, spS, slS, tS, skS, sVS, sAS⟩ (own_rs _ _ (own_mkl _ _ _ _ _)) f87 rfl (by decide) hlen' hs1 (own_atp (by rw [hq]; exact hSk) 0)) hZ37 (ow62 hw) (ow4 hw) (by decide) (by decide)) (g := (mkF m 273 #[.val (.int x0), .val (.int x1), .val (.int x2), .val (.int x3), .val (.int x4), .val (.int (2 : Int32)), .val (.ref b3), .val (.ref sb33), .val (.ref rb37), .val (.int stt), .val (.int enn), .val (.int len)] [(.int len), (.int stt), (.ref b3), (.int (0 : Int32)), (.ref rb37)])) rfl (by rw [hml]; rfl) (argsL := [(.ref rb37), (.int (0 : Int32)), (.ref b3), (.int stt), (.int len)]) (rest := []) (lenOf pd16 rfl) rfl (by show 2 * 0 + _ ≤ _; exact Nat.le_of_eq rfl) (hb hby at_273) (fun _ _ => ⟨rfl, eq117, (by decide : 9 + 0 ≤ _), (by decide : 24 + 0 ≤ _)⟩)
    dsimp only [Pt.U, Pt.locs, Pt.cells, Pt.slots] at X119 l119 y119 z119 st119 hQ119
    subst l119 y119 z119
    obtain ⟨rfl, Nq119, eq119⟩ := hQ119
    have N120 := Fr.app N118 Nq119
    obtain ⟨_, _, ⟨T121, L121, k121, n121⟩, -, X121, ⟨Lc121, hQ121, l121, y121, z121⟩, st121⟩ := Jvm.LawKit.callS X119 hx (y := (⟨"com/example/redress/redress/definition/StatementStripBlanksPinLaw", "at", "(Ljava/lang/String;I[CII)Z"⟩ : MethodName)) hown37 (mvT hZ37 (ow60 hw)) (mvT hZ37 (ow61 hw)) (mvT hZ37 (ow4 hw)) (mvT hZ37 (ow62 hw)) (by decide) (backOf (W := 0) (rmat l Z a0 hw [] rb37 (1 : Int32) b3 stt len ((List.drop i1 (mkl nv (nar .char (pkc x1)) (nar .char (pkc x2)) (nar .char (pkc x3)) (nar .char (pkc x4)))).take (j2 - i1)) k3 (nar .char (pkc x1)) (nar .char (pkc x2)) (nar .char (pkc x3)) (nar .char (pkc x4)) 1 i1 G1 fm T37.heap n0 O41 O2 P5 O4 rf ⟨sES, sCS, spS, slS, tS, skS, sVS, sAS⟩ (own_rs _ _ (own_mkl _ _ _ _ _)) f87 rfl (by decide) hlen' hs1 (own_atp (by rw [hq]; exact hSk) 1)) hZ37 (ow62 hw) (ow4 hw) (by decide) (by decide)) (g := (mkF m 288 #[.val (.int x0), .val (.int x1), .val (.int x2), .val (.int x3), .val (.int x4), .val (.int (2 : Int32)), .val (.ref b3), .val (.ref sb33), .val (.ref rb37), .val (.int stt), .val (.int enn), .val (.int len)] [(.int len), (.int stt), (.ref b3), (.int (1 : Int32)), (.ref rb37)])) rfl (by rw [hml]; rfl) (argsL := [(.ref rb37), (.int (1 : Int32)), (.ref b3), (.int stt), (.int len)]) (rest := []) (lenOf pd16 rfl) rfl (by show 2 * 0 + _ ≤ _; exact Nat.le_of_eq rfl) (hb hby at_288) (fun _ _ => ⟨rfl, eq119, (by decide : 9 + 0 ≤ _), (by decide : 24 + 0 ≤ _)⟩)
    dsimp only [Pt.U, Pt.locs, Pt.cells, Pt.slots] at X121 l121 y121 z121 st121 hQ121
    subst l121 y121 z121
    obtain ⟨rfl, Nq121, eq121⟩ := hQ121
    have N122 := Fr.app N120 Nq121
    obtain ⟨_, _, ⟨T123, L123, k123, n123⟩, -, X123, ⟨Lc123, hQ123, l123, y123, z123⟩, st123⟩ := Jvm.LawKit.callS X121 hx (y := (⟨"com/example/redress/redress/definition/StatementStripBlanksPinLaw", "at", "(Ljava/lang/String;I[CII)Z"⟩ : MethodName)) hown37 (mvT hZ37 (ow60 hw)) (mvT hZ37 (ow61 hw)) (mvT hZ37 (ow4 hw)) (mvT hZ37 (ow62 hw)) (by decide) (backOf (W := 0) (rmat l Z a0 hw [] rb37 (2 : Int32) b3 stt len ((List.drop i1 (mkl nv (nar .char (pkc x1)) (nar .char (pkc x2)) (nar .char (pkc x3)) (nar .char (pkc x4)))).take (j2 - i1)) k3 (nar .char (pkc x1)) (nar .char (pkc x2)) (nar .char (pkc x3)) (nar .char (pkc x4)) 2 i1 G1 fm T37.heap n0 O41 O2 P5 O4 rf ⟨sES, sCS, spS, slS, tS, skS, sVS, sAS⟩ (own_rs _ _ (own_mkl _ _ _ _ _)) f87 rfl (by decide) hlen' hs1 (own_atp (by rw [hq]; exact hSk) 2)) hZ37 (ow62 hw) (ow4 hw) (by decide) (by decide)) (g := (mkF m 303 #[.val (.int x0), .val (.int x1), .val (.int x2), .val (.int x3), .val (.int x4), .val (.int (2 : Int32)), .val (.ref b3), .val (.ref sb33), .val (.ref rb37), .val (.int stt), .val (.int enn), .val (.int len)] [(.int len), (.int stt), (.ref b3), (.int (2 : Int32)), (.ref rb37)])) rfl (by rw [hml]; rfl) (argsL := [(.ref rb37), (.int (2 : Int32)), (.ref b3), (.int stt), (.int len)]) (rest := []) (lenOf pd16 rfl) rfl (by show 2 * 0 + _ ≤ _; exact Nat.le_of_eq rfl) (hb hby at_303) (fun _ _ => ⟨rfl, eq121, (by decide : 9 + 0 ≤ _), (by decide : 24 + 0 ≤ _)⟩)
    dsimp only [Pt.U, Pt.locs, Pt.cells, Pt.slots] at X123 l123 y123 z123 st123 hQ123
    subst l123 y123 z123
    obtain ⟨rfl, Nq123, eq123⟩ := hQ123
    have N124 := Fr.app N122 Nq123
    obtain ⟨_, _, ⟨T125, L125, k125, n125⟩, -, X125, ⟨Lc125, hQ125, l125, y125, z125⟩, st125⟩ := Jvm.LawKit.callS X123 hx (y := (⟨"com/example/redress/redress/definition/StatementStripBlanksPinLaw", "at", "(Ljava/lang/String;I[CII)Z"⟩ : MethodName)) hown37 (mvT hZ37 (ow60 hw)) (mvT hZ37 (ow61 hw)) (mvT hZ37 (ow4 hw)) (mvT hZ37 (ow62 hw)) (by decide) (backOf (W := 0) (rmat l Z a0 hw [] rb37 (3 : Int32) b3 stt len ((List.drop i1 (mkl nv (nar .char (pkc x1)) (nar .char (pkc x2)) (nar .char (pkc x3)) (nar .char (pkc x4)))).take (j2 - i1)) k3 (nar .char (pkc x1)) (nar .char (pkc x2)) (nar .char (pkc x3)) (nar .char (pkc x4)) 3 i1 G1 fm T37.heap n0 O41 O2 P5 O4 rf ⟨sES, sCS, spS, slS, tS, skS, sVS, sAS⟩ (own_rs _ _ (own_mkl _ _ _ _ _)) f87 rfl (by decide) hlen' hs1 (own_atp (by rw [hq]; exact hSk) 3)) hZ37 (ow62 hw) (ow4 hw) (by decide) (by decide)) (g := (mkF m 318 #[.val (.int x0), .val (.int x1), .val (.int x2), .val (.int x3), .val (.int x4), .val (.int (2 : Int32)), .val (.ref b3), .val (.ref sb33), .val (.ref rb37), .val (.int stt), .val (.int enn), .val (.int len)] [(.int len), (.int stt), (.ref b3), (.int (3 : Int32)), (.ref rb37)])) rfl (by rw [hml]; rfl) (argsL := [(.ref rb37), (.int (3 : Int32)), (.ref b3), (.int stt), (.int len)]) (rest := []) (lenOf pd16 rfl) rfl (by show 2 * 0 + _ ≤ _; exact Nat.le_of_eq rfl) (hb hby at_318) (fun _ _ => ⟨rfl, eq123, (by decide : 9 + 0 ≤ _), (by decide : 24 + 0 ≤ _)⟩)
    dsimp only [Pt.U, Pt.locs, Pt.cells, Pt.slots] at X125 l125 y125 z125 st125 hQ125
    subst l125 y125 z125
    obtain ⟨rfl, Nq125, eq125⟩ := hQ125
    have N126 := Fr.app N124 Nq125
    obtain ⟨fs, hretL, hrun, hended, hEnd⟩ := Stand.leaveW X125 hS37 (by rw [eq125]; exact hk37) (v := some (.int (1 : Int32))) (fun h => by rw [Bd.returns] at h; cases h)
    have hCf : CHr Z EL0 s.vm s.heap T125.vm T125.heap := by rw [hh, eq125]; exact CH40.trans (CHv.at X125 hZ37 (own_EW hw) CH40.1)
    refine ⟨_, _, pre116 _ ?_, hrun, hended, _, _, rfl, ?_, hCf, hEnd.1, hEnd.2.1, hEnd.2.2.1, hEnd.2.2.2.mono (by decide) (by decide)⟩
    · refine XS.aload X105.here hx rfl (hb hby at_249) rfl rfl ?_
      show Steps p.tables e below (T105.setTop (mkF m 251 #[.val (.int x0), .val (.int x1), .val (.int x2), .val (.int x3), .val (.int x4), .val (.int (2 : Int32)), .val (.ref b3), .val (.ref sb33), .val (.ref rb37), .val (.int stt), .val (.int enn), .val (.int len)] [(.ref rb37)])) _
      refine XS.ifnullNo X105.here hx rfl (hb hby at_251) rfl ?_
      show Steps p.tables e below (T105.setTop (mkF m 254 #[.val (.int x0), .val (.int x1), .val (.int x2), .val (.int x3), .val (.int x4), .val (.int (2 : Int32)), .val (.ref b3), .val (.ref sb33), .val (.ref rb37), .val (.int stt), .val (.int enn), .val (.int len)] [])) _
      refine XS.aload X105.here hx rfl (hb hby at_254) rfl rfl ?_
      show Steps p.tables e below (T105.setTop (mkF m 256 #[.val (.int x0), .val (.int x1), .val (.int x2), .val (.int x3), .val (.int x4), .val (.int (2 : Int32)), .val (.ref b3), .val (.ref sb33), .val (.ref rb37), .val (.int stt), .val (.int enn), .val (.int len)] [(.ref rb37)])) _
      refine st117.trans ?_
      show Steps p.tables e below (T117.setTop (mkF m 259 #[.val (.int x0), .val (.int x1), .val (.int x2), .val (.int x3), .val (.int x4), .val (.int (2 : Int32)), .val (.ref b3), .val (.ref sb33), .val (.ref rb37), .val (.int stt), .val (.int enn), .val (.int len)] [(.int (Int32.ofNat (List.length ((List.drop i1 (mkl nv (nar .char (pkc x1)) (nar .char (pkc x2)) (nar .char (pkc x3)) (nar .char (pkc x4)))).take (j2 - i1)))))])) _
      refine XS.iload X117.here hx rfl (hb hby at_259) rfl ?_
      show Steps p.tables e below (T117.setTop (mkF m 261 #[.val (.int x0), .val (.int x1), .val (.int x2), .val (.int x3), .val (.int x4), .val (.int (2 : Int32)), .val (.ref b3), .val (.ref sb33), .val (.ref rb37), .val (.int stt), .val (.int enn), .val (.int len)] [(.int len), (.int (Int32.ofNat (List.length ((List.drop i1 (mkl nv (nar .char (pkc x1)) (nar .char (pkc x2)) (nar .char (pkc x3)) (nar .char (pkc x4)))).take (j2 - i1)))))])) _
      refine XS.icmpNo X117.here hx rfl (hb hby at_261) rfl (teq hlen'.symm).2 ?_
      show Steps p.tables e below (T117.setTop (mkF m 264 #[.val (.int x0), .val (.int x1), .val (.int x2), .val (.int x3), .val (.int x4), .val (.int (2 : Int32)), .val (.ref b3), .val (.ref sb33), .val (.ref rb37), .val (.int stt), .val (.int enn), .val (.int len)] [])) _
      refine XS.aload X117.here hx rfl (hb hby at_264) rfl rfl ?_
      show Steps p.tables e below (T117.setTop (mkF m 266 #[.val (.int x0), .val (.int x1), .val (.int x2), .val (.int x3), .val (.int x4), .val (.int (2 : Int32)), .val (.ref b3), .val (.ref sb33), .val (.ref rb37), .val (.int stt), .val (.int enn), .val (.int len)] [(.ref rb37)])) _
      refine XS.iconst X117.here hx rfl (hb hby at_266) ?_
      show Steps p.tables e below (T117.setTop (mkF m 267 #[.val (.int x0), .val (.int x1), .val (.int x2), .val (.int x3), .val (.int x4), .val (.int (2 : Int32)), .val (.ref b3), .val (.ref sb33), .val (.ref rb37), .val (.int stt), .val (.int enn), .val (.int len)] [(.int (0 : Int32)), (.ref rb37)])) _
      refine XS.aload X117.here hx rfl (hb hby at_267) rfl rfl ?_
      show Steps p.tables e below (T117.setTop (mkF m 269 #[.val (.int x0), .val (.int x1), .val (.int x2), .val (.int x3), .val (.int x4), .val (.int (2 : Int32)), .val (.ref b3), .val (.ref sb33), .val (.ref rb37), .val (.int stt), .val (.int enn), .val (.int len)] [(.ref b3), (.int (0 : Int32)), (.ref rb37)])) _
      refine XS.iload X117.here hx rfl (hb hby at_269) rfl ?_
      show Steps p.tables e below (T117.setTop (mkF m 271 #[.val (.int x0), .val (.int x1), .val (.int x2), .val (.int x3), .val (.int x4), .val (.int (2 : Int32)), .val (.ref b3), .val (.ref sb33), .val (.ref rb37), .val (.int stt), .val (.int enn), .val (.int len)] [(.int stt), (.ref b3), (.int (0 : Int32)), (.ref rb37)])) _
      refine XS.iload X117.here hx rfl (hb hby at_271) rfl ?_
      show Steps p.tables e below (T117.setTop (mkF m 273 #[.val (.int x0), .val (.int x1), .val (.int x2), .val (.int x3), .val (.int x4), .val (.int (2 : Int32)), .val (.ref b3), .val (.ref sb33), .val (.ref rb37), .val (.int stt), .val (.int enn), .val (.int len)] [(.int len), (.int stt), (.ref b3), (.int (0 : Int32)), (.ref rb37)])) _
      refine st119 _ ?_
      show Steps p.tables e below (T119.setTop (mkF m 276 #[.val (.int x0), .val (.int x1), .val (.int x2), .val (.int x3), .val (.int x4), .val (.int (2 : Int32)), .val (.ref b3), .val (.ref sb33), .val (.ref rb37), .val (.int stt), .val (.int enn), .val (.int len)] [(.int (1 : Int32))])) _
      refine XS.ifNo X119.here hx rfl (hb hby at_276) rfl ((if0 _ _).trans (feq (by decide : ¬ ((1 : Int32) = (0 : Int32)))).1) ?_
      show Steps p.tables e below (T119.setTop (mkF m 279 #[.val (.int x0), .val (.int x1), .val (.int x2), .val (.int x3), .val (.int x4), .val (.int (2 : Int32)), .val (.ref b3), .val (.ref sb33), .val (.ref rb37), .val (.int stt), .val (.int enn), .val (.int len)] [])) _
      refine XS.aload X119.here hx rfl (hb hby at_279) rfl rfl ?_
      show Steps p.tables e below (T119.setTop (mkF m 281 #[.val (.int x0), .val (.int x1), .val (.int x2), .val (.int x3), .val (.int x4), .val (.int (2 : Int32)), .val (.ref b3), .val (.ref sb33), .val (.ref rb37), .val (.int stt), .val (.int enn), .val (.int len)] [(.ref rb37)])) _
      refine XS.iconst X119.here hx rfl (hb hby at_281) ?_
      show Steps p.tables e below (T119.setTop (mkF m 282 #[.val (.int x0), .val (.int x1), .val (.int x2), .val (.int x3), .val (.int x4), .val (.int (2 : Int32)), .val (.ref b3), .val (.ref sb33), .val (.ref rb37), .val (.int stt), .val (.int enn), .val (.int len)] [(.int (1 : Int32)), (.ref rb37)])) _
      refine XS.aload X119.here hx rfl (hb hby at_282) rfl rfl ?_
      show Steps p.tables e below (T119.setTop (mkF m 284 #[.val (.int x0), .val (.int x1), .val (.int x2), .val (.int x3), .val (.int x4), .val (.int (2 : Int32)), .val (.ref b3), .val (.ref sb33), .val (.ref rb37), .val (.int stt), .val (.int enn), .val (.int len)] [(.ref b3), (.int (1 : Int32)), (.ref rb37)])) _
      refine XS.iload X119.here hx rfl (hb hby at_284) rfl ?_
      show Steps p.tables e below (T119.setTop (mkF m 286 #[.val (.int x0), .val (.int x1), .val (.int x2), .val (.int x3), .val (.int x4), .val (.int (2 : Int32)), .val (.ref b3), .val (.ref sb33), .val (.ref rb37), .val (.int stt), .val (.int enn), .val (.int len)] [(.int stt), (.ref b3), (.int (1 : Int32)), (.ref rb37)])) _
      refine XS.iload X119.here hx rfl (hb hby at_286) rfl ?_
      show Steps p.tables e below (T119.setTop (mkF m 288 #[.val (.int x0), .val (.int x1), .val (.int x2), .val (.int x3), .val (.int x4), .val (.int (2 : Int32)), .val (.ref b3), .val (.ref sb33), .val (.ref rb37), .val (.int stt), .val (.int enn), .val (.int len)] [(.int len), (.int stt), (.ref b3), (.int (1 : Int32)), (.ref rb37)])) _
      refine st121 _ ?_
      show Steps p.tables e below (T121.setTop (mkF m 291 #[.val (.int x0), .val (.int x1), .val (.int x2), .val (.int x3), .val (.int x4), .val (.int (2 : Int32)), .val (.ref b3), .val (.ref sb33), .val (.ref rb37), .val (.int stt), .val (.int enn), .val (.int len)] [(.int (1 : Int32))])) _
      refine XS.ifNo X121.here hx rfl (hb hby at_291) rfl ((if0 _ _).trans (feq (by decide : ¬ ((1 : Int32) = (0 : Int32)))).1) ?_
      show Steps p.tables e below (T121.setTop (mkF m 294 #[.val (.int x0), .val (.int x1), .val (.int x2), .val (.int x3), .val (.int x4), .val (.int (2 : Int32)), .val (.ref b3), .val (.ref sb33), .val (.ref rb37), .val (.int stt), .val (.int enn), .val (.int len)] [])) _
      refine XS.aload X121.here hx rfl (hb hby at_294) rfl rfl ?_
      show Steps p.tables e below (T121.setTop (mkF m 296 #[.val (.int x0), .val (.int x1), .val (.int x2), .val (.int x3), .val (.int x4), .val (.int (2 : Int32)), .val (.ref b3), .val (.ref sb33), .val (.ref rb37), .val (.int stt), .val (.int enn), .val (.int len)] [(.ref rb37)])) _
      refine XS.iconst X121.here hx rfl (hb hby at_296) ?_
      show Steps p.tables e below (T121.setTop (mkF m 297 #[.val (.int x0), .val (.int x1), .val (.int x2), .val (.int x3), .val (.int x4), .val (.int (2 : Int32)), .val (.ref b3), .val (.ref sb33), .val (.ref rb37), .val (.int stt), .val (.int enn), .val (.int len)] [(.int (2 : Int32)), (.ref rb37)])) _
      refine XS.aload X121.here hx rfl (hb hby at_297) rfl rfl ?_
      show Steps p.tables e below (T121.setTop (mkF m 299 #[.val (.int x0), .val (.int x1), .val (.int x2), .val (.int x3), .val (.int x4), .val (.int (2 : Int32)), .val (.ref b3), .val (.ref sb33), .val (.ref rb37), .val (.int stt), .val (.int enn), .val (.int len)] [(.ref b3), (.int (2 : Int32)), (.ref rb37)])) _
      refine XS.iload X121.here hx rfl (hb hby at_299) rfl ?_
      show Steps p.tables e below (T121.setTop (mkF m 301 #[.val (.int x0), .val (.int x1), .val (.int x2), .val (.int x3), .val (.int x4), .val (.int (2 : Int32)), .val (.ref b3), .val (.ref sb33), .val (.ref rb37), .val (.int stt), .val (.int enn), .val (.int len)] [(.int stt), (.ref b3), (.int (2 : Int32)), (.ref rb37)])) _
      refine XS.iload X121.here hx rfl (hb hby at_301) rfl ?_
      show Steps p.tables e below (T121.setTop (mkF m 303 #[.val (.int x0), .val (.int x1), .val (.int x2), .val (.int x3), .val (.int x4), .val (.int (2 : Int32)), .val (.ref b3), .val (.ref sb33), .val (.ref rb37), .val (.int stt), .val (.int enn), .val (.int len)] [(.int len), (.int stt), (.ref b3), (.int (2 : Int32)), (.ref rb37)])) _
      refine st123 _ ?_
      show Steps p.tables e below (T123.setTop (mkF m 306 #[.val (.int x0), .val (.int x1), .val (.int x2), .val (.int x3), .val (.int x4), .val (.int (2 : Int32)), .val (.ref b3), .val (.ref sb33), .val (.ref rb37), .val (.int stt), .val (.int enn), .val (.int len)] [(.int (1 : Int32))])) _
      refine XS.ifNo X123.here hx rfl (hb hby at_306) rfl ((if0 _ _).trans (feq (by decide : ¬ ((1 : Int32) = (0 : Int32)))).1) ?_
      show Steps p.tables e below (T123.setTop (mkF m 309 #[.val (.int x0), .val (.int x1), .val (.int x2), .val (.int x3), .val (.int x4), .val (.int (2 : Int32)), .val (.ref b3), .val (.ref sb33), .val (.ref rb37), .val (.int stt), .val (.int enn), .val (.int len)] [])) _
      refine XS.aload X123.here hx rfl (hb hby at_309) rfl rfl ?_
      show Steps p.tables e below (T123.setTop (mkF m 311 #[.val (.int x0), .val (.int x1), .val (.int x2), .val (.int x3), .val (.int x4), .val (.int (2 : Int32)), .val (.ref b3), .val (.ref sb33), .val (.ref rb37), .val (.int stt), .val (.int enn), .val (.int len)] [(.ref rb37)])) _
      refine XS.iconst X123.here hx rfl (hb hby at_311) ?_
      show Steps p.tables e below (T123.setTop (mkF m 312 #[.val (.int x0), .val (.int x1), .val (.int x2), .val (.int x3), .val (.int x4), .val (.int (2 : Int32)), .val (.ref b3), .val (.ref sb33), .val (.ref rb37), .val (.int stt), .val (.int enn), .val (.int len)] [(.int (3 : Int32)), (.ref rb37)])) _
      refine XS.aload X123.here hx rfl (hb hby at_312) rfl rfl ?_
      show Steps p.tables e below (T123.setTop (mkF m 314 #[.val (.int x0), .val (.int x1), .val (.int x2), .val (.int x3), .val (.int x4), .val (.int (2 : Int32)), .val (.ref b3), .val (.ref sb33), .val (.ref rb37), .val (.int stt), .val (.int enn), .val (.int len)] [(.ref b3), (.int (3 : Int32)), (.ref rb37)])) _
      refine XS.iload X123.here hx rfl (hb hby at_314) rfl ?_
      show Steps p.tables e below (T123.setTop (mkF m 316 #[.val (.int x0), .val (.int x1), .val (.int x2), .val (.int x3), .val (.int x4), .val (.int (2 : Int32)), .val (.ref b3), .val (.ref sb33), .val (.ref rb37), .val (.int stt), .val (.int enn), .val (.int len)] [(.int stt), (.ref b3), (.int (3 : Int32)), (.ref rb37)])) _
      refine XS.iload X123.here hx rfl (hb hby at_316) rfl ?_
      show Steps p.tables e below (T123.setTop (mkF m 318 #[.val (.int x0), .val (.int x1), .val (.int x2), .val (.int x3), .val (.int x4), .val (.int (2 : Int32)), .val (.ref b3), .val (.ref sb33), .val (.ref rb37), .val (.int stt), .val (.int enn), .val (.int len)] [(.int len), (.int stt), (.ref b3), (.int (3 : Int32)), (.ref rb37)])) _
      refine st125 _ ?_
      show Steps p.tables e below (T125.setTop (mkF m 321 #[.val (.int x0), .val (.int x1), .val (.int x2), .val (.int x3), .val (.int x4), .val (.int (2 : Int32)), .val (.ref b3), .val (.ref sb33), .val (.ref rb37), .val (.int stt), .val (.int enn), .val (.int len)] [(.int (1 : Int32))])) _
      refine XS.ifNo X125.here hx rfl (hb hby at_321) rfl ((if0 _ _).trans (feq (by decide : ¬ ((1 : Int32) = (0 : Int32)))).1) ?_
      show Steps p.tables e below (T125.setTop (mkF m 324 #[.val (.int x0), .val (.int x1), .val (.int x2), .val (.int x3), .val (.int x4), .val (.int (2 : Int32)), .val (.ref b3), .val (.ref sb33), .val (.ref rb37), .val (.int stt), .val (.int enn), .val (.int len)] [])) _
      refine XS.iconst X125.here hx rfl (hb hby at_324) ?_
      show Steps p.tables e below (T125.setTop (mkF m 325 #[.val (.int x0), .val (.int x1), .val (.int x2), .val (.int x3), .val (.int x4), .val (.int (2 : Int32)), .val (.ref b3), .val (.ref sb33), .val (.ref rb37), .val (.int stt), .val (.int enn), .val (.int len)] [(.int (1 : Int32))])) _
      refine XS.goto X125.here hx rfl (pc0 := 325) (pc' := 329) rfl (hb hby at_325) (by decide) (by decide) ?_
      show Steps p.tables e below (T125.setTop (mkF m 329 #[.val (.int x0), .val (.int x1), .val (.int x2), .val (.int x3), .val (.int x4), .val (.int (2 : Int32)), .val (.ref b3), .val (.ref sb33), .val (.ref rb37), .val (.int stt), .val (.int enn), .val (.int len)] [(.int (1 : Int32))])) _
      exact retOut X125 hx Bd.returns rfl (Or.inl ⟨rfl, Or.inr (Or.inl rfl), _, rfl⟩) (hb hby at_329) hretL
    · show Q_rm0 Z x0 x1 x2 x3 x4 G1 fm h0 n0 _ T125.heap _
      rw [eq125]
      exact ⟨rfl, N126⟩
  · have pre127 : ∀ tgt, Steps p.tables e below (T37.setTop (mkF m 58 #[.val (.int x0), .val (.int x1), .val (.int x2), .val (.int x3), .val (.int x4), .val (.int (3 : Int32)), .val (.ref b3), .val (.ref sb33), .val (.ref rb37), .unset, .unset, .unset] [])) tgt → Steps p.tables e below (s₁.setTop (entryFrame m #[(.int x0), (.int x1), (.int x2), (.int x3), (.int x4)] maxLocals)) tgt := by
      have q := pre42
      rw [hq] at q
      exact q
    have hSk : SB [(nar .char (pkc x1)), (nar .char (pkc x2)), (nar .char (pkc x3))] i1 j2 := by have q := hSB; rw [hq] at q; exact q
    have f129 := (f39.keep kp37 nin0)
    obtain ⟨cl128, Ar128, q128, S128, M128, H128, G128⟩ := id f129
    have hin128 : ¬ ((0 : Int32) < 0 ∨ cl128.slots.size ≤ ((0 : Int32)).toNatClampNeg) := inb_of S128 ⟨by decide, by decide⟩
    have hat128 : cl128.slots[((0 : Int32)).toNatClampNeg]? = some (.int (nar .char (pkc x1))) := H128.at hin128 rfl
    obtain ⟨_, _, ⟨T130, L130, k130, n130⟩, -, X130, ⟨Lc130, hQ130, l130, y130, z130⟩, st130⟩ := Jvm.LawKit.callS X37 hx (y := (⟨"com/example/redress/redress/definition/StatementStripBlanksPinLaw", "blank", "(C)Z"⟩ : MethodName)) hown37 (mvT hZ37 (ow121 hw)) (mvT hZ37 (ow122 hw)) (mvT hZ37 (ow4 hw)) (mvT hZ37 (ow123 hw)) (by decide) (backOf (W := 0) (rmbl l Z a0 hw [] (nar .char (pkc x1))  T37.heap n0 O41 ) hZ37 (ow123 hw) (ow4 hw) (by decide) (by decide)) (g := (mkF m 68 #[.val (.int x0), .val (.int x1), .val (.int x2), .val (.int x3), .val (.int x4), .val (.int (3 : Int32)), .val (.ref b3), .val (.ref sb33), .val (.ref rb37), .unset, .unset, .unset] [(.int (nar .char (pkc x1)))])) rfl (by rw [hml]; rfl) (argsL := [(.int (nar .char (pkc x1)))]) (rest := []) (lenOf pd12 rfl) rfl (by show 2 * 0 + _ ≤ _; exact Nat.le_of_eq rfl) (hb hby at_68) (fun _ _ => ⟨rfl, rfl, (by decide : 9 + 0 ≤ _), (by decide : 24 + 0 ≤ _)⟩)
    dsimp only [Pt.U, Pt.locs, Pt.cells, Pt.slots] at X130 l130 y130 z130 st130 hQ130
    subst l130 y130 z130
    obtain ⟨rfl, Nq130, eq130⟩ := hQ130
    have N131 := Fr.app N38 Nq130
    have pre132 : ∀ tgt, Steps p.tables e below (T130.setTop (mkF m 71 #[.val (.int x0), .val (.int x1), .val (.int x2), .val (.int x3), .val (.int x4), .val (.int (3 : Int32)), .val (.ref b3), .val (.ref sb33), .val (.ref rb37), .unset, .unset, .unset] [(.int (bl (nar .char (pkc x1))))])) tgt → Steps p.tables e below (s₁.setTop (entryFrame m #[(.int x0), (.int x1), (.int x2), (.int x3), (.int x4)] maxLocals)) tgt := by
      intro tgt kgo
      refine pre127 _ ?_
      refine XS.iconst X37.here hx rfl (hb hby at_58) ?_
      show Steps p.tables e below (T37.setTop (mkF m 59 #[.val (.int x0), .val (.int x1), .val (.int x2), .val (.int x3), .val (.int x4), .val (.int (3 : Int32)), .val (.ref b3), .val (.ref sb33), .val (.ref rb37), .unset, .unset, .unset] [(.int (0 : Int32))])) _
      refine XS.iload X37.here hx rfl (hb hby at_59) rfl ?_
      show Steps p.tables e below (T37.setTop (mkF m 61 #[.val (.int x0), .val (.int x1), .val (.int x2), .val (.int x3), .val (.int x4), .val (.int (3 : Int32)), .val (.ref b3), .val (.ref sb33), .val (.ref rb37), .unset, .unset, .unset] [(.int (3 : Int32)), (.int (0 : Int32))])) _
      refine XS.icmpNo X37.here hx rfl (hb hby at_61) rfl (tlt (by decide : (0 : Int32) < (3 : Int32))).2.1 ?_
      show Steps p.tables e below (T37.setTop (mkF m 64 #[.val (.int x0), .val (.int x1), .val (.int x2), .val (.int x3), .val (.int x4), .val (.int (3 : Int32)), .val (.ref b3), .val (.ref sb33), .val (.ref rb37), .unset, .unset, .unset] [])) _
      refine XS.aload X37.here hx rfl (hb hby at_64) rfl rfl ?_
      show Steps p.tables e below (T37.setTop (mkF m 66 #[.val (.int x0), .val (.int x1), .val (.int x2), .val (.int x3), .val (.int x4), .val (.int (3 : Int32)), .val (.ref b3), .val (.ref sb33), .val (.ref rb37), .unset, .unset, .unset] [(.ref b3)])) _
      refine XS.iconst X37.here hx rfl (hb hby at_66) ?_
      show Steps p.tables e below (T37.setTop (mkF m 67 #[.val (.int x0), .val (.int x1), .val (.int x2), .val (.int x3), .val (.int x4), .val (.int (3 : Int32)), .val (.ref b3), .val (.ref sb33), .val (.ref rb37), .unset, .unset, .unset] [(.int (0 : Int32)), (.ref b3)])) _
      refine X37.caload hx (j := (0 : Int32)) (v := (.int (nar .char (pkc x1)))) Ar128.1 (State.isArrayOf_alike hZ37.alike Ar128.2.1) Ar128.2.2 hin128 hat128 (g := (mkF m 67 #[.val (.int x0), .val (.int x1), .val (.int x2), .val (.int x3), .val (.int x4), .val (.int (3 : Int32)), .val (.ref b3), .val (.ref sb33), .val (.ref rb37), .unset, .unset, .unset] [(.int (0 : Int32)), (.ref b3)])) rfl rfl (hb hby at_67) _ ?_
      show Steps p.tables e below (T37.setTop (mkF m 68 #[.val (.int x0), .val (.int x1), .val (.int x2), .val (.int x3), .val (.int x4), .val (.int (3 : Int32)), .val (.ref b3), .val (.ref sb33), .val (.ref rb37), .unset, .unset, .unset] [(.int (nar .char (pkc x1)))])) _
      refine st130 _ ?_
      show Steps p.tables e below (T130.setTop (mkF m 71 #[.val (.int x0), .val (.int x1), .val (.int x2), .val (.int x3), .val (.int x4), .val (.int (3 : Int32)), .val (.ref b3), .val (.ref sb33), .val (.ref rb37), .unset, .unset, .unset] [(.int (bl (nar .char (pkc x1))))])) _
      exact kgo
    obtain ⟨T133, lo133, stt, X133, e133, N133, hstt, pre133⟩ : ∃ (T' : State) (lo133 : List Loc) (stt : Int32), Stand p l e room_1 (s.setVm T37.vm) m #[(.int x0), (.int x1), (.int x2), (.int x3), (.int x4)] below meth c T' lo133 9 24 ∧ T'.heap = T37.heap ∧ Fr n0 lo133 ∧ stt = (if (bl (nar .char (pkc x1))) = (0 : Int32) then (0 : Int32) else (if (bl (nar .char (pkc x2))) = (0 : Int32) then (1 : Int32) else (if (bl (nar .char (pkc x3))) = (0 : Int32) then (2 : Int32) else (3 : Int32)))) ∧ ∀ tgt, Steps p.tables e below (T'.setTop (mkF m 150 #[.val (.int x0), .val (.int x1), .val (.int x2), .val (.int x3), .val (.int x4), .val (.int (3 : Int32)), .val (.ref b3), .val (.ref sb33), .val (.ref rb37), .val (.int stt), .unset, .unset] [])) tgt → Steps p.tables e below (s₁.setTop (entryFrame m #[(.int x0), (.int x1), (.int x2), (.int x3), (.int x4)] maxLocals)) tgt := by
      by_cases hc71_134 : (bl (nar .char (pkc x1))) = (0 : Int32)
      · have pre135 : ∀ tgt, Steps p.tables e below (T130.setTop (mkF m 150 #[.val (.int x0), .val (.int x1), .val (.int x2), .val (.int x3), .val (.int x4), .val (.int (3 : Int32)), .val (.ref b3), .val (.ref sb33), .val (.ref rb37), .val (.int (0 : Int32)), .unset, .unset] [])) tgt → Steps p.tables e below (s₁.setTop (entryFrame m #[(.int x0), (.int x1), (.int x2), (.int x3), (.int x4)] maxLocals)) tgt := by
          intro tgt kgo
          refine pre132 _ ?_
          refine XS.ifNo X130.here hx rfl (hb hby at_71) rfl ((if0 _ _).trans (teq hc71_134).2) ?_
          show Steps p.tables e below (T130.setTop (mkF m 74 #[.val (.int x0), .val (.int x1), .val (.int x2), .val (.int x3), .val (.int x4), .val (.int (3 : Int32)), .val (.ref b3), .val (.ref sb33), .val (.ref rb37), .unset, .unset, .unset] [])) _
          refine XS.iconst X130.here hx rfl (hb hby at_74) ?_
          show Steps p.tables e below (T130.setTop (mkF m 75 #[.val (.int x0), .val (.int x1), .val (.int x2), .val (.int x3), .val (.int x4), .val (.int (3 : Int32)), .val (.ref b3), .val (.ref sb33), .val (.ref rb37), .unset, .unset, .unset] [(.int (0 : Int32))])) _
          refine XS.istore X130.here hx rfl (hb hby at_75) rfl (l' := #[.val (.int x0), .val (.int x1), .val (.int x2), .val (.int x3), .val (.int x4), .val (.int (3 : Int32)), .val (.ref b3), .val (.ref sb33), .val (.ref rb37), .val (.int (0 : Int32)), .unset, .unset]) rfl ?_
          show Steps p.tables e below (T130.setTop (mkF m 77 #[.val (.int x0), .val (.int x1), .val (.int x2), .val (.int x3), .val (.int x4), .val (.int (3 : Int32)), .val (.ref b3), .val (.ref sb33), .val (.ref rb37), .val (.int (0 : Int32)), .unset, .unset] [])) _
          refine XS.goto X130.here hx rfl (pc0 := 77) (pc' := 150) rfl (hb hby at_77) (by decide) (by decide) ?_
          show Steps p.tables e below (T130.setTop (mkF m 150 #[.val (.int x0), .val (.int x1), .val (.int x2), .val (.int x3), .val (.int x4), .val (.int (3 : Int32)), .val (.ref b3), .val (.ref sb33), .val (.ref rb37), .val (.int (0 : Int32)), .unset, .unset] [])) _
          exact kgo
        exact ⟨T130, _, (0 : Int32), X130, eq130, N131, (by simp only [if_pos hc71_134]), pre135⟩
      · obtain ⟨cl136, Ar136, q136, S136, M136, H136, G136⟩ := id f129
        have hin136 : ¬ ((1 : Int32) < 0 ∨ cl136.slots.size ≤ ((1 : Int32)).toNatClampNeg) := inb_of S136 ⟨by decide, by decide⟩
        have hat136 : cl136.slots[((1 : Int32)).toNatClampNeg]? = some (.int (nar .char (pkc x2))) := H136.at hin136 rfl
        obtain ⟨_, _, ⟨T137, L137, k137, n137⟩, -, X137, ⟨Lc137, hQ137, l137, y137, z137⟩, st137⟩ := Jvm.LawKit.callS X130 hx (y := (⟨"com/example/redress/redress/definition/StatementStripBlanksPinLaw", "blank", "(C)Z"⟩ : MethodName)) hown37 (mvT hZ37 (ow121 hw)) (mvT hZ37 (ow122 hw)) (mvT hZ37 (ow4 hw)) (mvT hZ37 (ow123 hw)) (by decide) (backOf (W := 0) (rmbl l Z a0 hw [] (nar .char (pkc x2))  T37.heap n0 O41 ) hZ37 (ow123 hw) (ow4 hw) (by decide) (by decide)) (g := (mkF m 90 #[.val (.int x0), .val (.int x1), .val (.int x2), .val (.int x3), .val (.int x4), .val (.int (3 : Int32)), .val (.ref b3), .val (.ref sb33), .val (.ref rb37), .unset, .unset, .unset] [(.int (nar .char (pkc x2)))])) rfl (by rw [hml]; rfl) (argsL := [(.int (nar .char (pkc x2)))]) (rest := []) (lenOf pd12 rfl) rfl (by show 2 * 0 + _ ≤ _; exact Nat.le_of_eq rfl) (hb hby at_90) (fun _ _ => ⟨rfl, eq130, (by decide : 9 + 0 ≤ _), (by decide : 24 + 0 ≤ _)⟩)
        dsimp only [Pt.U, Pt.locs, Pt.cells, Pt.slots] at X137 l137 y137 z137 st137 hQ137
        subst l137 y137 z137
        obtain ⟨rfl, Nq137, eq137⟩ := hQ137
        have N138 := Fr.app N131 Nq137
        have pre139 : ∀ tgt, Steps p.tables e below (T137.setTop (mkF m 93 #[.val (.int x0), .val (.int x1), .val (.int x2), .val (.int x3), .val (.int x4), .val (.int (3 : Int32)), .val (.ref b3), .val (.ref sb33), .val (.ref rb37), .unset, .unset, .unset] [(.int (bl (nar .char (pkc x2))))])) tgt → Steps p.tables e below (s₁.setTop (entryFrame m #[(.int x0), (.int x1), (.int x2), (.int x3), (.int x4)] maxLocals)) tgt := by
          intro tgt kgo
          refine pre132 _ ?_
          refine XS.ifYes X130.here hx rfl (pc0 := 71) (pc' := 80) rfl (hb hby at_71) rfl ((if0 _ _).trans (feq hc71_134).2) (by decide) (by decide) ?_
          show Steps p.tables e below (T130.setTop (mkF m 80 #[.val (.int x0), .val (.int x1), .val (.int x2), .val (.int x3), .val (.int x4), .val (.int (3 : Int32)), .val (.ref b3), .val (.ref sb33), .val (.ref rb37), .unset, .unset, .unset] [])) _
          refine XS.iconst X130.here hx rfl (hb hby at_80) ?_
          show Steps p.tables e below (T130.setTop (mkF m 81 #[.val (.int x0), .val (.int x1), .val (.int x2), .val (.int x3), .val (.int x4), .val (.int (3 : Int32)), .val (.ref b3), .val (.ref sb33), .val (.ref rb37), .unset, .unset, .unset] [(.int (1 : Int32))])) _
          refine XS.iload X130.here hx rfl (hb hby at_81) rfl ?_
          show Steps p.tables e below (T130.setTop (mkF m 83 #[.val (.int x0), .val (.int x1), .val (.int x2), .val (.int x3), .val (.int x4), .val (.int (3 : Int32)), .val (.ref b3), .val (.ref sb33), .val (.ref rb37), .unset, .unset, .unset] [(.int (3 : Int32)), (.int (1 : Int32))])) _
          refine XS.icmpNo X130.here hx rfl (hb hby at_83) rfl (tlt (by decide : (1 : Int32) < (3 : Int32))).2.1 ?_
          show Steps p.tables e below (T130.setTop (mkF m 86 #[.val (.int x0), .val (.int x1), .val (.int x2), .val (.int x3), .val (.int x4), .val (.int (3 : Int32)), .val (.ref b3), .val (.ref sb33), .val (.ref rb37), .unset, .unset, .unset] [])) _
          refine XS.aload X130.here hx rfl (hb hby at_86) rfl rfl ?_
          show Steps p.tables e below (T130.setTop (mkF m 88 #[.val (.int x0), .val (.int x1), .val (.int x2), .val (.int x3), .val (.int x4), .val (.int (3 : Int32)), .val (.ref b3), .val (.ref sb33), .val (.ref rb37), .unset, .unset, .unset] [(.ref b3)])) _
          refine XS.iconst X130.here hx rfl (hb hby at_88) ?_
          show Steps p.tables e below (T130.setTop (mkF m 89 #[.val (.int x0), .val (.int x1), .val (.int x2), .val (.int x3), .val (.int x4), .val (.int (3 : Int32)), .val (.ref b3), .val (.ref sb33), .val (.ref rb37), .unset, .unset, .unset] [(.int (1 : Int32)), (.ref b3)])) _
          refine X130.caload hx (j := (1 : Int32)) (v := (.int (nar .char (pkc x2)))) (by rw [eq130]; exact Ar136.1) (State.isArrayOf_alike hZ37.alike Ar136.2.1) Ar136.2.2 hin136 hat136 (g := (mkF m 89 #[.val (.int x0), .val (.int x1), .val (.int x2), .val (.int x3), .val (.int x4), .val (.int (3 : Int32)), .val (.ref b3), .val (.ref sb33), .val (.ref rb37), .unset, .unset, .unset] [(.int (1 : Int32)), (.ref b3)])) rfl rfl (hb hby at_89) _ ?_
          show Steps p.tables e below (T130.setTop (mkF m 90 #[.val (.int x0), .val (.int x1), .val (.int x2), .val (.int x3), .val (.int x4), .val (.int (3 : Int32)), .val (.ref b3), .val (.ref sb33), .val (.ref rb37), .unset, .unset, .unset] [(.int (nar .char (pkc x2)))])) _
          refine st137 _ ?_
          show Steps p.tables e below (T137.setTop (mkF m 93 #[.val (.int x0), .val (.int x1), .val (.int x2), .val (.int x3), .val (.int x4), .val (.int (3 : Int32)), .val (.ref b3), .val (.ref sb33), .val (.ref rb37), .unset, .unset, .unset] [(.int (bl (nar .char (pkc x2))))])) _
          exact kgo
        by_cases hc93_140 : (bl (nar .char (pkc x2))) = (0 : Int32)
        · have pre141 : ∀ tgt, Steps p.tables e below (T137.setTop (mkF m 150 #[.val (.int x0), .val (.int x1), .val (.int x2), .val (.int x3), .val (.int x4), .val (.int (3 : Int32)), .val (.ref b3), .val (.ref sb33), .val (.ref rb37), .val (.int (1 : Int32)), .unset, .unset] [])) tgt → Steps p.tables e below (s₁.setTop (entryFrame m #[(.int x0), (.int x1), (.int x2), (.int x3), (.int x4)] maxLocals)) tgt := by
            intro tgt kgo
            refine pre139 _ ?_
            refine XS.ifNo X137.here hx rfl (hb hby at_93) rfl ((if0 _ _).trans (teq hc93_140).2) ?_
            show Steps p.tables e below (T137.setTop (mkF m 96 #[.val (.int x0), .val (.int x1), .val (.int x2), .val (.int x3), .val (.int x4), .val (.int (3 : Int32)), .val (.ref b3), .val (.ref sb33), .val (.ref rb37), .unset, .unset, .unset] [])) _
            refine XS.iconst X137.here hx rfl (hb hby at_96) ?_
            show Steps p.tables e below (T137.setTop (mkF m 97 #[.val (.int x0), .val (.int x1), .val (.int x2), .val (.int x3), .val (.int x4), .val (.int (3 : Int32)), .val (.ref b3), .val (.ref sb33), .val (.ref rb37), .unset, .unset, .unset] [(.int (1 : Int32))])) _
            refine XS.istore X137.here hx rfl (hb hby at_97) rfl (l' := #[.val (.int x0), .val (.int x1), .val (.int x2), .val (.int x3), .val (.int x4), .val (.int (3 : Int32)), .val (.ref b3), .val (.ref sb33), .val (.ref rb37), .val (.int (1 : Int32)), .unset, .unset]) rfl ?_
            show Steps p.tables e below (T137.setTop (mkF m 99 #[.val (.int x0), .val (.int x1), .val (.int x2), .val (.int x3), .val (.int x4), .val (.int (3 : Int32)), .val (.ref b3), .val (.ref sb33), .val (.ref rb37), .val (.int (1 : Int32)), .unset, .unset] [])) _
            refine XS.goto X137.here hx rfl (pc0 := 99) (pc' := 150) rfl (hb hby at_99) (by decide) (by decide) ?_
            show Steps p.tables e below (T137.setTop (mkF m 150 #[.val (.int x0), .val (.int x1), .val (.int x2), .val (.int x3), .val (.int x4), .val (.int (3 : Int32)), .val (.ref b3), .val (.ref sb33), .val (.ref rb37), .val (.int (1 : Int32)), .unset, .unset] [])) _
            exact kgo
          exact ⟨T137, _, (1 : Int32), X137, eq137, N138, (by simp only [if_neg hc71_134, if_pos hc93_140]), pre141⟩
        · obtain ⟨cl142, Ar142, q142, S142, M142, H142, G142⟩ := id f129
          have hin142 : ¬ ((2 : Int32) < 0 ∨ cl142.slots.size ≤ ((2 : Int32)).toNatClampNeg) := inb_of S142 ⟨by decide, by decide⟩
          have hat142 : cl142.slots[((2 : Int32)).toNatClampNeg]? = some (.int (nar .char (pkc x3))) := H142.at hin142 rfl
          obtain ⟨_, _, ⟨T143, L143, k143, n143⟩, -, X143, ⟨Lc143, hQ143, l143, y143, z143⟩, st143⟩ := Jvm.LawKit.callS X137 hx (y := (⟨"com/example/redress/redress/definition/StatementStripBlanksPinLaw", "blank", "(C)Z"⟩ : MethodName)) hown37 (mvT hZ37 (ow121 hw)) (mvT hZ37 (ow122 hw)) (mvT hZ37 (ow4 hw)) (mvT hZ37 (ow123 hw)) (by decide) (backOf (W := 0) (rmbl l Z a0 hw [] (nar .char (pkc x3))  T37.heap n0 O41 ) hZ37 (ow123 hw) (ow4 hw) (by decide) (by decide)) (g := (mkF m 112 #[.val (.int x0), .val (.int x1), .val (.int x2), .val (.int x3), .val (.int x4), .val (.int (3 : Int32)), .val (.ref b3), .val (.ref sb33), .val (.ref rb37), .unset, .unset, .unset] [(.int (nar .char (pkc x3)))])) rfl (by rw [hml]; rfl) (argsL := [(.int (nar .char (pkc x3)))]) (rest := []) (lenOf pd12 rfl) rfl (by show 2 * 0 + _ ≤ _; exact Nat.le_of_eq rfl) (hb hby at_112) (fun _ _ => ⟨rfl, eq137, (by decide : 9 + 0 ≤ _), (by decide : 24 + 0 ≤ _)⟩)
          dsimp only [Pt.U, Pt.locs, Pt.cells, Pt.slots] at X143 l143 y143 z143 st143 hQ143
          subst l143 y143 z143
          obtain ⟨rfl, Nq143, eq143⟩ := hQ143
          have N144 := Fr.app N138 Nq143
          have pre145 : ∀ tgt, Steps p.tables e below (T143.setTop (mkF m 115 #[.val (.int x0), .val (.int x1), .val (.int x2), .val (.int x3), .val (.int x4), .val (.int (3 : Int32)), .val (.ref b3), .val (.ref sb33), .val (.ref rb37), .unset, .unset, .unset] [(.int (bl (nar .char (pkc x3))))])) tgt → Steps p.tables e below (s₁.setTop (entryFrame m #[(.int x0), (.int x1), (.int x2), (.int x3), (.int x4)] maxLocals)) tgt := by
            intro tgt kgo
            refine pre139 _ ?_
            refine XS.ifYes X137.here hx rfl (pc0 := 93) (pc' := 102) rfl (hb hby at_93) rfl ((if0 _ _).trans (feq hc93_140).2) (by decide) (by decide) ?_
            show Steps p.tables e below (T137.setTop (mkF m 102 #[.val (.int x0), .val (.int x1), .val (.int x2), .val (.int x3), .val (.int x4), .val (.int (3 : Int32)), .val (.ref b3), .val (.ref sb33), .val (.ref rb37), .unset, .unset, .unset] [])) _
            refine XS.iconst X137.here hx rfl (hb hby at_102) ?_
            show Steps p.tables e below (T137.setTop (mkF m 103 #[.val (.int x0), .val (.int x1), .val (.int x2), .val (.int x3), .val (.int x4), .val (.int (3 : Int32)), .val (.ref b3), .val (.ref sb33), .val (.ref rb37), .unset, .unset, .unset] [(.int (2 : Int32))])) _
            refine XS.iload X137.here hx rfl (hb hby at_103) rfl ?_
            show Steps p.tables e below (T137.setTop (mkF m 105 #[.val (.int x0), .val (.int x1), .val (.int x2), .val (.int x3), .val (.int x4), .val (.int (3 : Int32)), .val (.ref b3), .val (.ref sb33), .val (.ref rb37), .unset, .unset, .unset] [(.int (3 : Int32)), (.int (2 : Int32))])) _
            refine XS.icmpNo X137.here hx rfl (hb hby at_105) rfl (tlt (by decide : (2 : Int32) < (3 : Int32))).2.1 ?_
            show Steps p.tables e below (T137.setTop (mkF m 108 #[.val (.int x0), .val (.int x1), .val (.int x2), .val (.int x3), .val (.int x4), .val (.int (3 : Int32)), .val (.ref b3), .val (.ref sb33), .val (.ref rb37), .unset, .unset, .unset] [])) _
            refine XS.aload X137.here hx rfl (hb hby at_108) rfl rfl ?_
            show Steps p.tables e below (T137.setTop (mkF m 110 #[.val (.int x0), .val (.int x1), .val (.int x2), .val (.int x3), .val (.int x4), .val (.int (3 : Int32)), .val (.ref b3), .val (.ref sb33), .val (.ref rb37), .unset, .unset, .unset] [(.ref b3)])) _
            refine XS.iconst X137.here hx rfl (hb hby at_110) ?_
            show Steps p.tables e below (T137.setTop (mkF m 111 #[.val (.int x0), .val (.int x1), .val (.int x2), .val (.int x3), .val (.int x4), .val (.int (3 : Int32)), .val (.ref b3), .val (.ref sb33), .val (.ref rb37), .unset, .unset, .unset] [(.int (2 : Int32)), (.ref b3)])) _
            refine X137.caload hx (j := (2 : Int32)) (v := (.int (nar .char (pkc x3)))) (by rw [eq137]; exact Ar142.1) (State.isArrayOf_alike hZ37.alike Ar142.2.1) Ar142.2.2 hin142 hat142 (g := (mkF m 111 #[.val (.int x0), .val (.int x1), .val (.int x2), .val (.int x3), .val (.int x4), .val (.int (3 : Int32)), .val (.ref b3), .val (.ref sb33), .val (.ref rb37), .unset, .unset, .unset] [(.int (2 : Int32)), (.ref b3)])) rfl rfl (hb hby at_111) _ ?_
            show Steps p.tables e below (T137.setTop (mkF m 112 #[.val (.int x0), .val (.int x1), .val (.int x2), .val (.int x3), .val (.int x4), .val (.int (3 : Int32)), .val (.ref b3), .val (.ref sb33), .val (.ref rb37), .unset, .unset, .unset] [(.int (nar .char (pkc x3)))])) _
            refine st143 _ ?_
            show Steps p.tables e below (T143.setTop (mkF m 115 #[.val (.int x0), .val (.int x1), .val (.int x2), .val (.int x3), .val (.int x4), .val (.int (3 : Int32)), .val (.ref b3), .val (.ref sb33), .val (.ref rb37), .unset, .unset, .unset] [(.int (bl (nar .char (pkc x3))))])) _
            exact kgo
          by_cases hc115_146 : (bl (nar .char (pkc x3))) = (0 : Int32)
          · have pre147 : ∀ tgt, Steps p.tables e below (T143.setTop (mkF m 150 #[.val (.int x0), .val (.int x1), .val (.int x2), .val (.int x3), .val (.int x4), .val (.int (3 : Int32)), .val (.ref b3), .val (.ref sb33), .val (.ref rb37), .val (.int (2 : Int32)), .unset, .unset] [])) tgt → Steps p.tables e below (s₁.setTop (entryFrame m #[(.int x0), (.int x1), (.int x2), (.int x3), (.int x4)] maxLocals)) tgt := by
              intro tgt kgo
              refine pre145 _ ?_
              refine XS.ifNo X143.here hx rfl (hb hby at_115) rfl ((if0 _ _).trans (teq hc115_146).2) ?_
              show Steps p.tables e below (T143.setTop (mkF m 118 #[.val (.int x0), .val (.int x1), .val (.int x2), .val (.int x3), .val (.int x4), .val (.int (3 : Int32)), .val (.ref b3), .val (.ref sb33), .val (.ref rb37), .unset, .unset, .unset] [])) _
              refine XS.iconst X143.here hx rfl (hb hby at_118) ?_
              show Steps p.tables e below (T143.setTop (mkF m 119 #[.val (.int x0), .val (.int x1), .val (.int x2), .val (.int x3), .val (.int x4), .val (.int (3 : Int32)), .val (.ref b3), .val (.ref sb33), .val (.ref rb37), .unset, .unset, .unset] [(.int (2 : Int32))])) _
              refine XS.istore X143.here hx rfl (hb hby at_119) rfl (l' := #[.val (.int x0), .val (.int x1), .val (.int x2), .val (.int x3), .val (.int x4), .val (.int (3 : Int32)), .val (.ref b3), .val (.ref sb33), .val (.ref rb37), .val (.int (2 : Int32)), .unset, .unset]) rfl ?_
              show Steps p.tables e below (T143.setTop (mkF m 121 #[.val (.int x0), .val (.int x1), .val (.int x2), .val (.int x3), .val (.int x4), .val (.int (3 : Int32)), .val (.ref b3), .val (.ref sb33), .val (.ref rb37), .val (.int (2 : Int32)), .unset, .unset] [])) _
              refine XS.goto X143.here hx rfl (pc0 := 121) (pc' := 150) rfl (hb hby at_121) (by decide) (by decide) ?_
              show Steps p.tables e below (T143.setTop (mkF m 150 #[.val (.int x0), .val (.int x1), .val (.int x2), .val (.int x3), .val (.int x4), .val (.int (3 : Int32)), .val (.ref b3), .val (.ref sb33), .val (.ref rb37), .val (.int (2 : Int32)), .unset, .unset] [])) _
              exact kgo
            exact ⟨T143, _, (2 : Int32), X143, eq143, N144, (by simp only [if_neg hc71_134, if_neg hc93_140, if_pos hc115_146]), pre147⟩
          · have pre148 : ∀ tgt, Steps p.tables e below (T143.setTop (mkF m 150 #[.val (.int x0), .val (.int x1), .val (.int x2), .val (.int x3), .val (.int x4), .val (.int (3 : Int32)), .val (.ref b3), .val (.ref sb33), .val (.ref rb37), .val (.int (3 : Int32)), .unset, .unset] [])) tgt → Steps p.tables e below (s₁.setTop (entryFrame m #[(.int x0), (.int x1), (.int x2), (.int x3), (.int x4)] maxLocals)) tgt := by
              intro tgt kgo
              refine pre145 _ ?_
              refine XS.ifYes X143.here hx rfl (pc0 := 115) (pc' := 124) rfl (hb hby at_115) rfl ((if0 _ _).trans (feq hc115_146).2) (by decide) (by decide) ?_
              show Steps p.tables e below (T143.setTop (mkF m 124 #[.val (.int x0), .val (.int x1), .val (.int x2), .val (.int x3), .val (.int x4), .val (.int (3 : Int32)), .val (.ref b3), .val (.ref sb33), .val (.ref rb37), .unset, .unset, .unset] [])) _
              refine XS.iconst X143.here hx rfl (hb hby at_124) ?_
              show Steps p.tables e below (T143.setTop (mkF m 125 #[.val (.int x0), .val (.int x1), .val (.int x2), .val (.int x3), .val (.int x4), .val (.int (3 : Int32)), .val (.ref b3), .val (.ref sb33), .val (.ref rb37), .unset, .unset, .unset] [(.int (3 : Int32))])) _
              refine XS.iload X143.here hx rfl (hb hby at_125) rfl ?_
              show Steps p.tables e below (T143.setTop (mkF m 127 #[.val (.int x0), .val (.int x1), .val (.int x2), .val (.int x3), .val (.int x4), .val (.int (3 : Int32)), .val (.ref b3), .val (.ref sb33), .val (.ref rb37), .unset, .unset, .unset] [(.int (3 : Int32)), (.int (3 : Int32))])) _
              refine XS.icmpYes X143.here hx rfl (pc0 := 127) (pc' := 146) rfl (hb hby at_127) rfl (flt (by decide : ¬ ((3 : Int32) < (3 : Int32)))).2.1 (by decide) (by decide) ?_
              show Steps p.tables e below (T143.setTop (mkF m 146 #[.val (.int x0), .val (.int x1), .val (.int x2), .val (.int x3), .val (.int x4), .val (.int (3 : Int32)), .val (.ref b3), .val (.ref sb33), .val (.ref rb37), .unset, .unset, .unset] [])) _
              refine XS.iload X143.here hx rfl (hb hby at_146) rfl ?_
              show Steps p.tables e below (T143.setTop (mkF m 148 #[.val (.int x0), .val (.int x1), .val (.int x2), .val (.int x3), .val (.int x4), .val (.int (3 : Int32)), .val (.ref b3), .val (.ref sb33), .val (.ref rb37), .unset, .unset, .unset] [(.int (3 : Int32))])) _
              refine XS.istore X143.here hx rfl (hb hby at_148) rfl (l' := #[.val (.int x0), .val (.int x1), .val (.int x2), .val (.int x3), .val (.int x4), .val (.int (3 : Int32)), .val (.ref b3), .val (.ref sb33), .val (.ref rb37), .val (.int (3 : Int32)), .unset, .unset]) rfl ?_
              show Steps p.tables e below (T143.setTop (mkF m 150 #[.val (.int x0), .val (.int x1), .val (.int x2), .val (.int x3), .val (.int x4), .val (.int (3 : Int32)), .val (.ref b3), .val (.ref sb33), .val (.ref rb37), .val (.int (3 : Int32)), .unset, .unset] [])) _
              exact kgo
            exact ⟨T143, _, (3 : Int32), X143, eq143, N144, (by simp only [if_neg hc71_134, if_neg hc93_140, if_neg hc115_146]), pre148⟩
    obtain ⟨cl149, Ar149, q149, S149, M149, H149, G149⟩ := id f129
    have hin149 : ¬ ((2 : Int32) < 0 ∨ cl149.slots.size ≤ ((2 : Int32)).toNatClampNeg) := inb_of S149 ⟨by decide, by decide⟩
    have hat149 : cl149.slots[((2 : Int32)).toNatClampNeg]? = some (.int (nar .char (pkc x3))) := H149.at hin149 rfl
    obtain ⟨_, _, ⟨T150, L150, k150, n150⟩, -, X150, ⟨Lc150, hQ150, l150, y150, z150⟩, st150⟩ := Jvm.LawKit.callS X133 hx (y := (⟨"com/example/redress/redress/definition/StatementStripBlanksPinLaw", "blank", "(C)Z"⟩ : MethodName)) hown37 (mvT hZ37 (ow121 hw)) (mvT hZ37 (ow122 hw)) (mvT hZ37 (ow4 hw)) (mvT hZ37 (ow123 hw)) (by decide) (backOf (W := 0) (rmbl l Z a0 hw [] (nar .char (pkc x3))  T37.heap n0 O41 ) hZ37 (ow123 hw) (ow4 hw) (by decide) (by decide)) (g := (mkF m 182 #[.val (.int x0), .val (.int x1), .val (.int x2), .val (.int x3), .val (.int x4), .val (.int (3 : Int32)), .val (.ref b3), .val (.ref sb33), .val (.ref rb37), .val (.int stt), .unset, .unset] [(.int (nar .char (pkc x3)))])) rfl (by rw [hml]; rfl) (argsL := [(.int (nar .char (pkc x3)))]) (rest := []) (lenOf pd12 rfl) rfl (by show 2 * 0 + _ ≤ _; exact Nat.le_of_eq rfl) (hb hby at_182) (fun _ _ => ⟨rfl, e133, (by decide : 9 + 0 ≤ _), (by decide : 24 + 0 ≤ _)⟩)
    dsimp only [Pt.U, Pt.locs, Pt.cells, Pt.slots] at X150 l150 y150 z150 st150 hQ150
    subst l150 y150 z150
    obtain ⟨rfl, Nq150, eq150⟩ := hQ150
    have N151 := Fr.app N133 Nq150
    have pre152 : ∀ tgt, Steps p.tables e below (T150.setTop (mkF m 185 #[.val (.int x0), .val (.int x1), .val (.int x2), .val (.int x3), .val (.int x4), .val (.int (3 : Int32)), .val (.ref b3), .val (.ref sb33), .val (.ref rb37), .val (.int stt), .unset, .unset] [(.int (bl (nar .char (pkc x3))))])) tgt → Steps p.tables e below (s₁.setTop (entryFrame m #[(.int x0), (.int x1), (.int x2), (.int x3), (.int x4)] maxLocals)) tgt := by
      intro tgt kgo
      refine pre133 _ ?_
      refine XS.iconst X133.here hx rfl (hb hby at_150) ?_
      show Steps p.tables e below (T133.setTop (mkF m 151 #[.val (.int x0), .val (.int x1), .val (.int x2), .val (.int x3), .val (.int x4), .val (.int (3 : Int32)), .val (.ref b3), .val (.ref sb33), .val (.ref rb37), .val (.int stt), .unset, .unset] [(.int (3 : Int32))])) _
      refine XS.iload X133.here hx rfl (hb hby at_151) rfl ?_
      show Steps p.tables e below (T133.setTop (mkF m 153 #[.val (.int x0), .val (.int x1), .val (.int x2), .val (.int x3), .val (.int x4), .val (.int (3 : Int32)), .val (.ref b3), .val (.ref sb33), .val (.ref rb37), .val (.int stt), .unset, .unset] [(.int (3 : Int32)), (.int (3 : Int32))])) _
      refine XS.icmpYes X133.here hx rfl (pc0 := 153) (pc' := 172) rfl (hb hby at_153) rfl (flt (by decide : ¬ ((3 : Int32) < (3 : Int32)))).2.1 (by decide) (by decide) ?_
      show Steps p.tables e below (T133.setTop (mkF m 172 #[.val (.int x0), .val (.int x1), .val (.int x2), .val (.int x3), .val (.int x4), .val (.int (3 : Int32)), .val (.ref b3), .val (.ref sb33), .val (.ref rb37), .val (.int stt), .unset, .unset] [])) _
      refine XS.iconst X133.here hx rfl (hb hby at_172) ?_
      show Steps p.tables e below (T133.setTop (mkF m 173 #[.val (.int x0), .val (.int x1), .val (.int x2), .val (.int x3), .val (.int x4), .val (.int (3 : Int32)), .val (.ref b3), .val (.ref sb33), .val (.ref rb37), .val (.int stt), .unset, .unset] [(.int (2 : Int32))])) _
      refine XS.iload X133.here hx rfl (hb hby at_173) rfl ?_
      show Steps p.tables e below (T133.setTop (mkF m 175 #[.val (.int x0), .val (.int x1), .val (.int x2), .val (.int x3), .val (.int x4), .val (.int (3 : Int32)), .val (.ref b3), .val (.ref sb33), .val (.ref rb37), .val (.int stt), .unset, .unset] [(.int (3 : Int32)), (.int (2 : Int32))])) _
      refine XS.icmpNo X133.here hx rfl (hb hby at_175) rfl (tlt (by decide : (2 : Int32) < (3 : Int32))).2.1 ?_
      show Steps p.tables e below (T133.setTop (mkF m 178 #[.val (.int x0), .val (.int x1), .val (.int x2), .val (.int x3), .val (.int x4), .val (.int (3 : Int32)), .val (.ref b3), .val (.ref sb33), .val (.ref rb37), .val (.int stt), .unset, .unset] [])) _
      refine XS.aload X133.here hx rfl (hb hby at_178) rfl rfl ?_
      show Steps p.tables e below (T133.setTop (mkF m 180 #[.val (.int x0), .val (.int x1), .val (.int x2), .val (.int x3), .val (.int x4), .val (.int (3 : Int32)), .val (.ref b3), .val (.ref sb33), .val (.ref rb37), .val (.int stt), .unset, .unset] [(.ref b3)])) _
      refine XS.iconst X133.here hx rfl (hb hby at_180) ?_
      show Steps p.tables e below (T133.setTop (mkF m 181 #[.val (.int x0), .val (.int x1), .val (.int x2), .val (.int x3), .val (.int x4), .val (.int (3 : Int32)), .val (.ref b3), .val (.ref sb33), .val (.ref rb37), .val (.int stt), .unset, .unset] [(.int (2 : Int32)), (.ref b3)])) _
      refine X133.caload hx (j := (2 : Int32)) (v := (.int (nar .char (pkc x3)))) (by rw [e133]; exact Ar149.1) (State.isArrayOf_alike hZ37.alike Ar149.2.1) Ar149.2.2 hin149 hat149 (g := (mkF m 181 #[.val (.int x0), .val (.int x1), .val (.int x2), .val (.int x3), .val (.int x4), .val (.int (3 : Int32)), .val (.ref b3), .val (.ref sb33), .val (.ref rb37), .val (.int stt), .unset, .unset] [(.int (2 : Int32)), (.ref b3)])) rfl rfl (hb hby at_181) _ ?_
      show Steps p.tables e below (T133.setTop (mkF m 182 #[.val (.int x0), .val (.int x1), .val (.int x2), .val (.int x3), .val (.int x4), .val (.int (3 : Int32)), .val (.ref b3), .val (.ref sb33), .val (.ref rb37), .val (.int stt), .unset, .unset] [(.int (nar .char (pkc x3)))])) _
      refine st150 _ ?_
      show Steps p.tables e below (T150.setTop (mkF m 185 #[.val (.int x0), .val (.int x1), .val (.int x2), .val (.int x3), .val (.int x4), .val (.int (3 : Int32)), .val (.ref b3), .val (.ref sb33), .val (.ref rb37), .val (.int stt), .unset, .unset] [(.int (bl (nar .char (pkc x3))))])) _
      exact kgo
    obtain ⟨T153, lo153, enn, X153, e153, N153, henn, pre153⟩ : ∃ (T' : State) (lo153 : List Loc) (enn : Int32), Stand p l e room_1 (s.setVm T37.vm) m #[(.int x0), (.int x1), (.int x2), (.int x3), (.int x4)] below meth c T' lo153 9 24 ∧ T'.heap = T37.heap ∧ Fr n0 lo153 ∧ enn = (if (bl (nar .char (pkc x3))) = (0 : Int32) then (3 : Int32) else (if (bl (nar .char (pkc x2))) = (0 : Int32) then (2 : Int32) else (if (bl (nar .char (pkc x1))) = (0 : Int32) then (1 : Int32) else (3 : Int32)))) ∧ ∀ tgt, Steps p.tables e below (T'.setTop (mkF m 242 #[.val (.int x0), .val (.int x1), .val (.int x2), .val (.int x3), .val (.int x4), .val (.int (3 : Int32)), .val (.ref b3), .val (.ref sb33), .val (.ref rb37), .val (.int stt), .val (.int enn), .unset] [])) tgt → Steps p.tables e below (s₁.setTop (entryFrame m #[(.int x0), (.int x1), (.int x2), (.int x3), (.int x4)] maxLocals)) tgt := by
      by_cases hc185_154 : (bl (nar .char (pkc x3))) = (0 : Int32)
      · have pre155 : ∀ tgt, Steps p.tables e below (T150.setTop (mkF m 242 #[.val (.int x0), .val (.int x1), .val (.int x2), .val (.int x3), .val (.int x4), .val (.int (3 : Int32)), .val (.ref b3), .val (.ref sb33), .val (.ref rb37), .val (.int stt), .val (.int (3 : Int32)), .unset] [])) tgt → Steps p.tables e below (s₁.setTop (entryFrame m #[(.int x0), (.int x1), (.int x2), (.int x3), (.int x4)] maxLocals)) tgt := by
          intro tgt kgo
          refine pre152 _ ?_
          refine XS.ifNo X150.here hx rfl (hb hby at_185) rfl ((if0 _ _).trans (teq hc185_154).2) ?_
          show Steps p.tables e below (T150.setTop (mkF m 188 #[.val (.int x0), .val (.int x1), .val (.int x2), .val (.int x3), .val (.int x4), .val (.int (3 : Int32)), .val (.ref b3), .val (.ref sb33), .val (.ref rb37), .val (.int stt), .unset, .unset] [])) _
          refine XS.iconst X150.here hx rfl (hb hby at_188) ?_
          show Steps p.tables e below (T150.setTop (mkF m 189 #[.val (.int x0), .val (.int x1), .val (.int x2), .val (.int x3), .val (.int x4), .val (.int (3 : Int32)), .val (.ref b3), .val (.ref sb33), .val (.ref rb37), .val (.int stt), .unset, .unset] [(.int (3 : Int32))])) _
          refine XS.istore X150.here hx rfl (hb hby at_189) rfl (l' := #[.val (.int x0), .val (.int x1), .val (.int x2), .val (.int x3), .val (.int x4), .val (.int (3 : Int32)), .val (.ref b3), .val (.ref sb33), .val (.ref rb37), .val (.int stt), .val (.int (3 : Int32)), .unset]) rfl ?_
          show Steps p.tables e below (T150.setTop (mkF m 191 #[.val (.int x0), .val (.int x1), .val (.int x2), .val (.int x3), .val (.int x4), .val (.int (3 : Int32)), .val (.ref b3), .val (.ref sb33), .val (.ref rb37), .val (.int stt), .val (.int (3 : Int32)), .unset] [])) _
          refine XS.goto X150.here hx rfl (pc0 := 191) (pc' := 242) rfl (hb hby at_191) (by decide) (by decide) ?_
          show Steps p.tables e below (T150.setTop (mkF m 242 #[.val (.int x0), .val (.int x1), .val (.int x2), .val (.int x3), .val (.int x4), .val (.int (3 : Int32)), .val (.ref b3), .val (.ref sb33), .val (.ref rb37), .val (.int stt), .val (.int (3 : Int32)), .unset] [])) _
          exact kgo
        exact ⟨T150, _, (3 : Int32), X150, eq150, N151, (by simp only [if_pos hc185_154]), pre155⟩
      · obtain ⟨cl156, Ar156, q156, S156, M156, H156, G156⟩ := id f129
        have hin156 : ¬ ((1 : Int32) < 0 ∨ cl156.slots.size ≤ ((1 : Int32)).toNatClampNeg) := inb_of S156 ⟨by decide, by decide⟩
        have hat156 : cl156.slots[((1 : Int32)).toNatClampNeg]? = some (.int (nar .char (pkc x2))) := H156.at hin156 rfl
        obtain ⟨_, _, ⟨T157, L157, k157, n157⟩, -, X157, ⟨Lc157, hQ157, l157, y157, z157⟩, st157⟩ := Jvm.LawKit.callS X150 hx (y := (⟨"com/example/redress/redress/definition/StatementStripBlanksPinLaw", "blank", "(C)Z"⟩ : MethodName)) hown37 (mvT hZ37 (ow121 hw)) (mvT hZ37 (ow122 hw)) (mvT hZ37 (ow4 hw)) (mvT hZ37 (ow123 hw)) (by decide) (backOf (W := 0) (rmbl l Z a0 hw [] (nar .char (pkc x2))  T37.heap n0 O41 ) hZ37 (ow123 hw) (ow4 hw) (by decide) (by decide)) (g := (mkF m 204 #[.val (.int x0), .val (.int x1), .val (.int x2), .val (.int x3), .val (.int x4), .val (.int (3 : Int32)), .val (.ref b3), .val (.ref sb33), .val (.ref rb37), .val (.int stt), .unset, .unset] [(.int (nar .char (pkc x2)))])) rfl (by rw [hml]; rfl) (argsL := [(.int (nar .char (pkc x2)))]) (rest := []) (lenOf pd12 rfl) rfl (by show 2 * 0 + _ ≤ _; exact Nat.le_of_eq rfl) (hb hby at_204) (fun _ _ => ⟨rfl, eq150, (by decide : 9 + 0 ≤ _), (by decide : 24 + 0 ≤ _)⟩)
        dsimp only [Pt.U, Pt.locs, Pt.cells, Pt.slots] at X157 l157 y157 z157 st157 hQ157
        subst l157 y157 z157
        obtain ⟨rfl, Nq157, eq157⟩ := hQ157
        have N158 := Fr.app N151 Nq157
        have pre159 : ∀ tgt, Steps p.tables e below (T157.setTop (mkF m 207 #[.val (.int x0), .val (.int x1), .val (.int x2), .val (.int x3), .val (.int x4), .val (.int (3 : Int32)), .val (.ref b3), .val (.ref sb33), .val (.ref rb37), .val (.int stt), .unset, .unset] [(.int (bl (nar .char (pkc x2))))])) tgt → Steps p.tables e below (s₁.setTop (entryFrame m #[(.int x0), (.int x1), (.int x2), (.int x3), (.int x4)] maxLocals)) tgt := by
          intro tgt kgo
          refine pre152 _ ?_
          refine XS.ifYes X150.here hx rfl (pc0 := 185) (pc' := 194) rfl (hb hby at_185) rfl ((if0 _ _).trans (feq hc185_154).2) (by decide) (by decide) ?_
          show Steps p.tables e below (T150.setTop (mkF m 194 #[.val (.int x0), .val (.int x1), .val (.int x2), .val (.int x3), .val (.int x4), .val (.int (3 : Int32)), .val (.ref b3), .val (.ref sb33), .val (.ref rb37), .val (.int stt), .unset, .unset] [])) _
          refine XS.iconst X150.here hx rfl (hb hby at_194) ?_
          show Steps p.tables e below (T150.setTop (mkF m 195 #[.val (.int x0), .val (.int x1), .val (.int x2), .val (.int x3), .val (.int x4), .val (.int (3 : Int32)), .val (.ref b3), .val (.ref sb33), .val (.ref rb37), .val (.int stt), .unset, .unset] [(.int (1 : Int32))])) _
          refine XS.iload X150.here hx rfl (hb hby at_195) rfl ?_
          show Steps p.tables e below (T150.setTop (mkF m 197 #[.val (.int x0), .val (.int x1), .val (.int x2), .val (.int x3), .val (.int x4), .val (.int (3 : Int32)), .val (.ref b3), .val (.ref sb33), .val (.ref rb37), .val (.int stt), .unset, .unset] [(.int (3 : Int32)), (.int (1 : Int32))])) _
          refine XS.icmpNo X150.here hx rfl (hb hby at_197) rfl (tlt (by decide : (1 : Int32) < (3 : Int32))).2.1 ?_
          show Steps p.tables e below (T150.setTop (mkF m 200 #[.val (.int x0), .val (.int x1), .val (.int x2), .val (.int x3), .val (.int x4), .val (.int (3 : Int32)), .val (.ref b3), .val (.ref sb33), .val (.ref rb37), .val (.int stt), .unset, .unset] [])) _
          refine XS.aload X150.here hx rfl (hb hby at_200) rfl rfl ?_
          show Steps p.tables e below (T150.setTop (mkF m 202 #[.val (.int x0), .val (.int x1), .val (.int x2), .val (.int x3), .val (.int x4), .val (.int (3 : Int32)), .val (.ref b3), .val (.ref sb33), .val (.ref rb37), .val (.int stt), .unset, .unset] [(.ref b3)])) _
          refine XS.iconst X150.here hx rfl (hb hby at_202) ?_
          show Steps p.tables e below (T150.setTop (mkF m 203 #[.val (.int x0), .val (.int x1), .val (.int x2), .val (.int x3), .val (.int x4), .val (.int (3 : Int32)), .val (.ref b3), .val (.ref sb33), .val (.ref rb37), .val (.int stt), .unset, .unset] [(.int (1 : Int32)), (.ref b3)])) _
          refine X150.caload hx (j := (1 : Int32)) (v := (.int (nar .char (pkc x2)))) (by rw [eq150]; exact Ar156.1) (State.isArrayOf_alike hZ37.alike Ar156.2.1) Ar156.2.2 hin156 hat156 (g := (mkF m 203 #[.val (.int x0), .val (.int x1), .val (.int x2), .val (.int x3), .val (.int x4), .val (.int (3 : Int32)), .val (.ref b3), .val (.ref sb33), .val (.ref rb37), .val (.int stt), .unset, .unset] [(.int (1 : Int32)), (.ref b3)])) rfl rfl (hb hby at_203) _ ?_
          show Steps p.tables e below (T150.setTop (mkF m 204 #[.val (.int x0), .val (.int x1), .val (.int x2), .val (.int x3), .val (.int x4), .val (.int (3 : Int32)), .val (.ref b3), .val (.ref sb33), .val (.ref rb37), .val (.int stt), .unset, .unset] [(.int (nar .char (pkc x2)))])) _
          refine st157 _ ?_
          show Steps p.tables e below (T157.setTop (mkF m 207 #[.val (.int x0), .val (.int x1), .val (.int x2), .val (.int x3), .val (.int x4), .val (.int (3 : Int32)), .val (.ref b3), .val (.ref sb33), .val (.ref rb37), .val (.int stt), .unset, .unset] [(.int (bl (nar .char (pkc x2))))])) _
          exact kgo
        by_cases hc207_160 : (bl (nar .char (pkc x2))) = (0 : Int32)
        · have pre161 : ∀ tgt, Steps p.tables e below (T157.setTop (mkF m 242 #[.val (.int x0), .val (.int x1), .val (.int x2), .val (.int x3), .val (.int x4), .val (.int (3 : Int32)), .val (.ref b3), .val (.ref sb33), .val (.ref rb37), .val (.int stt), .val (.int (2 : Int32)), .unset] [])) tgt → Steps p.tables e below (s₁.setTop (entryFrame m #[(.int x0), (.int x1), (.int x2), (.int x3), (.int x4)] maxLocals)) tgt := by
            intro tgt kgo
            refine pre159 _ ?_
            refine XS.ifNo X157.here hx rfl (hb hby at_207) rfl ((if0 _ _).trans (teq hc207_160).2) ?_
            show Steps p.tables e below (T157.setTop (mkF m 210 #[.val (.int x0), .val (.int x1), .val (.int x2), .val (.int x3), .val (.int x4), .val (.int (3 : Int32)), .val (.ref b3), .val (.ref sb33), .val (.ref rb37), .val (.int stt), .unset, .unset] [])) _
            refine XS.iconst X157.here hx rfl (hb hby at_210) ?_
            show Steps p.tables e below (T157.setTop (mkF m 211 #[.val (.int x0), .val (.int x1), .val (.int x2), .val (.int x3), .val (.int x4), .val (.int (3 : Int32)), .val (.ref b3), .val (.ref sb33), .val (.ref rb37), .val (.int stt), .unset, .unset] [(.int (2 : Int32))])) _
            refine XS.istore X157.here hx rfl (hb hby at_211) rfl (l' := #[.val (.int x0), .val (.int x1), .val (.int x2), .val (.int x3), .val (.int x4), .val (.int (3 : Int32)), .val (.ref b3), .val (.ref sb33), .val (.ref rb37), .val (.int stt), .val (.int (2 : Int32)), .unset]) rfl ?_
            show Steps p.tables e below (T157.setTop (mkF m 213 #[.val (.int x0), .val (.int x1), .val (.int x2), .val (.int x3), .val (.int x4), .val (.int (3 : Int32)), .val (.ref b3), .val (.ref sb33), .val (.ref rb37), .val (.int stt), .val (.int (2 : Int32)), .unset] [])) _
            refine XS.goto X157.here hx rfl (pc0 := 213) (pc' := 242) rfl (hb hby at_213) (by decide) (by decide) ?_
            show Steps p.tables e below (T157.setTop (mkF m 242 #[.val (.int x0), .val (.int x1), .val (.int x2), .val (.int x3), .val (.int x4), .val (.int (3 : Int32)), .val (.ref b3), .val (.ref sb33), .val (.ref rb37), .val (.int stt), .val (.int (2 : Int32)), .unset] [])) _
            exact kgo
          exact ⟨T157, _, (2 : Int32), X157, eq157, N158, (by simp only [if_neg hc185_154, if_pos hc207_160]), pre161⟩
        · obtain ⟨cl162, Ar162, q162, S162, M162, H162, G162⟩ := id f129
          have hin162 : ¬ ((0 : Int32) < 0 ∨ cl162.slots.size ≤ ((0 : Int32)).toNatClampNeg) := inb_of S162 ⟨by decide, by decide⟩
          have hat162 : cl162.slots[((0 : Int32)).toNatClampNeg]? = some (.int (nar .char (pkc x1))) := H162.at hin162 rfl
          obtain ⟨_, _, ⟨T163, L163, k163, n163⟩, -, X163, ⟨Lc163, hQ163, l163, y163, z163⟩, st163⟩ := Jvm.LawKit.callS X157 hx (y := (⟨"com/example/redress/redress/definition/StatementStripBlanksPinLaw", "blank", "(C)Z"⟩ : MethodName)) hown37 (mvT hZ37 (ow121 hw)) (mvT hZ37 (ow122 hw)) (mvT hZ37 (ow4 hw)) (mvT hZ37 (ow123 hw)) (by decide) (backOf (W := 0) (rmbl l Z a0 hw [] (nar .char (pkc x1))  T37.heap n0 O41 ) hZ37 (ow123 hw) (ow4 hw) (by decide) (by decide)) (g := (mkF m 226 #[.val (.int x0), .val (.int x1), .val (.int x2), .val (.int x3), .val (.int x4), .val (.int (3 : Int32)), .val (.ref b3), .val (.ref sb33), .val (.ref rb37), .val (.int stt), .unset, .unset] [(.int (nar .char (pkc x1)))])) rfl (by rw [hml]; rfl) (argsL := [(.int (nar .char (pkc x1)))]) (rest := []) (lenOf pd12 rfl) rfl (by show 2 * 0 + _ ≤ _; exact Nat.le_of_eq rfl) (hb hby at_226) (fun _ _ => ⟨rfl, eq157, (by decide : 9 + 0 ≤ _), (by decide : 24 + 0 ≤ _)⟩)
          dsimp only [Pt.U, Pt.locs, Pt.cells, Pt.slots] at X163 l163 y163 z163 st163 hQ163
          subst l163 y163 z163
          obtain ⟨rfl, Nq163, eq163⟩ := hQ163
          have N164 := Fr.app N158 Nq163
          have pre165 : ∀ tgt, Steps p.tables e below (T163.setTop (mkF m 229 #[.val (.int x0), .val (.int x1), .val (.int x2), .val (.int x3), .val (.int x4), .val (.int (3 : Int32)), .val (.ref b3), .val (.ref sb33), .val (.ref rb37), .val (.int stt), .unset, .unset] [(.int (bl (nar .char (pkc x1))))])) tgt → Steps p.tables e below (s₁.setTop (entryFrame m #[(.int x0), (.int x1), (.int x2), (.int x3), (.int x4)] maxLocals)) tgt := by
            intro tgt kgo
            refine pre159 _ ?_
            refine XS.ifYes X157.here hx rfl (pc0 := 207) (pc' := 216) rfl (hb hby at_207) rfl ((if0 _ _).trans (feq hc207_160).2) (by decide) (by decide) ?_
            show Steps p.tables e below (T157.setTop (mkF m 216 #[.val (.int x0), .val (.int x1), .val (.int x2), .val (.int x3), .val (.int x4), .val (.int (3 : Int32)), .val (.ref b3), .val (.ref sb33), .val (.ref rb37), .val (.int stt), .unset, .unset] [])) _
            refine XS.iconst X157.here hx rfl (hb hby at_216) ?_
            show Steps p.tables e below (T157.setTop (mkF m 217 #[.val (.int x0), .val (.int x1), .val (.int x2), .val (.int x3), .val (.int x4), .val (.int (3 : Int32)), .val (.ref b3), .val (.ref sb33), .val (.ref rb37), .val (.int stt), .unset, .unset] [(.int (0 : Int32))])) _
            refine XS.iload X157.here hx rfl (hb hby at_217) rfl ?_
            show Steps p.tables e below (T157.setTop (mkF m 219 #[.val (.int x0), .val (.int x1), .val (.int x2), .val (.int x3), .val (.int x4), .val (.int (3 : Int32)), .val (.ref b3), .val (.ref sb33), .val (.ref rb37), .val (.int stt), .unset, .unset] [(.int (3 : Int32)), (.int (0 : Int32))])) _
            refine XS.icmpNo X157.here hx rfl (hb hby at_219) rfl (tlt (by decide : (0 : Int32) < (3 : Int32))).2.1 ?_
            show Steps p.tables e below (T157.setTop (mkF m 222 #[.val (.int x0), .val (.int x1), .val (.int x2), .val (.int x3), .val (.int x4), .val (.int (3 : Int32)), .val (.ref b3), .val (.ref sb33), .val (.ref rb37), .val (.int stt), .unset, .unset] [])) _
            refine XS.aload X157.here hx rfl (hb hby at_222) rfl rfl ?_
            show Steps p.tables e below (T157.setTop (mkF m 224 #[.val (.int x0), .val (.int x1), .val (.int x2), .val (.int x3), .val (.int x4), .val (.int (3 : Int32)), .val (.ref b3), .val (.ref sb33), .val (.ref rb37), .val (.int stt), .unset, .unset] [(.ref b3)])) _
            refine XS.iconst X157.here hx rfl (hb hby at_224) ?_
            show Steps p.tables e below (T157.setTop (mkF m 225 #[.val (.int x0), .val (.int x1), .val (.int x2), .val (.int x3), .val (.int x4), .val (.int (3 : Int32)), .val (.ref b3), .val (.ref sb33), .val (.ref rb37), .val (.int stt), .unset, .unset] [(.int (0 : Int32)), (.ref b3)])) _
            refine X157.caload hx (j := (0 : Int32)) (v := (.int (nar .char (pkc x1)))) (by rw [eq157]; exact Ar162.1) (State.isArrayOf_alike hZ37.alike Ar162.2.1) Ar162.2.2 hin162 hat162 (g := (mkF m 225 #[.val (.int x0), .val (.int x1), .val (.int x2), .val (.int x3), .val (.int x4), .val (.int (3 : Int32)), .val (.ref b3), .val (.ref sb33), .val (.ref rb37), .val (.int stt), .unset, .unset] [(.int (0 : Int32)), (.ref b3)])) rfl rfl (hb hby at_225) _ ?_
            show Steps p.tables e below (T157.setTop (mkF m 226 #[.val (.int x0), .val (.int x1), .val (.int x2), .val (.int x3), .val (.int x4), .val (.int (3 : Int32)), .val (.ref b3), .val (.ref sb33), .val (.ref rb37), .val (.int stt), .unset, .unset] [(.int (nar .char (pkc x1)))])) _
            refine st163 _ ?_
            show Steps p.tables e below (T163.setTop (mkF m 229 #[.val (.int x0), .val (.int x1), .val (.int x2), .val (.int x3), .val (.int x4), .val (.int (3 : Int32)), .val (.ref b3), .val (.ref sb33), .val (.ref rb37), .val (.int stt), .unset, .unset] [(.int (bl (nar .char (pkc x1))))])) _
            exact kgo
          by_cases hc229_166 : (bl (nar .char (pkc x1))) = (0 : Int32)
          · have pre167 : ∀ tgt, Steps p.tables e below (T163.setTop (mkF m 242 #[.val (.int x0), .val (.int x1), .val (.int x2), .val (.int x3), .val (.int x4), .val (.int (3 : Int32)), .val (.ref b3), .val (.ref sb33), .val (.ref rb37), .val (.int stt), .val (.int (1 : Int32)), .unset] [])) tgt → Steps p.tables e below (s₁.setTop (entryFrame m #[(.int x0), (.int x1), (.int x2), (.int x3), (.int x4)] maxLocals)) tgt := by
              intro tgt kgo
              refine pre165 _ ?_
              refine XS.ifNo X163.here hx rfl (hb hby at_229) rfl ((if0 _ _).trans (teq hc229_166).2) ?_
              show Steps p.tables e below (T163.setTop (mkF m 232 #[.val (.int x0), .val (.int x1), .val (.int x2), .val (.int x3), .val (.int x4), .val (.int (3 : Int32)), .val (.ref b3), .val (.ref sb33), .val (.ref rb37), .val (.int stt), .unset, .unset] [])) _
              refine XS.iconst X163.here hx rfl (hb hby at_232) ?_
              show Steps p.tables e below (T163.setTop (mkF m 233 #[.val (.int x0), .val (.int x1), .val (.int x2), .val (.int x3), .val (.int x4), .val (.int (3 : Int32)), .val (.ref b3), .val (.ref sb33), .val (.ref rb37), .val (.int stt), .unset, .unset] [(.int (1 : Int32))])) _
              refine XS.istore X163.here hx rfl (hb hby at_233) rfl (l' := #[.val (.int x0), .val (.int x1), .val (.int x2), .val (.int x3), .val (.int x4), .val (.int (3 : Int32)), .val (.ref b3), .val (.ref sb33), .val (.ref rb37), .val (.int stt), .val (.int (1 : Int32)), .unset]) rfl ?_
              show Steps p.tables e below (T163.setTop (mkF m 235 #[.val (.int x0), .val (.int x1), .val (.int x2), .val (.int x3), .val (.int x4), .val (.int (3 : Int32)), .val (.ref b3), .val (.ref sb33), .val (.ref rb37), .val (.int stt), .val (.int (1 : Int32)), .unset] [])) _
              refine XS.goto X163.here hx rfl (pc0 := 235) (pc' := 242) rfl (hb hby at_235) (by decide) (by decide) ?_
              show Steps p.tables e below (T163.setTop (mkF m 242 #[.val (.int x0), .val (.int x1), .val (.int x2), .val (.int x3), .val (.int x4), .val (.int (3 : Int32)), .val (.ref b3), .val (.ref sb33), .val (.ref rb37), .val (.int stt), .val (.int (1 : Int32)), .unset] [])) _
              exact kgo
            exact ⟨T163, _, (1 : Int32), X163, eq163, N164, (by simp only [if_neg hc185_154, if_neg hc207_160, if_pos hc229_166]), pre167⟩
          · have pre168 : ∀ tgt, Steps p.tables e below (T163.setTop (mkF m 242 #[.val (.int x0), .val (.int x1), .val (.int x2), .val (.int x3), .val (.int x4), .val (.int (3 : Int32)), .val (.ref b3), .val (.ref sb33), .val (.ref rb37), .val (.int stt), .val (.int (3 : Int32)), .unset] [])) tgt → Steps p.tables e below (s₁.setTop (entryFrame m #[(.int x0), (.int x1), (.int x2), (.int x3), (.int x4)] maxLocals)) tgt := by
              intro tgt kgo
              refine pre165 _ ?_
              refine XS.ifYes X163.here hx rfl (pc0 := 229) (pc' := 238) rfl (hb hby at_229) rfl ((if0 _ _).trans (feq hc229_166).2) (by decide) (by decide) ?_
              show Steps p.tables e below (T163.setTop (mkF m 238 #[.val (.int x0), .val (.int x1), .val (.int x2), .val (.int x3), .val (.int x4), .val (.int (3 : Int32)), .val (.ref b3), .val (.ref sb33), .val (.ref rb37), .val (.int stt), .unset, .unset] [])) _
              refine XS.iload X163.here hx rfl (hb hby at_238) rfl ?_
              show Steps p.tables e below (T163.setTop (mkF m 240 #[.val (.int x0), .val (.int x1), .val (.int x2), .val (.int x3), .val (.int x4), .val (.int (3 : Int32)), .val (.ref b3), .val (.ref sb33), .val (.ref rb37), .val (.int stt), .unset, .unset] [(.int (3 : Int32))])) _
              refine XS.istore X163.here hx rfl (hb hby at_240) rfl (l' := #[.val (.int x0), .val (.int x1), .val (.int x2), .val (.int x3), .val (.int x4), .val (.int (3 : Int32)), .val (.ref b3), .val (.ref sb33), .val (.ref rb37), .val (.int stt), .val (.int (3 : Int32)), .unset]) rfl ?_
              show Steps p.tables e below (T163.setTop (mkF m 242 #[.val (.int x0), .val (.int x1), .val (.int x2), .val (.int x3), .val (.int x4), .val (.int (3 : Int32)), .val (.ref b3), .val (.ref sb33), .val (.ref rb37), .val (.int stt), .val (.int (3 : Int32)), .unset] [])) _
              exact kgo
            exact ⟨T163, _, (3 : Int32), X163, eq163, N164, (by simp only [if_neg hc185_154, if_neg hc207_160, if_neg hc229_166]), pre168⟩
    have pre169 : ∀ tgt, Steps p.tables e below (T153.setTop (mkF m 249 #[.val (.int x0), .val (.int x1), .val (.int x2), .val (.int x3), .val (.int x4), .val (.int (3 : Int32)), .val (.ref b3), .val (.ref sb33), .val (.ref rb37), .val (.int stt), .val (.int enn), .val (.int (enn - stt))] [])) tgt → Steps p.tables e below (s₁.setTop (entryFrame m #[(.int x0), (.int x1), (.int x2), (.int x3), (.int x4)] maxLocals)) tgt := by
      intro tgt kgo
      refine pre153 _ ?_
      refine XS.iload X153.here hx rfl (hb hby at_242) rfl ?_
      show Steps p.tables e below (T153.setTop (mkF m 244 #[.val (.int x0), .val (.int x1), .val (.int x2), .val (.int x3), .val (.int x4), .val (.int (3 : Int32)), .val (.ref b3), .val (.ref sb33), .val (.ref rb37), .val (.int stt), .val (.int enn), .unset] [(.int enn)])) _
      refine XS.iload X153.here hx rfl (hb hby at_244) rfl ?_
      show Steps p.tables e below (T153.setTop (mkF m 246 #[.val (.int x0), .val (.int x1), .val (.int x2), .val (.int x3), .val (.int x4), .val (.int (3 : Int32)), .val (.ref b3), .val (.ref sb33), .val (.ref rb37), .val (.int stt), .val (.int enn), .unset] [(.int stt), (.int enn)])) _
      refine XS.isub X153.here hx rfl (hb hby at_246) rfl ?_
      show Steps p.tables e below (T153.setTop (mkF m 247 #[.val (.int x0), .val (.int x1), .val (.int x2), .val (.int x3), .val (.int x4), .val (.int (3 : Int32)), .val (.ref b3), .val (.ref sb33), .val (.ref rb37), .val (.int stt), .val (.int enn), .unset] [(.int (enn - stt))])) _
      refine XS.istore X153.here hx rfl (hb hby at_247) rfl (l' := #[.val (.int x0), .val (.int x1), .val (.int x2), .val (.int x3), .val (.int x4), .val (.int (3 : Int32)), .val (.ref b3), .val (.ref sb33), .val (.ref rb37), .val (.int stt), .val (.int enn), .val (.int (enn - stt))]) rfl ?_
      show Steps p.tables e below (T153.setTop (mkF m 249 #[.val (.int x0), .val (.int x1), .val (.int x2), .val (.int x3), .val (.int x4), .val (.int (3 : Int32)), .val (.ref b3), .val (.ref sb33), .val (.ref rb37), .val (.int stt), .val (.int enn), .val (.int (enn - stt))] [])) _
      exact kgo
    obtain ⟨len, hlen⟩ : ∃ z, z = (enn - stt) := ⟨_, rfl⟩
    have pre170 : ∀ tgt, Steps p.tables e below (T153.setTop (mkF m 249 #[.val (.int x0), .val (.int x1), .val (.int x2), .val (.int x3), .val (.int x4), .val (.int (3 : Int32)), .val (.ref b3), .val (.ref sb33), .val (.ref rb37), .val (.int stt), .val (.int enn), .val (.int len)] [])) tgt → Steps p.tables e below (s₁.setTop (entryFrame m #[(.int x0), (.int x1), (.int x2), (.int x3), (.int x4)] maxLocals)) tgt := by
      rw [hlen]; exact pre169
    obtain ⟨hs1, hs2⟩ := own_fin3 hSk hstt henn
    have hlen' : len = Int32.ofNat (List.length ((List.drop i1 (mkl nv (nar .char (pkc x1)) (nar .char (pkc x2)) (nar .char (pkc x3)) (nar .char (pkc x4)))).take (j2 - i1))) := own_lenk (by rw [hq]; exact hSk) hs1 hs2 hlen (own_mkl _ _ _ _ _)
    obtain ⟨cq171, kq171, q171a, q171b, q171c⟩ := isOf hZ37 e153 sES
    obtain ⟨_, _, ⟨T171, L171, k171, n171⟩, -, X171, ⟨Lc171, hQ171, l171, y171, z171⟩, st171⟩ := X153.virtualBack hx (y := (⟨"java/lang/String", "length", "()I"⟩ : MethodName)) (z := (⟨"java/lang/String", "length", "()I"⟩ : MethodName)) hown37 (mvT hZ37 (ow59 hw)) (mvT hZ37 (ow35 hw)) (notFace_of_selects (args := #[]) (mvT hZ37 (ow37 hw))) (mvT hZ37 (ow37 hw)) (mvT hZ37 (ow36 hw)) (by decide) (StrChars.Road.lenW (W := 0) hZ37 (own_wlen hw) (kI := 4) (ow10 hw) (cs := ((List.drop i1 (mkl nv (nar .char (pkc x1)) (nar .char (pkc x2)) (nar .char (pkc x3)) (nar .char (pkc x4)))).take (j2 - i1))) sES sVS sCS sAS (StrChars.Road.codOf rfl (fun c hc => (spS c hc).2)) (own_up _ spS) (O2.ext O41.2) P5 slS (by decide) (by decide)) q171a q171c (g := (mkF m 256 #[.val (.int x0), .val (.int x1), .val (.int x2), .val (.int x3), .val (.int x4), .val (.int (3 : Int32)), .val (.ref b3), .val (.ref sb33), .val (.ref rb37), .val (.int stt), .val (.int enn), .val (.int len)] [(.ref rb37)])) rfl (by rw [hml]; rfl) (Steps.refl _) (argsL := []) (rest := []) (lenOf pd7 rfl) rfl (by show 2 * 0 + _ ≤ _; exact Nat.le_of_eq rfl) (hb hby at_256) (fun _ _ => ⟨rfl, e153, (by decide : 9 + 0 ≤ _), (by decide : 24 + 0 ≤ _)⟩)
    dsimp only [Pt.U, Pt.locs, Pt.cells, Pt.slots] at X171 l171 y171 z171 st171 hQ171
    subst l171 y171 z171
    obtain ⟨rfl, hL171, eq171⟩ := hQ171
    have Nq171 := own_frn hL171 n0
    have N172 := Fr.app N153 Nq171
    obtain ⟨_, _, ⟨T173, L173, k173, n173⟩, -, X173, ⟨Lc173, hQ173, l173, y173, z173⟩, st173⟩ := Jvm.LawKit.callS X171 hx (y := (⟨"com/example/redress/redress/definition/StatementStripBlanksPinLaw", "at", "(Ljava/lang/String;I[CII)Z"⟩ : MethodName)) hown37 (mvT hZ37 (ow60 hw)) (mvT hZ37 (ow61 hw)) (mvT hZ37 (ow4 hw)) (mvT hZ37 (ow62 hw)) (by decide) (backOf (W := 0) (rmat l Z a0 hw [] rb37 (0 : Int32) b3 stt len ((List.drop i1 (mkl nv (nar .char (pkc x1)) (nar .char (pkc x2)) (nar .char (pkc x3)) (nar .char (pkc x4)))).take (j2 - i1)) k3 (nar .char (pkc x1)) (nar .char (pkc x2)) (nar .char (pkc x3)) (nar .char (pkc x4)) 0 i1 G1 fm T37.heap n0 O41 O2 P5 O4 rf ⟨sES, sCS, spS, slS, tS, skS, sVS, sAS⟩ (own_rs _ _ (own_mkl _ _ _ _ _)) f129 rfl (by decide) hlen' hs1 (own_atp (by rw [hq]; exact hSk) 0)) hZ37 (ow62 hw) (ow4 hw) (by decide) (by decide)) (g := (mkF m 273 #[.val (.int x0), .val (.int x1), .val (.int x2), .val (.int x3), .val (.int x4), .val (.int (3 : Int32)), .val (.ref b3), .val (.ref sb33), .val (.ref rb37), .val (.int stt), .val (.int enn), .val (.int len)] [(.int len), (.int stt), (.ref b3), (.int (0 : Int32)), (.ref rb37)])) rfl (by rw [hml]; rfl) (argsL := [(.ref rb37), (.int (0 : Int32)), (.ref b3), (.int stt), (.int len)]) (rest := []) (lenOf pd16 rfl) rfl (by show 2 * 0 + _ ≤ _; exact Nat.le_of_eq rfl) (hb hby at_273) (fun _ _ => ⟨rfl, eq171, (by decide : 9 + 0 ≤ _), (by decide : 24 + 0 ≤ _)⟩)
    dsimp only [Pt.U, Pt.locs, Pt.cells, Pt.slots] at X173 l173 y173 z173 st173 hQ173
    subst l173 y173 z173
    obtain ⟨rfl, Nq173, eq173⟩ := hQ173
    have N174 := Fr.app N172 Nq173
    obtain ⟨_, _, ⟨T175, L175, k175, n175⟩, -, X175, ⟨Lc175, hQ175, l175, y175, z175⟩, st175⟩ := Jvm.LawKit.callS X173 hx (y := (⟨"com/example/redress/redress/definition/StatementStripBlanksPinLaw", "at", "(Ljava/lang/String;I[CII)Z"⟩ : MethodName)) hown37 (mvT hZ37 (ow60 hw)) (mvT hZ37 (ow61 hw)) (mvT hZ37 (ow4 hw)) (mvT hZ37 (ow62 hw)) (by decide) (backOf (W := 0) (rmat l Z a0 hw [] rb37 (1 : Int32) b3 stt len ((List.drop i1 (mkl nv (nar .char (pkc x1)) (nar .char (pkc x2)) (nar .char (pkc x3)) (nar .char (pkc x4)))).take (j2 - i1)) k3 (nar .char (pkc x1)) (nar .char (pkc x2)) (nar .char (pkc x3)) (nar .char (pkc x4)) 1 i1 G1 fm T37.heap n0 O41 O2 P5 O4 rf ⟨sES, sCS, spS, slS, tS, skS, sVS, sAS⟩ (own_rs _ _ (own_mkl _ _ _ _ _)) f129 rfl (by decide) hlen' hs1 (own_atp (by rw [hq]; exact hSk) 1)) hZ37 (ow62 hw) (ow4 hw) (by decide) (by decide)) (g := (mkF m 288 #[.val (.int x0), .val (.int x1), .val (.int x2), .val (.int x3), .val (.int x4), .val (.int (3 : Int32)), .val (.ref b3), .val (.ref sb33), .val (.ref rb37), .val (.int stt), .val (.int enn), .val (.int len)] [(.int len), (.int stt), (.ref b3), (.int (1 : Int32)), (.ref rb37)])) rfl (by rw [hml]; rfl) (argsL := [(.ref rb37), (.int (1 : Int32)), (.ref b3), (.int stt), (.int len)]) (rest := []) (lenOf pd16 rfl) rfl (by show 2 * 0 + _ ≤ _; exact Nat.le_of_eq rfl) (hb hby at_288) (fun _ _ => ⟨rfl, eq173, (by decide : 9 + 0 ≤ _), (by decide : 24 + 0 ≤ _)⟩)
    dsimp only [Pt.U, Pt.locs, Pt.cells, Pt.slots] at X175 l175 y175 z175 st175 hQ175
    subst l175 y175 z175
    obtain ⟨rfl, Nq175, eq175⟩ := hQ175
    have N176 := Fr.app N174 Nq175
    obtain ⟨_, _, ⟨T177, L177, k177, n177⟩, -, X177, ⟨Lc177, hQ177, l177, y177, z177⟩, st177⟩ := Jvm.LawKit.callS X175 hx (y := (⟨"com/example/redress/redress/definition/StatementStripBlanksPinLaw", "at", "(Ljava/lang/String;I[CII)Z"⟩ : MethodName)) hown37 (mvT hZ37 (ow60 hw)) (mvT hZ37 (ow61 hw)) (mvT hZ37 (ow4 hw)) (mvT hZ37 (ow62 hw)) (by decide) (backOf (W := 0) (rmat l Z a0 hw [] rb37 (2 : Int32) b3 stt len ((List.drop i1 (mkl nv (nar .char (pkc x1)) (nar .char (pkc x2)) (nar .char (pkc x3)) (nar .char (pkc x4)))).take (j2 - i1)) k3 (nar .char (pkc x1)) (nar .char (pkc x2)) (nar .char (pkc x3)) (nar .char (pkc x4)) 2 i1 G1 fm T37.heap n0 O41 O2 P5 O4 rf ⟨sES, sCS, spS, slS, tS, skS, sVS, sAS⟩ (own_rs _ _ (own_mkl _ _ _ _ _)) f129 rfl (by decide) hlen' hs1 (own_atp (by rw [hq]; exact hSk) 2)) hZ37 (ow62 hw) (ow4 hw) (by decide) (by decide)) (g := (mkF m 303 #[.val (.int x0), .val (.int x1), .val (.int x2), .val (.int x3), .val (.int x4), .val (.int (3 : Int32)), .val (.ref b3), .val (.ref sb33), .val (.ref rb37), .val (.int stt), .val (.int enn), .val (.int len)] [(.int len), (.int stt), (.ref b3), (.int (2 : Int32)), (.ref rb37)])) rfl (by rw [hml]; rfl) (argsL := [(.ref rb37), (.int (2 : Int32)), (.ref b3), (.int stt), (.int len)]) (rest := []) (lenOf pd16 rfl) rfl (by show 2 * 0 + _ ≤ _; exact Nat.le_of_eq rfl) (hb hby at_303) (fun _ _ => ⟨rfl, eq175, (by decide : 9 + 0 ≤ _), (by decide : 24 + 0 ≤ _)⟩)
    dsimp only [Pt.U, Pt.locs, Pt.cells, Pt.slots] at X177 l177 y177 z177 st177 hQ177
    subst l177 y177 z177
    obtain ⟨rfl, Nq177, eq177⟩ := hQ177
    have N178 := Fr.app N176 Nq177
    obtain ⟨_, _, ⟨T179, L179, k179, n179⟩, -, X179, ⟨Lc179, hQ179, l179, y179, z179⟩, st179⟩ := Jvm.LawKit.callS X177 hx (y := (⟨"com/example/redress/redress/definition/StatementStripBlanksPinLaw", "at", "(Ljava/lang/String;I[CII)Z"⟩ : MethodName)) hown37 (mvT hZ37 (ow60 hw)) (mvT hZ37 (ow61 hw)) (mvT hZ37 (ow4 hw)) (mvT hZ37 (ow62 hw)) (by decide) (backOf (W := 0) (rmat l Z a0 hw [] rb37 (3 : Int32) b3 stt len ((List.drop i1 (mkl nv (nar .char (pkc x1)) (nar .char (pkc x2)) (nar .char (pkc x3)) (nar .char (pkc x4)))).take (j2 - i1)) k3 (nar .char (pkc x1)) (nar .char (pkc x2)) (nar .char (pkc x3)) (nar .char (pkc x4)) 3 i1 G1 fm T37.heap n0 O41 O2 P5 O4 rf ⟨sES, sCS, spS, slS, tS, skS, sVS, sAS⟩ (own_rs _ _ (own_mkl _ _ _ _ _)) f129 rfl (by decide) hlen' hs1 (own_atp (by rw [hq]; exact hSk) 3)) hZ37 (ow62 hw) (ow4 hw) (by decide) (by decide)) (g := (mkF m 318 #[.val (.int x0), .val (.int x1), .val (.int x2), .val (.int x3), .val (.int x4), .val (.int (3 : Int32)), .val (.ref b3), .val (.ref sb33), .val (.ref rb37), .val (.int stt), .val (.int enn), .val (.int len)] [(.int len), (.int stt), (.ref b3), (.int (3 : Int32)), (.ref rb37)])) rfl (by rw [hml]; rfl) (argsL := [(.ref rb37), (.int (3 : Int32)), (.ref b3), (.int stt), (.int len)]) (rest := []) (lenOf pd16 rfl) rfl (by show 2 * 0 + _ ≤ _; exact Nat.le_of_eq rfl) (hb hby at_318) (fun _ _ => ⟨rfl, eq177, (by decide : 9 + 0 ≤ _), (by decide : 24 + 0 ≤ _)⟩)
    dsimp only [Pt.U, Pt.locs, Pt.cells, Pt.slots] at X179 l179 y179 z179 st179 hQ179
    subst l179 y179 z179
    obtain ⟨rfl, Nq179, eq179⟩ := hQ179
    have N180 := Fr.app N178 Nq179
    obtain ⟨fs, hretL, hrun, hended, hEnd⟩ := Stand.leaveW X179 hS37 (by rw [eq179]; exact hk37) (v := some (.int (1 : Int32))) (fun h => by rw [Bd.returns] at h; cases h)
    have hCf : CHr Z EL0 s.vm s.heap T179.vm T179.heap := by rw [hh, eq179]; exact CH40.trans (CHv.at X179 hZ37 (own_EW hw) CH40.1)
    refine ⟨_, _, pre170 _ ?_, hrun, hended, _, _, rfl, ?_, hCf, hEnd.1, hEnd.2.1, hEnd.2.2.1, hEnd.2.2.2.mono (by decide) (by decide)⟩
    · refine XS.aload X153.here hx rfl (hb hby at_249) rfl rfl ?_
      show Steps p.tables e below (T153.setTop (mkF m 251 #[.val (.int x0), .val (.int x1), .val (.int x2), .val (.int x3), .val (.int x4), .val (.int (3 : Int32)), .val (.ref b3), .val (.ref sb33), .val (.ref rb37), .val (.int stt), .val (.int enn), .val (.int len)] [(.ref rb37)])) _
      refine XS.ifnullNo X153.here hx rfl (hb hby at_251) rfl ?_
      show Steps p.tables e below (T153.setTop (mkF m 254 #[.val (.int x0), .val (.int x1), .val (.int x2), .val (.int x3), .val (.int x4), .val (.int (3 : Int32)), .val (.ref b3), .val (.ref sb33), .val (.ref rb37), .val (.int stt), .val (.int enn), .val (.int len)] [])) _
      refine XS.aload X153.here hx rfl (hb hby at_254) rfl rfl ?_
      show Steps p.tables e below (T153.setTop (mkF m 256 #[.val (.int x0), .val (.int x1), .val (.int x2), .val (.int x3), .val (.int x4), .val (.int (3 : Int32)), .val (.ref b3), .val (.ref sb33), .val (.ref rb37), .val (.int stt), .val (.int enn), .val (.int len)] [(.ref rb37)])) _
      refine st171.trans ?_
      show Steps p.tables e below (T171.setTop (mkF m 259 #[.val (.int x0), .val (.int x1), .val (.int x2), .val (.int x3), .val (.int x4), .val (.int (3 : Int32)), .val (.ref b3), .val (.ref sb33), .val (.ref rb37), .val (.int stt), .val (.int enn), .val (.int len)] [(.int (Int32.ofNat (List.length ((List.drop i1 (mkl nv (nar .char (pkc x1)) (nar .char (pkc x2)) (nar .char (pkc x3)) (nar .char (pkc x4)))).take (j2 - i1)))))])) _
      refine XS.iload X171.here hx rfl (hb hby at_259) rfl ?_
      show Steps p.tables e below (T171.setTop (mkF m 261 #[.val (.int x0), .val (.int x1), .val (.int x2), .val (.int x3), .val (.int x4), .val (.int (3 : Int32)), .val (.ref b3), .val (.ref sb33), .val (.ref rb37), .val (.int stt), .val (.int enn), .val (.int len)] [(.int len), (.int (Int32.ofNat (List.length ((List.drop i1 (mkl nv (nar .char (pkc x1)) (nar .char (pkc x2)) (nar .char (pkc x3)) (nar .char (pkc x4)))).take (j2 - i1)))))])) _
      refine XS.icmpNo X171.here hx rfl (hb hby at_261) rfl (teq hlen'.symm).2 ?_
      show Steps p.tables e below (T171.setTop (mkF m 264 #[.val (.int x0), .val (.int x1), .val (.int x2), .val (.int x3), .val (.int x4), .val (.int (3 : Int32)), .val (.ref b3), .val (.ref sb33), .val (.ref rb37), .val (.int stt), .val (.int enn), .val (.int len)] [])) _
      refine XS.aload X171.here hx rfl (hb hby at_264) rfl rfl ?_
      show Steps p.tables e below (T171.setTop (mkF m 266 #[.val (.int x0), .val (.int x1), .val (.int x2), .val (.int x3), .val (.int x4), .val (.int (3 : Int32)), .val (.ref b3), .val (.ref sb33), .val (.ref rb37), .val (.int stt), .val (.int enn), .val (.int len)] [(.ref rb37)])) _
      refine XS.iconst X171.here hx rfl (hb hby at_266) ?_
      show Steps p.tables e below (T171.setTop (mkF m 267 #[.val (.int x0), .val (.int x1), .val (.int x2), .val (.int x3), .val (.int x4), .val (.int (3 : Int32)), .val (.ref b3), .val (.ref sb33), .val (.ref rb37), .val (.int stt), .val (.int enn), .val (.int len)] [(.int (0 : Int32)), (.ref rb37)])) _
      refine XS.aload X171.here hx rfl (hb hby at_267) rfl rfl ?_
      show Steps p.tables e below (T171.setTop (mkF m 269 #[.val (.int x0), .val (.int x1), .val (.int x2), .val (.int x3), .val (.int x4), .val (.int (3 : Int32)), .val (.ref b3), .val (.ref sb33), .val (.ref rb37), .val (.int stt), .val (.int enn), .val (.int len)] [(.ref b3), (.int (0 : Int32)), (.ref rb37)])) _
      refine XS.iload X171.here hx rfl (hb hby at_269) rfl ?_
      show Steps p.tables e below (T171.setTop (mkF m 271 #[.val (.int x0), .val (.int x1), .val (.int x2), .val (.int x3), .val (.int x4), .val (.int (3 : Int32)), .val (.ref b3), .val (.ref sb33), .val (.ref rb37), .val (.int stt), .val (.int enn), .val (.int len)] [(.int stt), (.ref b3), (.int (0 : Int32)), (.ref rb37)])) _
      refine XS.iload X171.here hx rfl (hb hby at_271) rfl ?_
      show Steps p.tables e below (T171.setTop (mkF m 273 #[.val (.int x0), .val (.int x1), .val (.int x2), .val (.int x3), .val (.int x4), .val (.int (3 : Int32)), .val (.ref b3), .val (.ref sb33), .val (.ref rb37), .val (.int stt), .val (.int enn), .val (.int len)] [(.int len), (.int stt), (.ref b3), (.int (0 : Int32)), (.ref rb37)])) _
      refine st173 _ ?_
      show Steps p.tables e below (T173.setTop (mkF m 276 #[.val (.int x0), .val (.int x1), .val (.int x2), .val (.int x3), .val (.int x4), .val (.int (3 : Int32)), .val (.ref b3), .val (.ref sb33), .val (.ref rb37), .val (.int stt), .val (.int enn), .val (.int len)] [(.int (1 : Int32))])) _
      refine XS.ifNo X173.here hx rfl (hb hby at_276) rfl ((if0 _ _).trans (feq (by decide : ¬ ((1 : Int32) = (0 : Int32)))).1) ?_
      show Steps p.tables e below (T173.setTop (mkF m 279 #[.val (.int x0), .val (.int x1), .val (.int x2), .val (.int x3), .val (.int x4), .val (.int (3 : Int32)), .val (.ref b3), .val (.ref sb33), .val (.ref rb37), .val (.int stt), .val (.int enn), .val (.int len)] [])) _
      refine XS.aload X173.here hx rfl (hb hby at_279) rfl rfl ?_
      show Steps p.tables e below (T173.setTop (mkF m 281 #[.val (.int x0), .val (.int x1), .val (.int x2), .val (.int x3), .val (.int x4), .val (.int (3 : Int32)), .val (.ref b3), .val (.ref sb33), .val (.ref rb37), .val (.int stt), .val (.int enn), .val (.int len)] [(.ref rb37)])) _
      refine XS.iconst X173.here hx rfl (hb hby at_281) ?_
      show Steps p.tables e below (T173.setTop (mkF m 282 #[.val (.int x0), .val (.int x1), .val (.int x2), .val (.int x3), .val (.int x4), .val (.int (3 : Int32)), .val (.ref b3), .val (.ref sb33), .val (.ref rb37), .val (.int stt), .val (.int enn), .val (.int len)] [(.int (1 : Int32)), (.ref rb37)])) _
      refine XS.aload X173.here hx rfl (hb hby at_282) rfl rfl ?_
      show Steps p.tables e below (T173.setTop (mkF m 284 #[.val (.int x0), .val (.int x1), .val (.int x2), .val (.int x3), .val (.int x4), .val (.int (3 : Int32)), .val (.ref b3), .val (.ref sb33), .val (.ref rb37), .val (.int stt), .val (.int enn), .val (.int len)] [(.ref b3), (.int (1 : Int32)), (.ref rb37)])) _
      refine XS.iload X173.here hx rfl (hb hby at_284) rfl ?_
      show Steps p.tables e below (T173.setTop (mkF m 286 #[.val (.int x0), .val (.int x1), .val (.int x2), .val (.int x3), .val (.int x4), .val (.int (3 : Int32)), .val (.ref b3), .val (.ref sb33), .val (.ref rb37), .val (.int stt), .val (.int enn), .val (.int len)] [(.int stt), (.ref b3), (.int (1 : Int32)), (.ref rb37)])) _
      refine XS.iload X173.here hx rfl (hb hby at_286) rfl ?_
      show Steps p.tables e below (T173.setTop (mkF m 288 #[.val (.int x0), .val (.int x1), .val (.int x2), .val (.int x3), .val (.int x4), .val (.int (3 : Int32)), .val (.ref b3), .val (.ref sb33), .val (.ref rb37), .val (.int stt), .val (.int enn), .val (.int len)] [(.int len), (.int stt), (.ref b3), (.int (1 : Int32)), (.ref rb37)])) _
      refine st175 _ ?_
      show Steps p.tables e below (T175.setTop (mkF m 291 #[.val (.int x0), .val (.int x1), .val (.int x2), .val (.int x3), .val (.int x4), .val (.int (3 : Int32)), .val (.ref b3), .val (.ref sb33), .val (.ref rb37), .val (.int stt), .val (.int enn), .val (.int len)] [(.int (1 : Int32))])) _
      refine XS.ifNo X175.here hx rfl (hb hby at_291) rfl ((if0 _ _).trans (feq (by decide : ¬ ((1 : Int32) = (0 : Int32)))).1) ?_
      show Steps p.tables e below (T175.setTop (mkF m 294 #[.val (.int x0), .val (.int x1), .val (.int x2), .val (.int x3), .val (.int x4), .val (.int (3 : Int32)), .val (.ref b3), .val (.ref sb33), .val (.ref rb37), .val (.int stt), .val (.int enn), .val (.int len)] [])) _
      refine XS.aload X175.here hx rfl (hb hby at_294) rfl rfl ?_
      show Steps p.tables e below (T175.setTop (mkF m 296 #[.val (.int x0), .val (.int x1), .val (.int x2), .val (.int x3), .val (.int x4), .val (.int (3 : Int32)), .val (.ref b3), .val (.ref sb33), .val (.ref rb37), .val (.int stt), .val (.int enn), .val (.int len)] [(.ref rb37)])) _
      refine XS.iconst X175.here hx rfl (hb hby at_296) ?_
      show Steps p.tables e below (T175.setTop (mkF m 297 #[.val (.int x0), .val (.int x1), .val (.int x2), .val (.int x3), .val (.int x4), .val (.int (3 : Int32)), .val (.ref b3), .val (.ref sb33), .val (.ref rb37), .val (.int stt), .val (.int enn), .val (.int len)] [(.int (2 : Int32)), (.ref rb37)])) _
      refine XS.aload X175.here hx rfl (hb hby at_297) rfl rfl ?_
      show Steps p.tables e below (T175.setTop (mkF m 299 #[.val (.int x0), .val (.int x1), .val (.int x2), .val (.int x3), .val (.int x4), .val (.int (3 : Int32)), .val (.ref b3), .val (.ref sb33), .val (.ref rb37), .val (.int stt), .val (.int enn), .val (.int len)] [(.ref b3), (.int (2 : Int32)), (.ref rb37)])) _
      refine XS.iload X175.here hx rfl (hb hby at_299) rfl ?_
      show Steps p.tables e below (T175.setTop (mkF m 301 #[.val (.int x0), .val (.int x1), .val (.int x2), .val (.int x3), .val (.int x4), .val (.int (3 : Int32)), .val (.ref b3), .val (.ref sb33), .val (.ref rb37), .val (.int stt), .val (.int enn), .val (.int len)] [(.int stt), (.ref b3), (.int (2 : Int32)), (.ref rb37)])) _
      refine XS.iload X175.here hx rfl (hb hby at_301) rfl ?_
      show Steps p.tables e below (T175.setTop (mkF m 303 #[.val (.int x0), .val (.int x1), .val (.int x2), .val (.int x3), .val (.int x4), .val (.int (3 : Int32)), .val (.ref b3), .val (.ref sb33), .val (.ref rb37), .val (.int stt), .val (.int enn), .val (.int len)] [(.int len), (.int stt), (.ref b3), (.int (2 : Int32)), (.ref rb37)])) _
      refine st177 _ ?_
      show Steps p.tables e below (T177.setTop (mkF m 306 #[.val (.int x0), .val (.int x1), .val (.int x2), .val (.int x3), .val (.int x4), .val (.int (3 : Int32)), .val (.ref b3), .val (.ref sb33), .val (.ref rb37), .val (.int stt), .val (.int enn), .val (.int len)] [(.int (1 : Int32))])) _
      refine XS.ifNo X177.here hx rfl (hb hby at_306) rfl ((if0 _ _).trans (feq (by decide : ¬ ((1 : Int32) = (0 : Int32)))).1) ?_
      show Steps p.tables e below (T177.setTop (mkF m 309 #[.val (.int x0), .val (.int x1), .val (.int x2), .val (.int x3), .val (.int x4), .val (.int (3 : Int32)), .val (.ref b3), .val (.ref sb33), .val (.ref rb37), .val (.int stt), .val (.int enn), .val (.int len)] [])) _
      refine XS.aload X177.here hx rfl (hb hby at_309) rfl rfl ?_
      show Steps p.tables e below (T177.setTop (mkF m 311 #[.val (.int x0), .val (.int x1), .val (.int x2), .val (.int x3), .val (.int x4), .val (.int (3 : Int32)), .val (.ref b3), .val (.ref sb33), .val (.ref rb37), .val (.int stt), .val (.int enn), .val (.int len)] [(.ref rb37)])) _
      refine XS.iconst X177.here hx rfl (hb hby at_311) ?_
      show Steps p.tables e below (T177.setTop (mkF m 312 #[.val (.int x0), .val (.int x1), .val (.int x2), .val (.int x3), .val (.int x4), .val (.int (3 : Int32)), .val (.ref b3), .val (.ref sb33), .val (.ref rb37), .val (.int stt), .val (.int enn), .val (.int len)] [(.int (3 : Int32)), (.ref rb37)])) _
      refine XS.aload X177.here hx rfl (hb hby at_312) rfl rfl ?_
      show Steps p.tables e below (T177.setTop (mkF m 314 #[.val (.int x0), .val (.int x1), .val (.int x2), .val (.int x3), .val (.int x4), .val (.int (3 : Int32)), .val (.ref b3), .val (.ref sb33), .val (.ref rb37), .val (.int stt), .val (.int enn), .val (.int len)] [(.ref b3), (.int (3 : Int32)), (.ref rb37)])) _
      refine XS.iload X177.here hx rfl (hb hby at_314) rfl ?_
      show Steps p.tables e below (T177.setTop (mkF m 316 #[.val (.int x0), .val (.int x1), .val (.int x2), .val (.int x3), .val (.int x4), .val (.int (3 : Int32)), .val (.ref b3), .val (.ref sb33), .val (.ref rb37), .val (.int stt), .val (.int enn), .val (.int len)] [(.int stt), (.ref b3), (.int (3 : Int32)), (.ref rb37)])) _
      refine XS.iload X177.here hx rfl (hb hby at_316) rfl ?_
      show Steps p.tables e below (T177.setTop (mkF m 318 #[.val (.int x0), .val (.int x1), .val (.int x2), .val (.int x3), .val (.int x4), .val (.int (3 : Int32)), .val (.ref b3), .val (.ref sb33), .val (.ref rb37), .val (.int stt), .val (.int enn), .val (.int len)] [(.int len), (.int stt), (.ref b3), (.int (3 : Int32)), (.ref rb37)])) _
      refine st179 _ ?_
      show Steps p.tables e below (T179.setTop (mkF m 321 #[.val (.int x0), .val (.int x1), .val (.int x2), .val (.int x3), .val (.int x4), .val (.int (3 : Int32)), .val (.ref b3), .val (.ref sb33), .val (.ref rb37), .val (.int stt), .val (.int enn), .val (.int len)] [(.int (1 : Int32))])) _
      refine XS.ifNo X179.here hx rfl (hb hby at_321) rfl ((if0 _ _).trans (feq (by decide : ¬ ((1 : Int32) = (0 : Int32)))).1) ?_
      show Steps p.tables e below (T179.setTop (mkF m 324 #[.val (.int x0), .val (.int x1), .val (.int x2), .val (.int x3), .val (.int x4), .val (.int (3 : Int32)), .val (.ref b3), .val (.ref sb33), .val (.ref rb37), .val (.int stt), .val (.int enn), .val (.int len)] [])) _
      refine XS.iconst X179.here hx rfl (hb hby at_324) ?_
      show Steps p.tables e below (T179.setTop (mkF m 325 #[.val (.int x0), .val (.int x1), .val (.int x2), .val (.int x3), .val (.int x4), .val (.int (3 : Int32)), .val (.ref b3), .val (.ref sb33), .val (.ref rb37), .val (.int stt), .val (.int enn), .val (.int len)] [(.int (1 : Int32))])) _
      refine XS.goto X179.here hx rfl (pc0 := 325) (pc' := 329) rfl (hb hby at_325) (by decide) (by decide) ?_
      show Steps p.tables e below (T179.setTop (mkF m 329 #[.val (.int x0), .val (.int x1), .val (.int x2), .val (.int x3), .val (.int x4), .val (.int (3 : Int32)), .val (.ref b3), .val (.ref sb33), .val (.ref rb37), .val (.int stt), .val (.int enn), .val (.int len)] [(.int (1 : Int32))])) _
      exact retOut X179 hx Bd.returns rfl (Or.inl ⟨rfl, Or.inr (Or.inl rfl), _, rfl⟩) (hb hby at_329) hretL
    · show Q_rm0 Z x0 x1 x2 x3 x4 G1 fm h0 n0 _ T179.heap _
      rw [eq179]
      exact ⟨rfl, N180⟩
  · have pre181 : ∀ tgt, Steps p.tables e below (T37.setTop (mkF m 58 #[.val (.int x0), .val (.int x1), .val (.int x2), .val (.int x3), .val (.int x4), .val (.int (4 : Int32)), .val (.ref b3), .val (.ref sb33), .val (.ref rb37), .unset, .unset, .unset] [])) tgt → Steps p.tables e below (s₁.setTop (entryFrame m #[(.int x0), (.int x1), (.int x2), (.int x3), (.int x4)] maxLocals)) tgt := by
      have q := pre42
      rw [hq] at q
      exact q
    have hSk : SB [(nar .char (pkc x1)), (nar .char (pkc x2)), (nar .char (pkc x3)), (nar .char (pkc x4))] i1 j2 := by have q := hSB; rw [hq] at q; exact q
    have f183 := (f39.keep kp37 nin0)
    obtain ⟨cl182, Ar182, q182, S182, M182, H182, G182⟩ := id f183
    have hin182 : ¬ ((0 : Int32) < 0 ∨ cl182.slots.size ≤ ((0 : Int32)).toNatClampNeg) := inb_of S182 ⟨by decide, by decide⟩
    have hat182 : cl182.slots[((0 : Int32)).toNatClampNeg]? = some (.int (nar .char (pkc x1))) := H182.at hin182 rfl
    obtain ⟨_, _, ⟨T184, L184, k184, n184⟩, -, X184, ⟨Lc184, hQ184, l184, y184, z184⟩, st184⟩ := Jvm.LawKit.callS X37 hx (y := (⟨"com/example/redress/redress/definition/StatementStripBlanksPinLaw", "blank", "(C)Z"⟩ : MethodName)) hown37 (mvT hZ37 (ow121 hw)) (mvT hZ37 (ow122 hw)) (mvT hZ37 (ow4 hw)) (mvT hZ37 (ow123 hw)) (by decide) (backOf (W := 0) (rmbl l Z a0 hw [] (nar .char (pkc x1))  T37.heap n0 O41 ) hZ37 (ow123 hw) (ow4 hw) (by decide) (by decide)) (g := (mkF m 68 #[.val (.int x0), .val (.int x1), .val (.int x2), .val (.int x3), .val (.int x4), .val (.int (4 : Int32)), .val (.ref b3), .val (.ref sb33), .val (.ref rb37), .unset, .unset, .unset] [(.int (nar .char (pkc x1)))])) rfl (by rw [hml]; rfl) (argsL := [(.int (nar .char (pkc x1)))]) (rest := []) (lenOf pd12 rfl) rfl (by show 2 * 0 + _ ≤ _; exact Nat.le_of_eq rfl) (hb hby at_68) (fun _ _ => ⟨rfl, rfl, (by decide : 9 + 0 ≤ _), (by decide : 24 + 0 ≤ _)⟩)
    dsimp only [Pt.U, Pt.locs, Pt.cells, Pt.slots] at X184 l184 y184 z184 st184 hQ184
    subst l184 y184 z184
    obtain ⟨rfl, Nq184, eq184⟩ := hQ184
    have N185 := Fr.app N38 Nq184
    have pre186 : ∀ tgt, Steps p.tables e below (T184.setTop (mkF m 71 #[.val (.int x0), .val (.int x1), .val (.int x2), .val (.int x3), .val (.int x4), .val (.int (4 : Int32)), .val (.ref b3), .val (.ref sb33), .val (.ref rb37), .unset, .unset, .unset] [(.int (bl (nar .char (pkc x1))))])) tgt → Steps p.tables e below (s₁.setTop (entryFrame m #[(.int x0), (.int x1), (.int x2), (.int x3), (.int x4)] maxLocals)) tgt := by
      intro tgt kgo
      refine pre181 _ ?_
      refine XS.iconst X37.here hx rfl (hb hby at_58) ?_
      show Steps p.tables e below (T37.setTop (mkF m 59 #[.val (.int x0), .val (.int x1), .val (.int x2), .val (.int x3), .val (.int x4), .val (.int (4 : Int32)), .val (.ref b3), .val (.ref sb33), .val (.ref rb37), .unset, .unset, .unset] [(.int (0 : Int32))])) _
      refine XS.iload X37.here hx rfl (hb hby at_59) rfl ?_
      show Steps p.tables e below (T37.setTop (mkF m 61 #[.val (.int x0), .val (.int x1), .val (.int x2), .val (.int x3), .val (.int x4), .val (.int (4 : Int32)), .val (.ref b3), .val (.ref sb33), .val (.ref rb37), .unset, .unset, .unset] [(.int (4 : Int32)), (.int (0 : Int32))])) _
      refine XS.icmpNo X37.here hx rfl (hb hby at_61) rfl (tlt (by decide : (0 : Int32) < (4 : Int32))).2.1 ?_
      show Steps p.tables e below (T37.setTop (mkF m 64 #[.val (.int x0), .val (.int x1), .val (.int x2), .val (.int x3), .val (.int x4), .val (.int (4 : Int32)), .val (.ref b3), .val (.ref sb33), .val (.ref rb37), .unset, .unset, .unset] [])) _
      refine XS.aload X37.here hx rfl (hb hby at_64) rfl rfl ?_
      show Steps p.tables e below (T37.setTop (mkF m 66 #[.val (.int x0), .val (.int x1), .val (.int x2), .val (.int x3), .val (.int x4), .val (.int (4 : Int32)), .val (.ref b3), .val (.ref sb33), .val (.ref rb37), .unset, .unset, .unset] [(.ref b3)])) _
      refine XS.iconst X37.here hx rfl (hb hby at_66) ?_
      show Steps p.tables e below (T37.setTop (mkF m 67 #[.val (.int x0), .val (.int x1), .val (.int x2), .val (.int x3), .val (.int x4), .val (.int (4 : Int32)), .val (.ref b3), .val (.ref sb33), .val (.ref rb37), .unset, .unset, .unset] [(.int (0 : Int32)), (.ref b3)])) _
      refine X37.caload hx (j := (0 : Int32)) (v := (.int (nar .char (pkc x1)))) Ar182.1 (State.isArrayOf_alike hZ37.alike Ar182.2.1) Ar182.2.2 hin182 hat182 (g := (mkF m 67 #[.val (.int x0), .val (.int x1), .val (.int x2), .val (.int x3), .val (.int x4), .val (.int (4 : Int32)), .val (.ref b3), .val (.ref sb33), .val (.ref rb37), .unset, .unset, .unset] [(.int (0 : Int32)), (.ref b3)])) rfl rfl (hb hby at_67) _ ?_
      show Steps p.tables e below (T37.setTop (mkF m 68 #[.val (.int x0), .val (.int x1), .val (.int x2), .val (.int x3), .val (.int x4), .val (.int (4 : Int32)), .val (.ref b3), .val (.ref sb33), .val (.ref rb37), .unset, .unset, .unset] [(.int (nar .char (pkc x1)))])) _
      refine st184 _ ?_
      show Steps p.tables e below (T184.setTop (mkF m 71 #[.val (.int x0), .val (.int x1), .val (.int x2), .val (.int x3), .val (.int x4), .val (.int (4 : Int32)), .val (.ref b3), .val (.ref sb33), .val (.ref rb37), .unset, .unset, .unset] [(.int (bl (nar .char (pkc x1))))])) _
      exact kgo
    obtain ⟨T187, lo187, stt, X187, e187, N187, hstt, pre187⟩ : ∃ (T' : State) (lo187 : List Loc) (stt : Int32), Stand p l e room_1 (s.setVm T37.vm) m #[(.int x0), (.int x1), (.int x2), (.int x3), (.int x4)] below meth c T' lo187 9 24 ∧ T'.heap = T37.heap ∧ Fr n0 lo187 ∧ stt = (if (bl (nar .char (pkc x1))) = (0 : Int32) then (0 : Int32) else (if (bl (nar .char (pkc x2))) = (0 : Int32) then (1 : Int32) else (if (bl (nar .char (pkc x3))) = (0 : Int32) then (2 : Int32) else (if (bl (nar .char (pkc x4))) = (0 : Int32) then (3 : Int32) else (4 : Int32))))) ∧ ∀ tgt, Steps p.tables e below (T'.setTop (mkF m 150 #[.val (.int x0), .val (.int x1), .val (.int x2), .val (.int x3), .val (.int x4), .val (.int (4 : Int32)), .val (.ref b3), .val (.ref sb33), .val (.ref rb37), .val (.int stt), .unset, .unset] [])) tgt → Steps p.tables e below (s₁.setTop (entryFrame m #[(.int x0), (.int x1), (.int x2), (.int x3), (.int x4)] maxLocals)) tgt := by
      by_cases hc71_188 : (bl (nar .char (pkc x1))) = (0 : Int32)
      · have pre189 : ∀ tgt, Steps p.tables e below (T184.setTop (mkF m 150 #[.val (.int x0), .val (.int x1), .val (.int x2), .val (.int x3), .val (.int x4), .val (.int (4 : Int32)), .val (.ref b3), .val (.ref sb33), .val (.ref rb37), .val (.int (0 : Int32)), .unset, .unset] [])) tgt → Steps p.tables e below (s₁.setTop (entryFrame m #[(.int x0), (.int x1), (.int x2), (.int x3), (.int x4)] maxLocals)) tgt := by
          intro tgt kgo
          refine pre186 _ ?_
          refine XS.ifNo X184.here hx rfl (hb hby at_71) rfl ((if0 _ _).trans (teq hc71_188).2) ?_
          show Steps p.tables e below (T184.setTop (mkF m 74 #[.val (.int x0), .val (.int x1), .val (.int x2), .val (.int x3), .val (.int x4), .val (.int (4 : Int32)), .val (.ref b3), .val (.ref sb33), .val (.ref rb37), .unset, .unset, .unset] [])) _
          refine XS.iconst X184.here hx rfl (hb hby at_74) ?_
          show Steps p.tables e below (T184.setTop (mkF m 75 #[.val (.int x0), .val (.int x1), .val (.int x2), .val (.int x3), .val (.int x4), .val (.int (4 : Int32)), .val (.ref b3), .val (.ref sb33), .val (.ref rb37), .unset, .unset, .unset] [(.int (0 : Int32))])) _
          refine XS.istore X184.here hx rfl (hb hby at_75) rfl (l' := #[.val (.int x0), .val (.int x1), .val (.int x2), .val (.int x3), .val (.int x4), .val (.int (4 : Int32)), .val (.ref b3), .val (.ref sb33), .val (.ref rb37), .val (.int (0 : Int32)), .unset, .unset]) rfl ?_
          show Steps p.tables e below (T184.setTop (mkF m 77 #[.val (.int x0), .val (.int x1), .val (.int x2), .val (.int x3), .val (.int x4), .val (.int (4 : Int32)), .val (.ref b3), .val (.ref sb33), .val (.ref rb37), .val (.int (0 : Int32)), .unset, .unset] [])) _
          refine XS.goto X184.here hx rfl (pc0 := 77) (pc' := 150) rfl (hb hby at_77) (by decide) (by decide) ?_
          show Steps p.tables e below (T184.setTop (mkF m 150 #[.val (.int x0), .val (.int x1), .val (.int x2), .val (.int x3), .val (.int x4), .val (.int (4 : Int32)), .val (.ref b3), .val (.ref sb33), .val (.ref rb37), .val (.int (0 : Int32)), .unset, .unset] [])) _
          exact kgo
        exact ⟨T184, _, (0 : Int32), X184, eq184, N185, (by simp only [if_pos hc71_188]), pre189⟩
      · obtain ⟨cl190, Ar190, q190, S190, M190, H190, G190⟩ := id f183
        have hin190 : ¬ ((1 : Int32) < 0 ∨ cl190.slots.size ≤ ((1 : Int32)).toNatClampNeg) := inb_of S190 ⟨by decide, by decide⟩
        have hat190 : cl190.slots[((1 : Int32)).toNatClampNeg]? = some (.int (nar .char (pkc x2))) := H190.at hin190 rfl
        obtain ⟨_, _, ⟨T191, L191, k191, n191⟩, -, X191, ⟨Lc191, hQ191, l191, y191, z191⟩, st191⟩ := Jvm.LawKit.callS X184 hx (y := (⟨"com/example/redress/redress/definition/StatementStripBlanksPinLaw", "blank", "(C)Z"⟩ : MethodName)) hown37 (mvT hZ37 (ow121 hw)) (mvT hZ37 (ow122 hw)) (mvT hZ37 (ow4 hw)) (mvT hZ37 (ow123 hw)) (by decide) (backOf (W := 0) (rmbl l Z a0 hw [] (nar .char (pkc x2))  T37.heap n0 O41 ) hZ37 (ow123 hw) (ow4 hw) (by decide) (by decide)) (g := (mkF m 90 #[.val (.int x0), .val (.int x1), .val (.int x2), .val (.int x3), .val (.int x4), .val (.int (4 : Int32)), .val (.ref b3), .val (.ref sb33), .val (.ref rb37), .unset, .unset, .unset] [(.int (nar .char (pkc x2)))])) rfl (by rw [hml]; rfl) (argsL := [(.int (nar .char (pkc x2)))]) (rest := []) (lenOf pd12 rfl) rfl (by show 2 * 0 + _ ≤ _; exact Nat.le_of_eq rfl) (hb hby at_90) (fun _ _ => ⟨rfl, eq184, (by decide : 9 + 0 ≤ _), (by decide : 24 + 0 ≤ _)⟩)
        dsimp only [Pt.U, Pt.locs, Pt.cells, Pt.slots] at X191 l191 y191 z191 st191 hQ191
        subst l191 y191 z191
        obtain ⟨rfl, Nq191, eq191⟩ := hQ191
        have N192 := Fr.app N185 Nq191
        have pre193 : ∀ tgt, Steps p.tables e below (T191.setTop (mkF m 93 #[.val (.int x0), .val (.int x1), .val (.int x2), .val (.int x3), .val (.int x4), .val (.int (4 : Int32)), .val (.ref b3), .val (.ref sb33), .val (.ref rb37), .unset, .unset, .unset] [(.int (bl (nar .char (pkc x2))))])) tgt → Steps p.tables e below (s₁.setTop (entryFrame m #[(.int x0), (.int x1), (.int x2), (.int x3), (.int x4)] maxLocals)) tgt := by
          intro tgt kgo
          refine pre186 _ ?_
          refine XS.ifYes X184.here hx rfl (pc0 := 71) (pc' := 80) rfl (hb hby at_71) rfl ((if0 _ _).trans (feq hc71_188).2) (by decide) (by decide) ?_
          show Steps p.tables e below (T184.setTop (mkF m 80 #[.val (.int x0), .val (.int x1), .val (.int x2), .val (.int x3), .val (.int x4), .val (.int (4 : Int32)), .val (.ref b3), .val (.ref sb33), .val (.ref rb37), .unset, .unset, .unset] [])) _
          refine XS.iconst X184.here hx rfl (hb hby at_80) ?_
          show Steps p.tables e below (T184.setTop (mkF m 81 #[.val (.int x0), .val (.int x1), .val (.int x2), .val (.int x3), .val (.int x4), .val (.int (4 : Int32)), .val (.ref b3), .val (.ref sb33), .val (.ref rb37), .unset, .unset, .unset] [(.int (1 : Int32))])) _
          refine XS.iload X184.here hx rfl (hb hby at_81) rfl ?_
          show Steps p.tables e below (T184.setTop (mkF m 83 #[.val (.int x0), .val (.int x1), .val (.int x2), .val (.int x3), .val (.int x4), .val (.int (4 : Int32)), .val (.ref b3), .val (.ref sb33), .val (.ref rb37), .unset, .unset, .unset] [(.int (4 : Int32)), (.int (1 : Int32))])) _
          refine XS.icmpNo X184.here hx rfl (hb hby at_83) rfl (tlt (by decide : (1 : Int32) < (4 : Int32))).2.1 ?_
          show Steps p.tables e below (T184.setTop (mkF m 86 #[.val (.int x0), .val (.int x1), .val (.int x2), .val (.int x3), .val (.int x4), .val (.int (4 : Int32)), .val (.ref b3), .val (.ref sb33), .val (.ref rb37), .unset, .unset, .unset] [])) _
          refine XS.aload X184.here hx rfl (hb hby at_86) rfl rfl ?_
          show Steps p.tables e below (T184.setTop (mkF m 88 #[.val (.int x0), .val (.int x1), .val (.int x2), .val (.int x3), .val (.int x4), .val (.int (4 : Int32)), .val (.ref b3), .val (.ref sb33), .val (.ref rb37), .unset, .unset, .unset] [(.ref b3)])) _
          refine XS.iconst X184.here hx rfl (hb hby at_88) ?_
          show Steps p.tables e below (T184.setTop (mkF m 89 #[.val (.int x0), .val (.int x1), .val (.int x2), .val (.int x3), .val (.int x4), .val (.int (4 : Int32)), .val (.ref b3), .val (.ref sb33), .val (.ref rb37), .unset, .unset, .unset] [(.int (1 : Int32)), (.ref b3)])) _
          refine X184.caload hx (j := (1 : Int32)) (v := (.int (nar .char (pkc x2)))) (by rw [eq184]; exact Ar190.1) (State.isArrayOf_alike hZ37.alike Ar190.2.1) Ar190.2.2 hin190 hat190 (g := (mkF m 89 #[.val (.int x0), .val (.int x1), .val (.int x2), .val (.int x3), .val (.int x4), .val (.int (4 : Int32)), .val (.ref b3), .val (.ref sb33), .val (.ref rb37), .unset, .unset, .unset] [(.int (1 : Int32)), (.ref b3)])) rfl rfl (hb hby at_89) _ ?_
          show Steps p.tables e below (T184.setTop (mkF m 90 #[.val (.int x0), .val (.int x1), .val (.int x2), .val (.int x3), .val (.int x4), .val (.int (4 : Int32)), .val (.ref b3), .val (.ref sb33), .val (.ref rb37), .unset, .unset, .unset] [(.int (nar .char (pkc x2)))])) _
          refine st191 _ ?_
          show Steps p.tables e below (T191.setTop (mkF m 93 #[.val (.int x0), .val (.int x1), .val (.int x2), .val (.int x3), .val (.int x4), .val (.int (4 : Int32)), .val (.ref b3), .val (.ref sb33), .val (.ref rb37), .unset, .unset, .unset] [(.int (bl (nar .char (pkc x2))))])) _
          exact kgo
        by_cases hc93_194 : (bl (nar .char (pkc x2))) = (0 : Int32)
        · have pre195 : ∀ tgt, Steps p.tables e below (T191.setTop (mkF m 150 #[.val (.int x0), .val (.int x1), .val (.int x2), .val (.int x3), .val (.int x4), .val (.int (4 : Int32)), .val (.ref b3), .val (.ref sb33), .val (.ref rb37), .val (.int (1 : Int32)), .unset, .unset] [])) tgt → Steps p.tables e below (s₁.setTop (entryFrame m #[(.int x0), (.int x1), (.int x2), (.int x3), (.int x4)] maxLocals)) tgt := by
            intro tgt kgo
            refine pre193 _ ?_
            refine XS.ifNo X191.here hx rfl (hb hby at_93) rfl ((if0 _ _).trans (teq hc93_194).2) ?_
            show Steps p.tables e below (T191.setTop (mkF m 96 #[.val (.int x0), .val (.int x1), .val (.int x2), .val (.int x3), .val (.int x4), .val (.int (4 : Int32)), .val (.ref b3), .val (.ref sb33), .val (.ref rb37), .unset, .unset, .unset] [])) _
            refine XS.iconst X191.here hx rfl (hb hby at_96) ?_
            show Steps p.tables e below (T191.setTop (mkF m 97 #[.val (.int x0), .val (.int x1), .val (.int x2), .val (.int x3), .val (.int x4), .val (.int (4 : Int32)), .val (.ref b3), .val (.ref sb33), .val (.ref rb37), .unset, .unset, .unset] [(.int (1 : Int32))])) _
            refine XS.istore X191.here hx rfl (hb hby at_97) rfl (l' := #[.val (.int x0), .val (.int x1), .val (.int x2), .val (.int x3), .val (.int x4), .val (.int (4 : Int32)), .val (.ref b3), .val (.ref sb33), .val (.ref rb37), .val (.int (1 : Int32)), .unset, .unset]) rfl ?_
            show Steps p.tables e below (T191.setTop (mkF m 99 #[.val (.int x0), .val (.int x1), .val (.int x2), .val (.int x3), .val (.int x4), .val (.int (4 : Int32)), .val (.ref b3), .val (.ref sb33), .val (.ref rb37), .val (.int (1 : Int32)), .unset, .unset] [])) _
            refine XS.goto X191.here hx rfl (pc0 := 99) (pc' := 150) rfl (hb hby at_99) (by decide) (by decide) ?_
            show Steps p.tables e below (T191.setTop (mkF m 150 #[.val (.int x0), .val (.int x1), .val (.int x2), .val (.int x3), .val (.int x4), .val (.int (4 : Int32)), .val (.ref b3), .val (.ref sb33), .val (.ref rb37), .val (.int (1 : Int32)), .unset, .unset] [])) _
            exact kgo
          exact ⟨T191, _, (1 : Int32), X191, eq191, N192, (by simp only [if_neg hc71_188, if_pos hc93_194]), pre195⟩
        · obtain ⟨cl196, Ar196, q196, S196, M196, H196, G196⟩ := id f183
          have hin196 : ¬ ((2 : Int32) < 0 ∨ cl196.slots.size ≤ ((2 : Int32)).toNatClampNeg) := inb_of S196 ⟨by decide, by decide⟩
          have hat196 : cl196.slots[((2 : Int32)).toNatClampNeg]? = some (.int (nar .char (pkc x3))) := H196.at hin196 rfl
          obtain ⟨_, _, ⟨T197, L197, k197, n197⟩, -, X197, ⟨Lc197, hQ197, l197, y197, z197⟩, st197⟩ := Jvm.LawKit.callS X191 hx (y := (⟨"com/example/redress/redress/definition/StatementStripBlanksPinLaw", "blank", "(C)Z"⟩ : MethodName)) hown37 (mvT hZ37 (ow121 hw)) (mvT hZ37 (ow122 hw)) (mvT hZ37 (ow4 hw)) (mvT hZ37 (ow123 hw)) (by decide) (backOf (W := 0) (rmbl l Z a0 hw [] (nar .char (pkc x3))  T37.heap n0 O41 ) hZ37 (ow123 hw) (ow4 hw) (by decide) (by decide)) (g := (mkF m 112 #[.val (.int x0), .val (.int x1), .val (.int x2), .val (.int x3), .val (.int x4), .val (.int (4 : Int32)), .val (.ref b3), .val (.ref sb33), .val (.ref rb37), .unset, .unset, .unset] [(.int (nar .char (pkc x3)))])) rfl (by rw [hml]; rfl) (argsL := [(.int (nar .char (pkc x3)))]) (rest := []) (lenOf pd12 rfl) rfl (by show 2 * 0 + _ ≤ _; exact Nat.le_of_eq rfl) (hb hby at_112) (fun _ _ => ⟨rfl, eq191, (by decide : 9 + 0 ≤ _), (by decide : 24 + 0 ≤ _)⟩)
          dsimp only [Pt.U, Pt.locs, Pt.cells, Pt.slots] at X197 l197 y197 z197 st197 hQ197
          subst l197 y197 z197
          obtain ⟨rfl, Nq197, eq197⟩ := hQ197
          have N198 := Fr.app N192 Nq197
          have pre199 : ∀ tgt, Steps p.tables e below (T197.setTop (mkF m 115 #[.val (.int x0), .val (.int x1), .val (.int x2), .val (.int x3), .val (.int x4), .val (.int (4 : Int32)), .val (.ref b3), .val (.ref sb33), .val (.ref rb37), .unset, .unset, .unset] [(.int (bl (nar .char (pkc x3))))])) tgt → Steps p.tables e below (s₁.setTop (entryFrame m #[(.int x0), (.int x1), (.int x2), (.int x3), (.int x4)] maxLocals)) tgt := by
            intro tgt kgo
            refine pre193 _ ?_
            refine XS.ifYes X191.here hx rfl (pc0 := 93) (pc' := 102) rfl (hb hby at_93) rfl ((if0 _ _).trans (feq hc93_194).2) (by decide) (by decide) ?_
            show Steps p.tables e below (T191.setTop (mkF m 102 #[.val (.int x0), .val (.int x1), .val (.int x2), .val (.int x3), .val (.int x4), .val (.int (4 : Int32)), .val (.ref b3), .val (.ref sb33), .val (.ref rb37), .unset, .unset, .unset] [])) _
            refine XS.iconst X191.here hx rfl (hb hby at_102) ?_
            show Steps p.tables e below (T191.setTop (mkF m 103 #[.val (.int x0), .val (.int x1), .val (.int x2), .val (.int x3), .val (.int x4), .val (.int (4 : Int32)), .val (.ref b3), .val (.ref sb33), .val (.ref rb37), .unset, .unset, .unset] [(.int (2 : Int32))])) _
            refine XS.iload X191.here hx rfl (hb hby at_103) rfl ?_
            show Steps p.tables e below (T191.setTop (mkF m 105 #[.val (.int x0), .val (.int x1), .val (.int x2), .val (.int x3), .val (.int x4), .val (.int (4 : Int32)), .val (.ref b3), .val (.ref sb33), .val (.ref rb37), .unset, .unset, .unset] [(.int (4 : Int32)), (.int (2 : Int32))])) _
            refine XS.icmpNo X191.here hx rfl (hb hby at_105) rfl (tlt (by decide : (2 : Int32) < (4 : Int32))).2.1 ?_
            show Steps p.tables e below (T191.setTop (mkF m 108 #[.val (.int x0), .val (.int x1), .val (.int x2), .val (.int x3), .val (.int x4), .val (.int (4 : Int32)), .val (.ref b3), .val (.ref sb33), .val (.ref rb37), .unset, .unset, .unset] [])) _
            refine XS.aload X191.here hx rfl (hb hby at_108) rfl rfl ?_
            show Steps p.tables e below (T191.setTop (mkF m 110 #[.val (.int x0), .val (.int x1), .val (.int x2), .val (.int x3), .val (.int x4), .val (.int (4 : Int32)), .val (.ref b3), .val (.ref sb33), .val (.ref rb37), .unset, .unset, .unset] [(.ref b3)])) _
            refine XS.iconst X191.here hx rfl (hb hby at_110) ?_
            show Steps p.tables e below (T191.setTop (mkF m 111 #[.val (.int x0), .val (.int x1), .val (.int x2), .val (.int x3), .val (.int x4), .val (.int (4 : Int32)), .val (.ref b3), .val (.ref sb33), .val (.ref rb37), .unset, .unset, .unset] [(.int (2 : Int32)), (.ref b3)])) _
            refine X191.caload hx (j := (2 : Int32)) (v := (.int (nar .char (pkc x3)))) (by rw [eq191]; exact Ar196.1) (State.isArrayOf_alike hZ37.alike Ar196.2.1) Ar196.2.2 hin196 hat196 (g := (mkF m 111 #[.val (.int x0), .val (.int x1), .val (.int x2), .val (.int x3), .val (.int x4), .val (.int (4 : Int32)), .val (.ref b3), .val (.ref sb33), .val (.ref rb37), .unset, .unset, .unset] [(.int (2 : Int32)), (.ref b3)])) rfl rfl (hb hby at_111) _ ?_
            show Steps p.tables e below (T191.setTop (mkF m 112 #[.val (.int x0), .val (.int x1), .val (.int x2), .val (.int x3), .val (.int x4), .val (.int (4 : Int32)), .val (.ref b3), .val (.ref sb33), .val (.ref rb37), .unset, .unset, .unset] [(.int (nar .char (pkc x3)))])) _
            refine st197 _ ?_
            show Steps p.tables e below (T197.setTop (mkF m 115 #[.val (.int x0), .val (.int x1), .val (.int x2), .val (.int x3), .val (.int x4), .val (.int (4 : Int32)), .val (.ref b3), .val (.ref sb33), .val (.ref rb37), .unset, .unset, .unset] [(.int (bl (nar .char (pkc x3))))])) _
            exact kgo
          by_cases hc115_200 : (bl (nar .char (pkc x3))) = (0 : Int32)
          · have pre201 : ∀ tgt, Steps p.tables e below (T197.setTop (mkF m 150 #[.val (.int x0), .val (.int x1), .val (.int x2), .val (.int x3), .val (.int x4), .val (.int (4 : Int32)), .val (.ref b3), .val (.ref sb33), .val (.ref rb37), .val (.int (2 : Int32)), .unset, .unset] [])) tgt → Steps p.tables e below (s₁.setTop (entryFrame m #[(.int x0), (.int x1), (.int x2), (.int x3), (.int x4)] maxLocals)) tgt := by
              intro tgt kgo
              refine pre199 _ ?_
              refine XS.ifNo X197.here hx rfl (hb hby at_115) rfl ((if0 _ _).trans (teq hc115_200).2) ?_
              show Steps p.tables e below (T197.setTop (mkF m 118 #[.val (.int x0), .val (.int x1), .val (.int x2), .val (.int x3), .val (.int x4), .val (.int (4 : Int32)), .val (.ref b3), .val (.ref sb33), .val (.ref rb37), .unset, .unset, .unset] [])) _
              refine XS.iconst X197.here hx rfl (hb hby at_118) ?_
              show Steps p.tables e below (T197.setTop (mkF m 119 #[.val (.int x0), .val (.int x1), .val (.int x2), .val (.int x3), .val (.int x4), .val (.int (4 : Int32)), .val (.ref b3), .val (.ref sb33), .val (.ref rb37), .unset, .unset, .unset] [(.int (2 : Int32))])) _
              refine XS.istore X197.here hx rfl (hb hby at_119) rfl (l' := #[.val (.int x0), .val (.int x1), .val (.int x2), .val (.int x3), .val (.int x4), .val (.int (4 : Int32)), .val (.ref b3), .val (.ref sb33), .val (.ref rb37), .val (.int (2 : Int32)), .unset, .unset]) rfl ?_
              show Steps p.tables e below (T197.setTop (mkF m 121 #[.val (.int x0), .val (.int x1), .val (.int x2), .val (.int x3), .val (.int x4), .val (.int (4 : Int32)), .val (.ref b3), .val (.ref sb33), .val (.ref rb37), .val (.int (2 : Int32)), .unset, .unset] [])) _
              refine XS.goto X197.here hx rfl (pc0 := 121) (pc' := 150) rfl (hb hby at_121) (by decide) (by decide) ?_
              show Steps p.tables e below (T197.setTop (mkF m 150 #[.val (.int x0), .val (.int x1), .val (.int x2), .val (.int x3), .val (.int x4), .val (.int (4 : Int32)), .val (.ref b3), .val (.ref sb33), .val (.ref rb37), .val (.int (2 : Int32)), .unset, .unset] [])) _
              exact kgo
            exact ⟨T197, _, (2 : Int32), X197, eq197, N198, (by simp only [if_neg hc71_188, if_neg hc93_194, if_pos hc115_200]), pre201⟩
          · obtain ⟨cl202, Ar202, q202, S202, M202, H202, G202⟩ := id f183
            have hin202 : ¬ ((3 : Int32) < 0 ∨ cl202.slots.size ≤ ((3 : Int32)).toNatClampNeg) := inb_of S202 ⟨by decide, by decide⟩
            have hat202 : cl202.slots[((3 : Int32)).toNatClampNeg]? = some (.int (nar .char (pkc x4))) := H202.at hin202 rfl
            obtain ⟨_, _, ⟨T203, L203, k203, n203⟩, -, X203, ⟨Lc203, hQ203, l203, y203, z203⟩, st203⟩ := Jvm.LawKit.callS X197 hx (y := (⟨"com/example/redress/redress/definition/StatementStripBlanksPinLaw", "blank", "(C)Z"⟩ : MethodName)) hown37 (mvT hZ37 (ow121 hw)) (mvT hZ37 (ow122 hw)) (mvT hZ37 (ow4 hw)) (mvT hZ37 (ow123 hw)) (by decide) (backOf (W := 0) (rmbl l Z a0 hw [] (nar .char (pkc x4))  T37.heap n0 O41 ) hZ37 (ow123 hw) (ow4 hw) (by decide) (by decide)) (g := (mkF m 134 #[.val (.int x0), .val (.int x1), .val (.int x2), .val (.int x3), .val (.int x4), .val (.int (4 : Int32)), .val (.ref b3), .val (.ref sb33), .val (.ref rb37), .unset, .unset, .unset] [(.int (nar .char (pkc x4)))])) rfl (by rw [hml]; rfl) (argsL := [(.int (nar .char (pkc x4)))]) (rest := []) (lenOf pd12 rfl) rfl (by show 2 * 0 + _ ≤ _; exact Nat.le_of_eq rfl) (hb hby at_134) (fun _ _ => ⟨rfl, eq197, (by decide : 9 + 0 ≤ _), (by decide : 24 + 0 ≤ _)⟩)
            dsimp only [Pt.U, Pt.locs, Pt.cells, Pt.slots] at X203 l203 y203 z203 st203 hQ203
            subst l203 y203 z203
            obtain ⟨rfl, Nq203, eq203⟩ := hQ203
            have N204 := Fr.app N198 Nq203
            have pre205 : ∀ tgt, Steps p.tables e below (T203.setTop (mkF m 137 #[.val (.int x0), .val (.int x1), .val (.int x2), .val (.int x3), .val (.int x4), .val (.int (4 : Int32)), .val (.ref b3), .val (.ref sb33), .val (.ref rb37), .unset, .unset, .unset] [(.int (bl (nar .char (pkc x4))))])) tgt → Steps p.tables e below (s₁.setTop (entryFrame m #[(.int x0), (.int x1), (.int x2), (.int x3), (.int x4)] maxLocals)) tgt := by
              intro tgt kgo
              refine pre199 _ ?_
              refine XS.ifYes X197.here hx rfl (pc0 := 115) (pc' := 124) rfl (hb hby at_115) rfl ((if0 _ _).trans (feq hc115_200).2) (by decide) (by decide) ?_
              show Steps p.tables e below (T197.setTop (mkF m 124 #[.val (.int x0), .val (.int x1), .val (.int x2), .val (.int x3), .val (.int x4), .val (.int (4 : Int32)), .val (.ref b3), .val (.ref sb33), .val (.ref rb37), .unset, .unset, .unset] [])) _
              refine XS.iconst X197.here hx rfl (hb hby at_124) ?_
              show Steps p.tables e below (T197.setTop (mkF m 125 #[.val (.int x0), .val (.int x1), .val (.int x2), .val (.int x3), .val (.int x4), .val (.int (4 : Int32)), .val (.ref b3), .val (.ref sb33), .val (.ref rb37), .unset, .unset, .unset] [(.int (3 : Int32))])) _
              refine XS.iload X197.here hx rfl (hb hby at_125) rfl ?_
              show Steps p.tables e below (T197.setTop (mkF m 127 #[.val (.int x0), .val (.int x1), .val (.int x2), .val (.int x3), .val (.int x4), .val (.int (4 : Int32)), .val (.ref b3), .val (.ref sb33), .val (.ref rb37), .unset, .unset, .unset] [(.int (4 : Int32)), (.int (3 : Int32))])) _
              refine XS.icmpNo X197.here hx rfl (hb hby at_127) rfl (tlt (by decide : (3 : Int32) < (4 : Int32))).2.1 ?_
              show Steps p.tables e below (T197.setTop (mkF m 130 #[.val (.int x0), .val (.int x1), .val (.int x2), .val (.int x3), .val (.int x4), .val (.int (4 : Int32)), .val (.ref b3), .val (.ref sb33), .val (.ref rb37), .unset, .unset, .unset] [])) _
              refine XS.aload X197.here hx rfl (hb hby at_130) rfl rfl ?_
              show Steps p.tables e below (T197.setTop (mkF m 132 #[.val (.int x0), .val (.int x1), .val (.int x2), .val (.int x3), .val (.int x4), .val (.int (4 : Int32)), .val (.ref b3), .val (.ref sb33), .val (.ref rb37), .unset, .unset, .unset] [(.ref b3)])) _
              refine XS.iconst X197.here hx rfl (hb hby at_132) ?_
              show Steps p.tables e below (T197.setTop (mkF m 133 #[.val (.int x0), .val (.int x1), .val (.int x2), .val (.int x3), .val (.int x4), .val (.int (4 : Int32)), .val (.ref b3), .val (.ref sb33), .val (.ref rb37), .unset, .unset, .unset] [(.int (3 : Int32)), (.ref b3)])) _
              refine X197.caload hx (j := (3 : Int32)) (v := (.int (nar .char (pkc x4)))) (by rw [eq197]; exact Ar202.1) (State.isArrayOf_alike hZ37.alike Ar202.2.1) Ar202.2.2 hin202 hat202 (g := (mkF m 133 #[.val (.int x0), .val (.int x1), .val (.int x2), .val (.int x3), .val (.int x4), .val (.int (4 : Int32)), .val (.ref b3), .val (.ref sb33), .val (.ref rb37), .unset, .unset, .unset] [(.int (3 : Int32)), (.ref b3)])) rfl rfl (hb hby at_133) _ ?_
              show Steps p.tables e below (T197.setTop (mkF m 134 #[.val (.int x0), .val (.int x1), .val (.int x2), .val (.int x3), .val (.int x4), .val (.int (4 : Int32)), .val (.ref b3), .val (.ref sb33), .val (.ref rb37), .unset, .unset, .unset] [(.int (nar .char (pkc x4)))])) _
              refine st203 _ ?_
              show Steps p.tables e below (T203.setTop (mkF m 137 #[.val (.int x0), .val (.int x1), .val (.int x2), .val (.int x3), .val (.int x4), .val (.int (4 : Int32)), .val (.ref b3), .val (.ref sb33), .val (.ref rb37), .unset, .unset, .unset] [(.int (bl (nar .char (pkc x4))))])) _
              exact kgo
            by_cases hc137_206 : (bl (nar .char (pkc x4))) = (0 : Int32)
            · have pre207 : ∀ tgt, Steps p.tables e below (T203.setTop (mkF m 150 #[.val (.int x0), .val (.int x1), .val (.int x2), .val (.int x3), .val (.int x4), .val (.int (4 : Int32)), .val (.ref b3), .val (.ref sb33), .val (.ref rb37), .val (.int (3 : Int32)), .unset, .unset] [])) tgt → Steps p.tables e below (s₁.setTop (entryFrame m #[(.int x0), (.int x1), (.int x2), (.int x3), (.int x4)] maxLocals)) tgt := by
                intro tgt kgo
                refine pre205 _ ?_
                refine XS.ifNo X203.here hx rfl (hb hby at_137) rfl ((if0 _ _).trans (teq hc137_206).2) ?_
                show Steps p.tables e below (T203.setTop (mkF m 140 #[.val (.int x0), .val (.int x1), .val (.int x2), .val (.int x3), .val (.int x4), .val (.int (4 : Int32)), .val (.ref b3), .val (.ref sb33), .val (.ref rb37), .unset, .unset, .unset] [])) _
                refine XS.iconst X203.here hx rfl (hb hby at_140) ?_
                show Steps p.tables e below (T203.setTop (mkF m 141 #[.val (.int x0), .val (.int x1), .val (.int x2), .val (.int x3), .val (.int x4), .val (.int (4 : Int32)), .val (.ref b3), .val (.ref sb33), .val (.ref rb37), .unset, .unset, .unset] [(.int (3 : Int32))])) _
                refine XS.istore X203.here hx rfl (hb hby at_141) rfl (l' := #[.val (.int x0), .val (.int x1), .val (.int x2), .val (.int x3), .val (.int x4), .val (.int (4 : Int32)), .val (.ref b3), .val (.ref sb33), .val (.ref rb37), .val (.int (3 : Int32)), .unset, .unset]) rfl ?_
                show Steps p.tables e below (T203.setTop (mkF m 143 #[.val (.int x0), .val (.int x1), .val (.int x2), .val (.int x3), .val (.int x4), .val (.int (4 : Int32)), .val (.ref b3), .val (.ref sb33), .val (.ref rb37), .val (.int (3 : Int32)), .unset, .unset] [])) _
                refine XS.goto X203.here hx rfl (pc0 := 143) (pc' := 150) rfl (hb hby at_143) (by decide) (by decide) ?_
                show Steps p.tables e below (T203.setTop (mkF m 150 #[.val (.int x0), .val (.int x1), .val (.int x2), .val (.int x3), .val (.int x4), .val (.int (4 : Int32)), .val (.ref b3), .val (.ref sb33), .val (.ref rb37), .val (.int (3 : Int32)), .unset, .unset] [])) _
                exact kgo
              exact ⟨T203, _, (3 : Int32), X203, eq203, N204, (by simp only [if_neg hc71_188, if_neg hc93_194, if_neg hc115_200, if_pos hc137_206]), pre207⟩
            · have pre208 : ∀ tgt, Steps p.tables e below (T203.setTop (mkF m 150 #[.val (.int x0), .val (.int x1), .val (.int x2), .val (.int x3), .val (.int x4), .val (.int (4 : Int32)), .val (.ref b3), .val (.ref sb33), .val (.ref rb37), .val (.int (4 : Int32)), .unset, .unset] [])) tgt → Steps p.tables e below (s₁.setTop (entryFrame m #[(.int x0), (.int x1), (.int x2), (.int x3), (.int x4)] maxLocals)) tgt := by
                intro tgt kgo
                refine pre205 _ ?_
                refine XS.ifYes X203.here hx rfl (pc0 := 137) (pc' := 146) rfl (hb hby at_137) rfl ((if0 _ _).trans (feq hc137_206).2) (by decide) (by decide) ?_
                show Steps p.tables e below (T203.setTop (mkF m 146 #[.val (.int x0), .val (.int x1), .val (.int x2), .val (.int x3), .val (.int x4), .val (.int (4 : Int32)), .val (.ref b3), .val (.ref sb33), .val (.ref rb37), .unset, .unset, .unset] [])) _
                refine XS.iload X203.here hx rfl (hb hby at_146) rfl ?_
                show Steps p.tables e below (T203.setTop (mkF m 148 #[.val (.int x0), .val (.int x1), .val (.int x2), .val (.int x3), .val (.int x4), .val (.int (4 : Int32)), .val (.ref b3), .val (.ref sb33), .val (.ref rb37), .unset, .unset, .unset] [(.int (4 : Int32))])) _
                refine XS.istore X203.here hx rfl (hb hby at_148) rfl (l' := #[.val (.int x0), .val (.int x1), .val (.int x2), .val (.int x3), .val (.int x4), .val (.int (4 : Int32)), .val (.ref b3), .val (.ref sb33), .val (.ref rb37), .val (.int (4 : Int32)), .unset, .unset]) rfl ?_
                show Steps p.tables e below (T203.setTop (mkF m 150 #[.val (.int x0), .val (.int x1), .val (.int x2), .val (.int x3), .val (.int x4), .val (.int (4 : Int32)), .val (.ref b3), .val (.ref sb33), .val (.ref rb37), .val (.int (4 : Int32)), .unset, .unset] [])) _
                exact kgo
              exact ⟨T203, _, (4 : Int32), X203, eq203, N204, (by simp only [if_neg hc71_188, if_neg hc93_194, if_neg hc115_200, if_neg hc137_206]), pre208⟩
    obtain ⟨cl209, Ar209, q209, S209, M209, H209, G209⟩ := id f183
    have hin209 : ¬ ((3 : Int32) < 0 ∨ cl209.slots.size ≤ ((3 : Int32)).toNatClampNeg) := inb_of S209 ⟨by decide, by decide⟩
    have hat209 : cl209.slots[((3 : Int32)).toNatClampNeg]? = some (.int (nar .char (pkc x4))) := H209.at hin209 rfl
    obtain ⟨_, _, ⟨T210, L210, k210, n210⟩, -, X210, ⟨Lc210, hQ210, l210, y210, z210⟩, st210⟩ := Jvm.LawKit.callS X187 hx (y := (⟨"com/example/redress/redress/definition/StatementStripBlanksPinLaw", "blank", "(C)Z"⟩ : MethodName)) hown37 (mvT hZ37 (ow121 hw)) (mvT hZ37 (ow122 hw)) (mvT hZ37 (ow4 hw)) (mvT hZ37 (ow123 hw)) (by decide) (backOf (W := 0) (rmbl l Z a0 hw [] (nar .char (pkc x4))  T37.heap n0 O41 ) hZ37 (ow123 hw) (ow4 hw) (by decide) (by decide)) (g := (mkF m 160 #[.val (.int x0), .val (.int x1), .val (.int x2), .val (.int x3), .val (.int x4), .val (.int (4 : Int32)), .val (.ref b3), .val (.ref sb33), .val (.ref rb37), .val (.int stt), .unset, .unset] [(.int (nar .char (pkc x4)))])) rfl (by rw [hml]; rfl) (argsL := [(.int (nar .char (pkc x4)))]) (rest := []) (lenOf pd12 rfl) rfl (by show 2 * 0 + _ ≤ _; exact Nat.le_of_eq rfl) (hb hby at_160) (fun _ _ => ⟨rfl, e187, (by decide : 9 + 0 ≤ _), (by decide : 24 + 0 ≤ _)⟩)
    dsimp only [Pt.U, Pt.locs, Pt.cells, Pt.slots] at X210 l210 y210 z210 st210 hQ210
    subst l210 y210 z210
    obtain ⟨rfl, Nq210, eq210⟩ := hQ210
    have N211 := Fr.app N187 Nq210
    have pre212 : ∀ tgt, Steps p.tables e below (T210.setTop (mkF m 163 #[.val (.int x0), .val (.int x1), .val (.int x2), .val (.int x3), .val (.int x4), .val (.int (4 : Int32)), .val (.ref b3), .val (.ref sb33), .val (.ref rb37), .val (.int stt), .unset, .unset] [(.int (bl (nar .char (pkc x4))))])) tgt → Steps p.tables e below (s₁.setTop (entryFrame m #[(.int x0), (.int x1), (.int x2), (.int x3), (.int x4)] maxLocals)) tgt := by
      intro tgt kgo
      refine pre187 _ ?_
      refine XS.iconst X187.here hx rfl (hb hby at_150) ?_
      show Steps p.tables e below (T187.setTop (mkF m 151 #[.val (.int x0), .val (.int x1), .val (.int x2), .val (.int x3), .val (.int x4), .val (.int (4 : Int32)), .val (.ref b3), .val (.ref sb33), .val (.ref rb37), .val (.int stt), .unset, .unset] [(.int (3 : Int32))])) _
      refine XS.iload X187.here hx rfl (hb hby at_151) rfl ?_
      show Steps p.tables e below (T187.setTop (mkF m 153 #[.val (.int x0), .val (.int x1), .val (.int x2), .val (.int x3), .val (.int x4), .val (.int (4 : Int32)), .val (.ref b3), .val (.ref sb33), .val (.ref rb37), .val (.int stt), .unset, .unset] [(.int (4 : Int32)), (.int (3 : Int32))])) _
      refine XS.icmpNo X187.here hx rfl (hb hby at_153) rfl (tlt (by decide : (3 : Int32) < (4 : Int32))).2.1 ?_
      show Steps p.tables e below (T187.setTop (mkF m 156 #[.val (.int x0), .val (.int x1), .val (.int x2), .val (.int x3), .val (.int x4), .val (.int (4 : Int32)), .val (.ref b3), .val (.ref sb33), .val (.ref rb37), .val (.int stt), .unset, .unset] [])) _
      refine XS.aload X187.here hx rfl (hb hby at_156) rfl rfl ?_
      show Steps p.tables e below (T187.setTop (mkF m 158 #[.val (.int x0), .val (.int x1), .val (.int x2), .val (.int x3), .val (.int x4), .val (.int (4 : Int32)), .val (.ref b3), .val (.ref sb33), .val (.ref rb37), .val (.int stt), .unset, .unset] [(.ref b3)])) _
      refine XS.iconst X187.here hx rfl (hb hby at_158) ?_
      show Steps p.tables e below (T187.setTop (mkF m 159 #[.val (.int x0), .val (.int x1), .val (.int x2), .val (.int x3), .val (.int x4), .val (.int (4 : Int32)), .val (.ref b3), .val (.ref sb33), .val (.ref rb37), .val (.int stt), .unset, .unset] [(.int (3 : Int32)), (.ref b3)])) _
      refine X187.caload hx (j := (3 : Int32)) (v := (.int (nar .char (pkc x4)))) (by rw [e187]; exact Ar209.1) (State.isArrayOf_alike hZ37.alike Ar209.2.1) Ar209.2.2 hin209 hat209 (g := (mkF m 159 #[.val (.int x0), .val (.int x1), .val (.int x2), .val (.int x3), .val (.int x4), .val (.int (4 : Int32)), .val (.ref b3), .val (.ref sb33), .val (.ref rb37), .val (.int stt), .unset, .unset] [(.int (3 : Int32)), (.ref b3)])) rfl rfl (hb hby at_159) _ ?_
      show Steps p.tables e below (T187.setTop (mkF m 160 #[.val (.int x0), .val (.int x1), .val (.int x2), .val (.int x3), .val (.int x4), .val (.int (4 : Int32)), .val (.ref b3), .val (.ref sb33), .val (.ref rb37), .val (.int stt), .unset, .unset] [(.int (nar .char (pkc x4)))])) _
      refine st210 _ ?_
      show Steps p.tables e below (T210.setTop (mkF m 163 #[.val (.int x0), .val (.int x1), .val (.int x2), .val (.int x3), .val (.int x4), .val (.int (4 : Int32)), .val (.ref b3), .val (.ref sb33), .val (.ref rb37), .val (.int stt), .unset, .unset] [(.int (bl (nar .char (pkc x4))))])) _
      exact kgo
    obtain ⟨T213, lo213, enn, X213, e213, N213, henn, pre213⟩ : ∃ (T' : State) (lo213 : List Loc) (enn : Int32), Stand p l e room_1 (s.setVm T37.vm) m #[(.int x0), (.int x1), (.int x2), (.int x3), (.int x4)] below meth c T' lo213 9 24 ∧ T'.heap = T37.heap ∧ Fr n0 lo213 ∧ enn = (if (bl (nar .char (pkc x4))) = (0 : Int32) then (4 : Int32) else (if (bl (nar .char (pkc x3))) = (0 : Int32) then (3 : Int32) else (if (bl (nar .char (pkc x2))) = (0 : Int32) then (2 : Int32) else (if (bl (nar .char (pkc x1))) = (0 : Int32) then (1 : Int32) else (4 : Int32))))) ∧ ∀ tgt, Steps p.tables e below (T'.setTop (mkF m 242 #[.val (.int x0), .val (.int x1), .val (.int x2), .val (.int x3), .val (.int x4), .val (.int (4 : Int32)), .val (.ref b3), .val (.ref sb33), .val (.ref rb37), .val (.int stt), .val (.int enn), .unset] [])) tgt → Steps p.tables e below (s₁.setTop (entryFrame m #[(.int x0), (.int x1), (.int x2), (.int x3), (.int x4)] maxLocals)) tgt := by
      by_cases hc163_214 : (bl (nar .char (pkc x4))) = (0 : Int32)
      · have pre215 : ∀ tgt, Steps p.tables e below (T210.setTop (mkF m 242 #[.val (.int x0), .val (.int x1), .val (.int x2), .val (.int x3), .val (.int x4), .val (.int (4 : Int32)), .val (.ref b3), .val (.ref sb33), .val (.ref rb37), .val (.int stt), .val (.int (4 : Int32)), .unset] [])) tgt → Steps p.tables e below (s₁.setTop (entryFrame m #[(.int x0), (.int x1), (.int x2), (.int x3), (.int x4)] maxLocals)) tgt := by
          intro tgt kgo
          refine pre212 _ ?_
          refine XS.ifNo X210.here hx rfl (hb hby at_163) rfl ((if0 _ _).trans (teq hc163_214).2) ?_
          show Steps p.tables e below (T210.setTop (mkF m 166 #[.val (.int x0), .val (.int x1), .val (.int x2), .val (.int x3), .val (.int x4), .val (.int (4 : Int32)), .val (.ref b3), .val (.ref sb33), .val (.ref rb37), .val (.int stt), .unset, .unset] [])) _
          refine XS.iconst X210.here hx rfl (hb hby at_166) ?_
          show Steps p.tables e below (T210.setTop (mkF m 167 #[.val (.int x0), .val (.int x1), .val (.int x2), .val (.int x3), .val (.int x4), .val (.int (4 : Int32)), .val (.ref b3), .val (.ref sb33), .val (.ref rb37), .val (.int stt), .unset, .unset] [(.int (4 : Int32))])) _
          refine XS.istore X210.here hx rfl (hb hby at_167) rfl (l' := #[.val (.int x0), .val (.int x1), .val (.int x2), .val (.int x3), .val (.int x4), .val (.int (4 : Int32)), .val (.ref b3), .val (.ref sb33), .val (.ref rb37), .val (.int stt), .val (.int (4 : Int32)), .unset]) rfl ?_
          show Steps p.tables e below (T210.setTop (mkF m 169 #[.val (.int x0), .val (.int x1), .val (.int x2), .val (.int x3), .val (.int x4), .val (.int (4 : Int32)), .val (.ref b3), .val (.ref sb33), .val (.ref rb37), .val (.int stt), .val (.int (4 : Int32)), .unset] [])) _
          refine XS.goto X210.here hx rfl (pc0 := 169) (pc' := 242) rfl (hb hby at_169) (by decide) (by decide) ?_
          show Steps p.tables e below (T210.setTop (mkF m 242 #[.val (.int x0), .val (.int x1), .val (.int x2), .val (.int x3), .val (.int x4), .val (.int (4 : Int32)), .val (.ref b3), .val (.ref sb33), .val (.ref rb37), .val (.int stt), .val (.int (4 : Int32)), .unset] [])) _
          exact kgo
        exact ⟨T210, _, (4 : Int32), X210, eq210, N211, (by simp only [if_pos hc163_214]), pre215⟩
      · obtain ⟨cl216, Ar216, q216, S216, M216, H216, G216⟩ := id f183
        have hin216 : ¬ ((2 : Int32) < 0 ∨ cl216.slots.size ≤ ((2 : Int32)).toNatClampNeg) := inb_of S216 ⟨by decide, by decide⟩
        have hat216 : cl216.slots[((2 : Int32)).toNatClampNeg]? = some (.int (nar .char (pkc x3))) := H216.at hin216 rfl
        obtain ⟨_, _, ⟨T217, L217, k217, n217⟩, -, X217, ⟨Lc217, hQ217, l217, y217, z217⟩, st217⟩ := Jvm.LawKit.callS X210 hx (y := (⟨"com/example/redress/redress/definition/StatementStripBlanksPinLaw", "blank", "(C)Z"⟩ : MethodName)) hown37 (mvT hZ37 (ow121 hw)) (mvT hZ37 (ow122 hw)) (mvT hZ37 (ow4 hw)) (mvT hZ37 (ow123 hw)) (by decide) (backOf (W := 0) (rmbl l Z a0 hw [] (nar .char (pkc x3))  T37.heap n0 O41 ) hZ37 (ow123 hw) (ow4 hw) (by decide) (by decide)) (g := (mkF m 182 #[.val (.int x0), .val (.int x1), .val (.int x2), .val (.int x3), .val (.int x4), .val (.int (4 : Int32)), .val (.ref b3), .val (.ref sb33), .val (.ref rb37), .val (.int stt), .unset, .unset] [(.int (nar .char (pkc x3)))])) rfl (by rw [hml]; rfl) (argsL := [(.int (nar .char (pkc x3)))]) (rest := []) (lenOf pd12 rfl) rfl (by show 2 * 0 + _ ≤ _; exact Nat.le_of_eq rfl) (hb hby at_182) (fun _ _ => ⟨rfl, eq210, (by decide : 9 + 0 ≤ _), (by decide : 24 + 0 ≤ _)⟩)
        dsimp only [Pt.U, Pt.locs, Pt.cells, Pt.slots] at X217 l217 y217 z217 st217 hQ217
        subst l217 y217 z217
        obtain ⟨rfl, Nq217, eq217⟩ := hQ217
        have N218 := Fr.app N211 Nq217
        have pre219 : ∀ tgt, Steps p.tables e below (T217.setTop (mkF m 185 #[.val (.int x0), .val (.int x1), .val (.int x2), .val (.int x3), .val (.int x4), .val (.int (4 : Int32)), .val (.ref b3), .val (.ref sb33), .val (.ref rb37), .val (.int stt), .unset, .unset] [(.int (bl (nar .char (pkc x3))))])) tgt → Steps p.tables e below (s₁.setTop (entryFrame m #[(.int x0), (.int x1), (.int x2), (.int x3), (.int x4)] maxLocals)) tgt := by
          intro tgt kgo
          refine pre212 _ ?_
          refine XS.ifYes X210.here hx rfl (pc0 := 163) (pc' := 172) rfl (hb hby at_163) rfl ((if0 _ _).trans (feq hc163_214).2) (by decide) (by decide) ?_
          show Steps p.tables e below (T210.setTop (mkF m 172 #[.val (.int x0), .val (.int x1), .val (.int x2), .val (.int x3), .val (.int x4), .val (.int (4 : Int32)), .val (.ref b3), .val (.ref sb33), .val (.ref rb37), .val (.int stt), .unset, .unset] [])) _
          refine XS.iconst X210.here hx rfl (hb hby at_172) ?_
          show Steps p.tables e below (T210.setTop (mkF m 173 #[.val (.int x0), .val (.int x1), .val (.int x2), .val (.int x3), .val (.int x4), .val (.int (4 : Int32)), .val (.ref b3), .val (.ref sb33), .val (.ref rb37), .val (.int stt), .unset, .unset] [(.int (2 : Int32))])) _
          refine XS.iload X210.here hx rfl (hb hby at_173) rfl ?_
          show Steps p.tables e below (T210.setTop (mkF m 175 #[.val (.int x0), .val (.int x1), .val (.int x2), .val (.int x3), .val (.int x4), .val (.int (4 : Int32)), .val (.ref b3), .val (.ref sb33), .val (.ref rb37), .val (.int stt), .unset, .unset] [(.int (4 : Int32)), (.int (2 : Int32))])) _
          refine XS.icmpNo X210.here hx rfl (hb hby at_175) rfl (tlt (by decide : (2 : Int32) < (4 : Int32))).2.1 ?_
          show Steps p.tables e below (T210.setTop (mkF m 178 #[.val (.int x0), .val (.int x1), .val (.int x2), .val (.int x3), .val (.int x4), .val (.int (4 : Int32)), .val (.ref b3), .val (.ref sb33), .val (.ref rb37), .val (.int stt), .unset, .unset] [])) _
          refine XS.aload X210.here hx rfl (hb hby at_178) rfl rfl ?_
          show Steps p.tables e below (T210.setTop (mkF m 180 #[.val (.int x0), .val (.int x1), .val (.int x2), .val (.int x3), .val (.int x4), .val (.int (4 : Int32)), .val (.ref b3), .val (.ref sb33), .val (.ref rb37), .val (.int stt), .unset, .unset] [(.ref b3)])) _
          refine XS.iconst X210.here hx rfl (hb hby at_180) ?_
          show Steps p.tables e below (T210.setTop (mkF m 181 #[.val (.int x0), .val (.int x1), .val (.int x2), .val (.int x3), .val (.int x4), .val (.int (4 : Int32)), .val (.ref b3), .val (.ref sb33), .val (.ref rb37), .val (.int stt), .unset, .unset] [(.int (2 : Int32)), (.ref b3)])) _
          refine X210.caload hx (j := (2 : Int32)) (v := (.int (nar .char (pkc x3)))) (by rw [eq210]; exact Ar216.1) (State.isArrayOf_alike hZ37.alike Ar216.2.1) Ar216.2.2 hin216 hat216 (g := (mkF m 181 #[.val (.int x0), .val (.int x1), .val (.int x2), .val (.int x3), .val (.int x4), .val (.int (4 : Int32)), .val (.ref b3), .val (.ref sb33), .val (.ref rb37), .val (.int stt), .unset, .unset] [(.int (2 : Int32)), (.ref b3)])) rfl rfl (hb hby at_181) _ ?_
          show Steps p.tables e below (T210.setTop (mkF m 182 #[.val (.int x0), .val (.int x1), .val (.int x2), .val (.int x3), .val (.int x4), .val (.int (4 : Int32)), .val (.ref b3), .val (.ref sb33), .val (.ref rb37), .val (.int stt), .unset, .unset] [(.int (nar .char (pkc x3)))])) _
          refine st217 _ ?_
          show Steps p.tables e below (T217.setTop (mkF m 185 #[.val (.int x0), .val (.int x1), .val (.int x2), .val (.int x3), .val (.int x4), .val (.int (4 : Int32)), .val (.ref b3), .val (.ref sb33), .val (.ref rb37), .val (.int stt), .unset, .unset] [(.int (bl (nar .char (pkc x3))))])) _
          exact kgo
        by_cases hc185_220 : (bl (nar .char (pkc x3))) = (0 : Int32)
        · have pre221 : ∀ tgt, Steps p.tables e below (T217.setTop (mkF m 242 #[.val (.int x0), .val (.int x1), .val (.int x2), .val (.int x3), .val (.int x4), .val (.int (4 : Int32)), .val (.ref b3), .val (.ref sb33), .val (.ref rb37), .val (.int stt), .val (.int (3 : Int32)), .unset] [])) tgt → Steps p.tables e below (s₁.setTop (entryFrame m #[(.int x0), (.int x1), (.int x2), (.int x3), (.int x4)] maxLocals)) tgt := by
            intro tgt kgo
            refine pre219 _ ?_
            refine XS.ifNo X217.here hx rfl (hb hby at_185) rfl ((if0 _ _).trans (teq hc185_220).2) ?_
            show Steps p.tables e below (T217.setTop (mkF m 188 #[.val (.int x0), .val (.int x1), .val (.int x2), .val (.int x3), .val (.int x4), .val (.int (4 : Int32)), .val (.ref b3), .val (.ref sb33), .val (.ref rb37), .val (.int stt), .unset, .unset] [])) _
            refine XS.iconst X217.here hx rfl (hb hby at_188) ?_
            show Steps p.tables e below (T217.setTop (mkF m 189 #[.val (.int x0), .val (.int x1), .val (.int x2), .val (.int x3), .val (.int x4), .val (.int (4 : Int32)), .val (.ref b3), .val (.ref sb33), .val (.ref rb37), .val (.int stt), .unset, .unset] [(.int (3 : Int32))])) _
            refine XS.istore X217.here hx rfl (hb hby at_189) rfl (l' := #[.val (.int x0), .val (.int x1), .val (.int x2), .val (.int x3), .val (.int x4), .val (.int (4 : Int32)), .val (.ref b3), .val (.ref sb33), .val (.ref rb37), .val (.int stt), .val (.int (3 : Int32)), .unset]) rfl ?_
            show Steps p.tables e below (T217.setTop (mkF m 191 #[.val (.int x0), .val (.int x1), .val (.int x2), .val (.int x3), .val (.int x4), .val (.int (4 : Int32)), .val (.ref b3), .val (.ref sb33), .val (.ref rb37), .val (.int stt), .val (.int (3 : Int32)), .unset] [])) _
            refine XS.goto X217.here hx rfl (pc0 := 191) (pc' := 242) rfl (hb hby at_191) (by decide) (by decide) ?_
            show Steps p.tables e below (T217.setTop (mkF m 242 #[.val (.int x0), .val (.int x1), .val (.int x2), .val (.int x3), .val (.int x4), .val (.int (4 : Int32)), .val (.ref b3), .val (.ref sb33), .val (.ref rb37), .val (.int stt), .val (.int (3 : Int32)), .unset] [])) _
            exact kgo
          exact ⟨T217, _, (3 : Int32), X217, eq217, N218, (by simp only [if_neg hc163_214, if_pos hc185_220]), pre221⟩
        · obtain ⟨cl222, Ar222, q222, S222, M222, H222, G222⟩ := id f183
          have hin222 : ¬ ((1 : Int32) < 0 ∨ cl222.slots.size ≤ ((1 : Int32)).toNatClampNeg) := inb_of S222 ⟨by decide, by decide⟩
          have hat222 : cl222.slots[((1 : Int32)).toNatClampNeg]? = some (.int (nar .char (pkc x2))) := H222.at hin222 rfl
          obtain ⟨_, _, ⟨T223, L223, k223, n223⟩, -, X223, ⟨Lc223, hQ223, l223, y223, z223⟩, st223⟩ := Jvm.LawKit.callS X217 hx (y := (⟨"com/example/redress/redress/definition/StatementStripBlanksPinLaw", "blank", "(C)Z"⟩ : MethodName)) hown37 (mvT hZ37 (ow121 hw)) (mvT hZ37 (ow122 hw)) (mvT hZ37 (ow4 hw)) (mvT hZ37 (ow123 hw)) (by decide) (backOf (W := 0) (rmbl l Z a0 hw [] (nar .char (pkc x2))  T37.heap n0 O41 ) hZ37 (ow123 hw) (ow4 hw) (by decide) (by decide)) (g := (mkF m 204 #[.val (.int x0), .val (.int x1), .val (.int x2), .val (.int x3), .val (.int x4), .val (.int (4 : Int32)), .val (.ref b3), .val (.ref sb33), .val (.ref rb37), .val (.int stt), .unset, .unset] [(.int (nar .char (pkc x2)))])) rfl (by rw [hml]; rfl) (argsL := [(.int (nar .char (pkc x2)))]) (rest := []) (lenOf pd12 rfl) rfl (by show 2 * 0 + _ ≤ _; exact Nat.le_of_eq rfl) (hb hby at_204) (fun _ _ => ⟨rfl, eq217, (by decide : 9 + 0 ≤ _), (by decide : 24 + 0 ≤ _)⟩)
          dsimp only [Pt.U, Pt.locs, Pt.cells, Pt.slots] at X223 l223 y223 z223 st223 hQ223
          subst l223 y223 z223
          obtain ⟨rfl, Nq223, eq223⟩ := hQ223
          have N224 := Fr.app N218 Nq223
          have pre225 : ∀ tgt, Steps p.tables e below (T223.setTop (mkF m 207 #[.val (.int x0), .val (.int x1), .val (.int x2), .val (.int x3), .val (.int x4), .val (.int (4 : Int32)), .val (.ref b3), .val (.ref sb33), .val (.ref rb37), .val (.int stt), .unset, .unset] [(.int (bl (nar .char (pkc x2))))])) tgt → Steps p.tables e below (s₁.setTop (entryFrame m #[(.int x0), (.int x1), (.int x2), (.int x3), (.int x4)] maxLocals)) tgt := by
            intro tgt kgo
            refine pre219 _ ?_
            refine XS.ifYes X217.here hx rfl (pc0 := 185) (pc' := 194) rfl (hb hby at_185) rfl ((if0 _ _).trans (feq hc185_220).2) (by decide) (by decide) ?_
            show Steps p.tables e below (T217.setTop (mkF m 194 #[.val (.int x0), .val (.int x1), .val (.int x2), .val (.int x3), .val (.int x4), .val (.int (4 : Int32)), .val (.ref b3), .val (.ref sb33), .val (.ref rb37), .val (.int stt), .unset, .unset] [])) _
            refine XS.iconst X217.here hx rfl (hb hby at_194) ?_
            show Steps p.tables e below (T217.setTop (mkF m 195 #[.val (.int x0), .val (.int x1), .val (.int x2), .val (.int x3), .val (.int x4), .val (.int (4 : Int32)), .val (.ref b3), .val (.ref sb33), .val (.ref rb37), .val (.int stt), .unset, .unset] [(.int (1 : Int32))])) _
            refine XS.iload X217.here hx rfl (hb hby at_195) rfl ?_
            show Steps p.tables e below (T217.setTop (mkF m 197 #[.val (.int x0), .val (.int x1), .val (.int x2), .val (.int x3), .val (.int x4), .val (.int (4 : Int32)), .val (.ref b3), .val (.ref sb33), .val (.ref rb37), .val (.int stt), .unset, .unset] [(.int (4 : Int32)), (.int (1 : Int32))])) _
            refine XS.icmpNo X217.here hx rfl (hb hby at_197) rfl (tlt (by decide : (1 : Int32) < (4 : Int32))).2.1 ?_
            show Steps p.tables e below (T217.setTop (mkF m 200 #[.val (.int x0), .val (.int x1), .val (.int x2), .val (.int x3), .val (.int x4), .val (.int (4 : Int32)), .val (.ref b3), .val (.ref sb33), .val (.ref rb37), .val (.int stt), .unset, .unset] [])) _
            refine XS.aload X217.here hx rfl (hb hby at_200) rfl rfl ?_
            show Steps p.tables e below (T217.setTop (mkF m 202 #[.val (.int x0), .val (.int x1), .val (.int x2), .val (.int x3), .val (.int x4), .val (.int (4 : Int32)), .val (.ref b3), .val (.ref sb33), .val (.ref rb37), .val (.int stt), .unset, .unset] [(.ref b3)])) _
            refine XS.iconst X217.here hx rfl (hb hby at_202) ?_
            show Steps p.tables e below (T217.setTop (mkF m 203 #[.val (.int x0), .val (.int x1), .val (.int x2), .val (.int x3), .val (.int x4), .val (.int (4 : Int32)), .val (.ref b3), .val (.ref sb33), .val (.ref rb37), .val (.int stt), .unset, .unset] [(.int (1 : Int32)), (.ref b3)])) _
            refine X217.caload hx (j := (1 : Int32)) (v := (.int (nar .char (pkc x2)))) (by rw [eq217]; exact Ar222.1) (State.isArrayOf_alike hZ37.alike Ar222.2.1) Ar222.2.2 hin222 hat222 (g := (mkF m 203 #[.val (.int x0), .val (.int x1), .val (.int x2), .val (.int x3), .val (.int x4), .val (.int (4 : Int32)), .val (.ref b3), .val (.ref sb33), .val (.ref rb37), .val (.int stt), .unset, .unset] [(.int (1 : Int32)), (.ref b3)])) rfl rfl (hb hby at_203) _ ?_
            show Steps p.tables e below (T217.setTop (mkF m 204 #[.val (.int x0), .val (.int x1), .val (.int x2), .val (.int x3), .val (.int x4), .val (.int (4 : Int32)), .val (.ref b3), .val (.ref sb33), .val (.ref rb37), .val (.int stt), .unset, .unset] [(.int (nar .char (pkc x2)))])) _
            refine st223 _ ?_
            show Steps p.tables e below (T223.setTop (mkF m 207 #[.val (.int x0), .val (.int x1), .val (.int x2), .val (.int x3), .val (.int x4), .val (.int (4 : Int32)), .val (.ref b3), .val (.ref sb33), .val (.ref rb37), .val (.int stt), .unset, .unset] [(.int (bl (nar .char (pkc x2))))])) _
            exact kgo
          by_cases hc207_226 : (bl (nar .char (pkc x2))) = (0 : Int32)
          · have pre227 : ∀ tgt, Steps p.tables e below (T223.setTop (mkF m 242 #[.val (.int x0), .val (.int x1), .val (.int x2), .val (.int x3), .val (.int x4), .val (.int (4 : Int32)), .val (.ref b3), .val (.ref sb33), .val (.ref rb37), .val (.int stt), .val (.int (2 : Int32)), .unset] [])) tgt → Steps p.tables e below (s₁.setTop (entryFrame m #[(.int x0), (.int x1), (.int x2), (.int x3), (.int x4)] maxLocals)) tgt := by
              intro tgt kgo
              refine pre225 _ ?_
              refine XS.ifNo X223.here hx rfl (hb hby at_207) rfl ((if0 _ _).trans (teq hc207_226).2) ?_
              show Steps p.tables e below (T223.setTop (mkF m 210 #[.val (.int x0), .val (.int x1), .val (.int x2), .val (.int x3), .val (.int x4), .val (.int (4 : Int32)), .val (.ref b3), .val (.ref sb33), .val (.ref rb37), .val (.int stt), .unset, .unset] [])) _
              refine XS.iconst X223.here hx rfl (hb hby at_210) ?_
              show Steps p.tables e below (T223.setTop (mkF m 211 #[.val (.int x0), .val (.int x1), .val (.int x2), .val (.int x3), .val (.int x4), .val (.int (4 : Int32)), .val (.ref b3), .val (.ref sb33), .val (.ref rb37), .val (.int stt), .unset, .unset] [(.int (2 : Int32))])) _
              refine XS.istore X223.here hx rfl (hb hby at_211) rfl (l' := #[.val (.int x0), .val (.int x1), .val (.int x2), .val (.int x3), .val (.int x4), .val (.int (4 : Int32)), .val (.ref b3), .val (.ref sb33), .val (.ref rb37), .val (.int stt), .val (.int (2 : Int32)), .unset]) rfl ?_
              show Steps p.tables e below (T223.setTop (mkF m 213 #[.val (.int x0), .val (.int x1), .val (.int x2), .val (.int x3), .val (.int x4), .val (.int (4 : Int32)), .val (.ref b3), .val (.ref sb33), .val (.ref rb37), .val (.int stt), .val (.int (2 : Int32)), .unset] [])) _
              refine XS.goto X223.here hx rfl (pc0 := 213) (pc' := 242) rfl (hb hby at_213) (by decide) (by decide) ?_
              show Steps p.tables e below (T223.setTop (mkF m 242 #[.val (.int x0), .val (.int x1), .val (.int x2), .val (.int x3), .val (.int x4), .val (.int (4 : Int32)), .val (.ref b3), .val (.ref sb33), .val (.ref rb37), .val (.int stt), .val (.int (2 : Int32)), .unset] [])) _
              exact kgo
            exact ⟨T223, _, (2 : Int32), X223, eq223, N224, (by simp only [if_neg hc163_214, if_neg hc185_220, if_pos hc207_226]), pre227⟩
          · obtain ⟨cl228, Ar228, q228, S228, M228, H228, G228⟩ := id f183
            have hin228 : ¬ ((0 : Int32) < 0 ∨ cl228.slots.size ≤ ((0 : Int32)).toNatClampNeg) := inb_of S228 ⟨by decide, by decide⟩
            have hat228 : cl228.slots[((0 : Int32)).toNatClampNeg]? = some (.int (nar .char (pkc x1))) := H228.at hin228 rfl
            obtain ⟨_, _, ⟨T229, L229, k229, n229⟩, -, X229, ⟨Lc229, hQ229, l229, y229, z229⟩, st229⟩ := Jvm.LawKit.callS X223 hx (y := (⟨"com/example/redress/redress/definition/StatementStripBlanksPinLaw", "blank", "(C)Z"⟩ : MethodName)) hown37 (mvT hZ37 (ow121 hw)) (mvT hZ37 (ow122 hw)) (mvT hZ37 (ow4 hw)) (mvT hZ37 (ow123 hw)) (by decide) (backOf (W := 0) (rmbl l Z a0 hw [] (nar .char (pkc x1))  T37.heap n0 O41 ) hZ37 (ow123 hw) (ow4 hw) (by decide) (by decide)) (g := (mkF m 226 #[.val (.int x0), .val (.int x1), .val (.int x2), .val (.int x3), .val (.int x4), .val (.int (4 : Int32)), .val (.ref b3), .val (.ref sb33), .val (.ref rb37), .val (.int stt), .unset, .unset] [(.int (nar .char (pkc x1)))])) rfl (by rw [hml]; rfl) (argsL := [(.int (nar .char (pkc x1)))]) (rest := []) (lenOf pd12 rfl) rfl (by show 2 * 0 + _ ≤ _; exact Nat.le_of_eq rfl) (hb hby at_226) (fun _ _ => ⟨rfl, eq223, (by decide : 9 + 0 ≤ _), (by decide : 24 + 0 ≤ _)⟩)
            dsimp only [Pt.U, Pt.locs, Pt.cells, Pt.slots] at X229 l229 y229 z229 st229 hQ229
            subst l229 y229 z229
            obtain ⟨rfl, Nq229, eq229⟩ := hQ229
            have N230 := Fr.app N224 Nq229
            have pre231 : ∀ tgt, Steps p.tables e below (T229.setTop (mkF m 229 #[.val (.int x0), .val (.int x1), .val (.int x2), .val (.int x3), .val (.int x4), .val (.int (4 : Int32)), .val (.ref b3), .val (.ref sb33), .val (.ref rb37), .val (.int stt), .unset, .unset] [(.int (bl (nar .char (pkc x1))))])) tgt → Steps p.tables e below (s₁.setTop (entryFrame m #[(.int x0), (.int x1), (.int x2), (.int x3), (.int x4)] maxLocals)) tgt := by
              intro tgt kgo
              refine pre225 _ ?_
              refine XS.ifYes X223.here hx rfl (pc0 := 207) (pc' := 216) rfl (hb hby at_207) rfl ((if0 _ _).trans (feq hc207_226).2) (by decide) (by decide) ?_
              show Steps p.tables e below (T223.setTop (mkF m 216 #[.val (.int x0), .val (.int x1), .val (.int x2), .val (.int x3), .val (.int x4), .val (.int (4 : Int32)), .val (.ref b3), .val (.ref sb33), .val (.ref rb37), .val (.int stt), .unset, .unset] [])) _
              refine XS.iconst X223.here hx rfl (hb hby at_216) ?_
              show Steps p.tables e below (T223.setTop (mkF m 217 #[.val (.int x0), .val (.int x1), .val (.int x2), .val (.int x3), .val (.int x4), .val (.int (4 : Int32)), .val (.ref b3), .val (.ref sb33), .val (.ref rb37), .val (.int stt), .unset, .unset] [(.int (0 : Int32))])) _
              refine XS.iload X223.here hx rfl (hb hby at_217) rfl ?_
              show Steps p.tables e below (T223.setTop (mkF m 219 #[.val (.int x0), .val (.int x1), .val (.int x2), .val (.int x3), .val (.int x4), .val (.int (4 : Int32)), .val (.ref b3), .val (.ref sb33), .val (.ref rb37), .val (.int stt), .unset, .unset] [(.int (4 : Int32)), (.int (0 : Int32))])) _
              refine XS.icmpNo X223.here hx rfl (hb hby at_219) rfl (tlt (by decide : (0 : Int32) < (4 : Int32))).2.1 ?_
              show Steps p.tables e below (T223.setTop (mkF m 222 #[.val (.int x0), .val (.int x1), .val (.int x2), .val (.int x3), .val (.int x4), .val (.int (4 : Int32)), .val (.ref b3), .val (.ref sb33), .val (.ref rb37), .val (.int stt), .unset, .unset] [])) _
              refine XS.aload X223.here hx rfl (hb hby at_222) rfl rfl ?_
              show Steps p.tables e below (T223.setTop (mkF m 224 #[.val (.int x0), .val (.int x1), .val (.int x2), .val (.int x3), .val (.int x4), .val (.int (4 : Int32)), .val (.ref b3), .val (.ref sb33), .val (.ref rb37), .val (.int stt), .unset, .unset] [(.ref b3)])) _
              refine XS.iconst X223.here hx rfl (hb hby at_224) ?_
              show Steps p.tables e below (T223.setTop (mkF m 225 #[.val (.int x0), .val (.int x1), .val (.int x2), .val (.int x3), .val (.int x4), .val (.int (4 : Int32)), .val (.ref b3), .val (.ref sb33), .val (.ref rb37), .val (.int stt), .unset, .unset] [(.int (0 : Int32)), (.ref b3)])) _
              refine X223.caload hx (j := (0 : Int32)) (v := (.int (nar .char (pkc x1)))) (by rw [eq223]; exact Ar228.1) (State.isArrayOf_alike hZ37.alike Ar228.2.1) Ar228.2.2 hin228 hat228 (g := (mkF m 225 #[.val (.int x0), .val (.int x1), .val (.int x2), .val (.int x3), .val (.int x4), .val (.int (4 : Int32)), .val (.ref b3), .val (.ref sb33), .val (.ref rb37), .val (.int stt), .unset, .unset] [(.int (0 : Int32)), (.ref b3)])) rfl rfl (hb hby at_225) _ ?_
              show Steps p.tables e below (T223.setTop (mkF m 226 #[.val (.int x0), .val (.int x1), .val (.int x2), .val (.int x3), .val (.int x4), .val (.int (4 : Int32)), .val (.ref b3), .val (.ref sb33), .val (.ref rb37), .val (.int stt), .unset, .unset] [(.int (nar .char (pkc x1)))])) _
              refine st229 _ ?_
              show Steps p.tables e below (T229.setTop (mkF m 229 #[.val (.int x0), .val (.int x1), .val (.int x2), .val (.int x3), .val (.int x4), .val (.int (4 : Int32)), .val (.ref b3), .val (.ref sb33), .val (.ref rb37), .val (.int stt), .unset, .unset] [(.int (bl (nar .char (pkc x1))))])) _
              exact kgo
            by_cases hc229_232 : (bl (nar .char (pkc x1))) = (0 : Int32)
            · have pre233 : ∀ tgt, Steps p.tables e below (T229.setTop (mkF m 242 #[.val (.int x0), .val (.int x1), .val (.int x2), .val (.int x3), .val (.int x4), .val (.int (4 : Int32)), .val (.ref b3), .val (.ref sb33), .val (.ref rb37), .val (.int stt), .val (.int (1 : Int32)), .unset] [])) tgt → Steps p.tables e below (s₁.setTop (entryFrame m #[(.int x0), (.int x1), (.int x2), (.int x3), (.int x4)] maxLocals)) tgt := by
                intro tgt kgo
                refine pre231 _ ?_
                refine XS.ifNo X229.here hx rfl (hb hby at_229) rfl ((if0 _ _).trans (teq hc229_232).2) ?_
                show Steps p.tables e below (T229.setTop (mkF m 232 #[.val (.int x0), .val (.int x1), .val (.int x2), .val (.int x3), .val (.int x4), .val (.int (4 : Int32)), .val (.ref b3), .val (.ref sb33), .val (.ref rb37), .val (.int stt), .unset, .unset] [])) _
                refine XS.iconst X229.here hx rfl (hb hby at_232) ?_
                show Steps p.tables e below (T229.setTop (mkF m 233 #[.val (.int x0), .val (.int x1), .val (.int x2), .val (.int x3), .val (.int x4), .val (.int (4 : Int32)), .val (.ref b3), .val (.ref sb33), .val (.ref rb37), .val (.int stt), .unset, .unset] [(.int (1 : Int32))])) _
                refine XS.istore X229.here hx rfl (hb hby at_233) rfl (l' := #[.val (.int x0), .val (.int x1), .val (.int x2), .val (.int x3), .val (.int x4), .val (.int (4 : Int32)), .val (.ref b3), .val (.ref sb33), .val (.ref rb37), .val (.int stt), .val (.int (1 : Int32)), .unset]) rfl ?_
                show Steps p.tables e below (T229.setTop (mkF m 235 #[.val (.int x0), .val (.int x1), .val (.int x2), .val (.int x3), .val (.int x4), .val (.int (4 : Int32)), .val (.ref b3), .val (.ref sb33), .val (.ref rb37), .val (.int stt), .val (.int (1 : Int32)), .unset] [])) _
                refine XS.goto X229.here hx rfl (pc0 := 235) (pc' := 242) rfl (hb hby at_235) (by decide) (by decide) ?_
                show Steps p.tables e below (T229.setTop (mkF m 242 #[.val (.int x0), .val (.int x1), .val (.int x2), .val (.int x3), .val (.int x4), .val (.int (4 : Int32)), .val (.ref b3), .val (.ref sb33), .val (.ref rb37), .val (.int stt), .val (.int (1 : Int32)), .unset] [])) _
                exact kgo
              exact ⟨T229, _, (1 : Int32), X229, eq229, N230, (by simp only [if_neg hc163_214, if_neg hc185_220, if_neg hc207_226, if_pos hc229_232]), pre233⟩
            · have pre234 : ∀ tgt, Steps p.tables e below (T229.setTop (mkF m 242 #[.val (.int x0), .val (.int x1), .val (.int x2), .val (.int x3), .val (.int x4), .val (.int (4 : Int32)), .val (.ref b3), .val (.ref sb33), .val (.ref rb37), .val (.int stt), .val (.int (4 : Int32)), .unset] [])) tgt → Steps p.tables e below (s₁.setTop (entryFrame m #[(.int x0), (.int x1), (.int x2), (.int x3), (.int x4)] maxLocals)) tgt := by
                intro tgt kgo
                refine pre231 _ ?_
                refine XS.ifYes X229.here hx rfl (pc0 := 229) (pc' := 238) rfl (hb hby at_229) rfl ((if0 _ _).trans (feq hc229_232).2) (by decide) (by decide) ?_
                show Steps p.tables e below (T229.setTop (mkF m 238 #[.val (.int x0), .val (.int x1), .val (.int x2), .val (.int x3), .val (.int x4), .val (.int (4 : Int32)), .val (.ref b3), .val (.ref sb33), .val (.ref rb37), .val (.int stt), .unset, .unset] [])) _
                refine XS.iload X229.here hx rfl (hb hby at_238) rfl ?_
                show Steps p.tables e below (T229.setTop (mkF m 240 #[.val (.int x0), .val (.int x1), .val (.int x2), .val (.int x3), .val (.int x4), .val (.int (4 : Int32)), .val (.ref b3), .val (.ref sb33), .val (.ref rb37), .val (.int stt), .unset, .unset] [(.int (4 : Int32))])) _
                refine XS.istore X229.here hx rfl (hb hby at_240) rfl (l' := #[.val (.int x0), .val (.int x1), .val (.int x2), .val (.int x3), .val (.int x4), .val (.int (4 : Int32)), .val (.ref b3), .val (.ref sb33), .val (.ref rb37), .val (.int stt), .val (.int (4 : Int32)), .unset]) rfl ?_
                show Steps p.tables e below (T229.setTop (mkF m 242 #[.val (.int x0), .val (.int x1), .val (.int x2), .val (.int x3), .val (.int x4), .val (.int (4 : Int32)), .val (.ref b3), .val (.ref sb33), .val (.ref rb37), .val (.int stt), .val (.int (4 : Int32)), .unset] [])) _
                exact kgo
              exact ⟨T229, _, (4 : Int32), X229, eq229, N230, (by simp only [if_neg hc163_214, if_neg hc185_220, if_neg hc207_226, if_neg hc229_232]), pre234⟩
    have pre235 : ∀ tgt, Steps p.tables e below (T213.setTop (mkF m 249 #[.val (.int x0), .val (.int x1), .val (.int x2), .val (.int x3), .val (.int x4), .val (.int (4 : Int32)), .val (.ref b3), .val (.ref sb33), .val (.ref rb37), .val (.int stt), .val (.int enn), .val (.int (enn - stt))] [])) tgt → Steps p.tables e below (s₁.setTop (entryFrame m #[(.int x0), (.int x1), (.int x2), (.int x3), (.int x4)] maxLocals)) tgt := by
      intro tgt kgo
      refine pre213 _ ?_
      refine XS.iload X213.here hx rfl (hb hby at_242) rfl ?_
      show Steps p.tables e below (T213.setTop (mkF m 244 #[.val (.int x0), .val (.int x1), .val (.int x2), .val (.int x3), .val (.int x4), .val (.int (4 : Int32)), .val (.ref b3), .val (.ref sb33), .val (.ref rb37), .val (.int stt), .val (.int enn), .unset] [(.int enn)])) _
      refine XS.iload X213.here hx rfl (hb hby at_244) rfl ?_
      show Steps p.tables e below (T213.setTop (mkF m 246 #[.val (.int x0), .val (.int x1), .val (.int x2), .val (.int x3), .val (.int x4), .val (.int (4 : Int32)), .val (.ref b3), .val (.ref sb33), .val (.ref rb37), .val (.int stt), .val (.int enn), .unset] [(.int stt), (.int enn)])) _
      refine XS.isub X213.here hx rfl (hb hby at_246) rfl ?_
      show Steps p.tables e below (T213.setTop (mkF m 247 #[.val (.int x0), .val (.int x1), .val (.int x2), .val (.int x3), .val (.int x4), .val (.int (4 : Int32)), .val (.ref b3), .val (.ref sb33), .val (.ref rb37), .val (.int stt), .val (.int enn), .unset] [(.int (enn - stt))])) _
      refine XS.istore X213.here hx rfl (hb hby at_247) rfl (l' := #[.val (.int x0), .val (.int x1), .val (.int x2), .val (.int x3), .val (.int x4), .val (.int (4 : Int32)), .val (.ref b3), .val (.ref sb33), .val (.ref rb37), .val (.int stt), .val (.int enn), .val (.int (enn - stt))]) rfl ?_
      show Steps p.tables e below (T213.setTop (mkF m 249 #[.val (.int x0), .val (.int x1), .val (.int x2), .val (.int x3), .val (.int x4), .val (.int (4 : Int32)), .val (.ref b3), .val (.ref sb33), .val (.ref rb37), .val (.int stt), .val (.int enn), .val (.int (enn - stt))] [])) _
      exact kgo
    obtain ⟨len, hlen⟩ : ∃ z, z = (enn - stt) := ⟨_, rfl⟩
    have pre236 : ∀ tgt, Steps p.tables e below (T213.setTop (mkF m 249 #[.val (.int x0), .val (.int x1), .val (.int x2), .val (.int x3), .val (.int x4), .val (.int (4 : Int32)), .val (.ref b3), .val (.ref sb33), .val (.ref rb37), .val (.int stt), .val (.int enn), .val (.int len)] [])) tgt → Steps p.tables e below (s₁.setTop (entryFrame m #[(.int x0), (.int x1), (.int x2), (.int x3), (.int x4)] maxLocals)) tgt := by
      rw [hlen]; exact pre235
    obtain ⟨hs1, hs2⟩ := own_fin4 hSk hstt henn
    have hlen' : len = Int32.ofNat (List.length ((List.drop i1 (mkl nv (nar .char (pkc x1)) (nar .char (pkc x2)) (nar .char (pkc x3)) (nar .char (pkc x4)))).take (j2 - i1))) := own_lenk (by rw [hq]; exact hSk) hs1 hs2 hlen (own_mkl _ _ _ _ _)
    obtain ⟨cq237, kq237, q237a, q237b, q237c⟩ := isOf hZ37 e213 sES
    obtain ⟨_, _, ⟨T237, L237, k237, n237⟩, -, X237, ⟨Lc237, hQ237, l237, y237, z237⟩, st237⟩ := X213.virtualBack hx (y := (⟨"java/lang/String", "length", "()I"⟩ : MethodName)) (z := (⟨"java/lang/String", "length", "()I"⟩ : MethodName)) hown37 (mvT hZ37 (ow59 hw)) (mvT hZ37 (ow35 hw)) (notFace_of_selects (args := #[]) (mvT hZ37 (ow37 hw))) (mvT hZ37 (ow37 hw)) (mvT hZ37 (ow36 hw)) (by decide) (StrChars.Road.lenW (W := 0) hZ37 (own_wlen hw) (kI := 4) (ow10 hw) (cs := ((List.drop i1 (mkl nv (nar .char (pkc x1)) (nar .char (pkc x2)) (nar .char (pkc x3)) (nar .char (pkc x4)))).take (j2 - i1))) sES sVS sCS sAS (StrChars.Road.codOf rfl (fun c hc => (spS c hc).2)) (own_up _ spS) (O2.ext O41.2) P5 slS (by decide) (by decide)) q237a q237c (g := (mkF m 256 #[.val (.int x0), .val (.int x1), .val (.int x2), .val (.int x3), .val (.int x4), .val (.int (4 : Int32)), .val (.ref b3), .val (.ref sb33), .val (.ref rb37), .val (.int stt), .val (.int enn), .val (.int len)] [(.ref rb37)])) rfl (by rw [hml]; rfl) (Steps.refl _) (argsL := []) (rest := []) (lenOf pd7 rfl) rfl (by show 2 * 0 + _ ≤ _; exact Nat.le_of_eq rfl) (hb hby at_256) (fun _ _ => ⟨rfl, e213, (by decide : 9 + 0 ≤ _), (by decide : 24 + 0 ≤ _)⟩)
    dsimp only [Pt.U, Pt.locs, Pt.cells, Pt.slots] at X237 l237 y237 z237 st237 hQ237
    subst l237 y237 z237
    obtain ⟨rfl, hL237, eq237⟩ := hQ237
    have Nq237 := own_frn hL237 n0
    have N238 := Fr.app N213 Nq237
    obtain ⟨_, _, ⟨T239, L239, k239, n239⟩, -, X239, ⟨Lc239, hQ239, l239, y239, z239⟩, st239⟩ := Jvm.LawKit.callS X237 hx (y := (⟨"com/example/redress/redress/definition/StatementStripBlanksPinLaw", "at", "(Ljava/lang/String;I[CII)Z"⟩ : MethodName)) hown37 (mvT hZ37 (ow60 hw)) (mvT hZ37 (ow61 hw)) (mvT hZ37 (ow4 hw)) (mvT hZ37 (ow62 hw)) (by decide) (backOf (W := 0) (rmat l Z a0 hw [] rb37 (0 : Int32) b3 stt len ((List.drop i1 (mkl nv (nar .char (pkc x1)) (nar .char (pkc x2)) (nar .char (pkc x3)) (nar .char (pkc x4)))).take (j2 - i1)) k3 (nar .char (pkc x1)) (nar .char (pkc x2)) (nar .char (pkc x3)) (nar .char (pkc x4)) 0 i1 G1 fm T37.heap n0 O41 O2 P5 O4 rf ⟨sES, sCS, spS, slS, tS, skS, sVS, sAS⟩ (own_rs _ _ (own_mkl _ _ _ _ _)) f183 rfl (by decide) hlen' hs1 (own_atp (by rw [hq]; exact hSk) 0)) hZ37 (ow62 hw) (ow4 hw) (by decide) (by decide)) (g := (mkF m 273 #[.val (.int x0), .val (.int x1), .val (.int x2), .val (.int x3), .val (.int x4), .val (.int (4 : Int32)), .val (.ref b3), .val (.ref sb33), .val (.ref rb37), .val (.int stt), .val (.int enn), .val (.int len)] [(.int len), (.int stt), (.ref b3), (.int (0 : Int32)), (.ref rb37)])) rfl (by rw [hml]; rfl) (argsL := [(.ref rb37), (.int (0 : Int32)), (.ref b3), (.int stt), (.int len)]) (rest := []) (lenOf pd16 rfl) rfl (by show 2 * 0 + _ ≤ _; exact Nat.le_of_eq rfl) (hb hby at_273) (fun _ _ => ⟨rfl, eq237, (by decide : 9 + 0 ≤ _), (by decide : 24 + 0 ≤ _)⟩)
    dsimp only [Pt.U, Pt.locs, Pt.cells, Pt.slots] at X239 l239 y239 z239 st239 hQ239
    subst l239 y239 z239
    obtain ⟨rfl, Nq239, eq239⟩ := hQ239
    have N240 := Fr.app N238 Nq239
    obtain ⟨_, _, ⟨T241, L241, k241, n241⟩, -, X241, ⟨Lc241, hQ241, l241, y241, z241⟩, st241⟩ := Jvm.LawKit.callS X239 hx (y := (⟨"com/example/redress/redress/definition/StatementStripBlanksPinLaw", "at", "(Ljava/lang/String;I[CII)Z"⟩ : MethodName)) hown37 (mvT hZ37 (ow60 hw)) (mvT hZ37 (ow61 hw)) (mvT hZ37 (ow4 hw)) (mvT hZ37 (ow62 hw)) (by decide) (backOf (W := 0) (rmat l Z a0 hw [] rb37 (1 : Int32) b3 stt len ((List.drop i1 (mkl nv (nar .char (pkc x1)) (nar .char (pkc x2)) (nar .char (pkc x3)) (nar .char (pkc x4)))).take (j2 - i1)) k3 (nar .char (pkc x1)) (nar .char (pkc x2)) (nar .char (pkc x3)) (nar .char (pkc x4)) 1 i1 G1 fm T37.heap n0 O41 O2 P5 O4 rf ⟨sES, sCS, spS, slS, tS, skS, sVS, sAS⟩ (own_rs _ _ (own_mkl _ _ _ _ _)) f183 rfl (by decide) hlen' hs1 (own_atp (by rw [hq]; exact hSk) 1)) hZ37 (ow62 hw) (ow4 hw) (by decide) (by decide)) (g := (mkF m 288 #[.val (.int x0), .val (.int x1), .val (.int x2), .val (.int x3), .val (.int x4), .val (.int (4 : Int32)), .val (.ref b3), .val (.ref sb33), .val (.ref rb37), .val (.int stt), .val (.int enn), .val (.int len)] [(.int len), (.int stt), (.ref b3), (.int (1 : Int32)), (.ref rb37)])) rfl (by rw [hml]; rfl) (argsL := [(.ref rb37), (.int (1 : Int32)), (.ref b3), (.int stt), (.int len)]) (rest := []) (lenOf pd16 rfl) rfl (by show 2 * 0 + _ ≤ _; exact Nat.le_of_eq rfl) (hb hby at_288) (fun _ _ => ⟨rfl, eq239, (by decide : 9 + 0 ≤ _), (by decide : 24 + 0 ≤ _)⟩)
    dsimp only [Pt.U, Pt.locs, Pt.cells, Pt.slots] at X241 l241 y241 z241 st241 hQ241
    subst l241 y241 z241
    obtain ⟨rfl, Nq241, eq241⟩ := hQ241
    have N242 := Fr.app N240 Nq241
    obtain ⟨_, _, ⟨T243, L243, k243, n243⟩, -, X243, ⟨Lc243, hQ243, l243, y243, z243⟩, st243⟩ := Jvm.LawKit.callS X241 hx (y := (⟨"com/example/redress/redress/definition/StatementStripBlanksPinLaw", "at", "(Ljava/lang/String;I[CII)Z"⟩ : MethodName)) hown37 (mvT hZ37 (ow60 hw)) (mvT hZ37 (ow61 hw)) (mvT hZ37 (ow4 hw)) (mvT hZ37 (ow62 hw)) (by decide) (backOf (W := 0) (rmat l Z a0 hw [] rb37 (2 : Int32) b3 stt len ((List.drop i1 (mkl nv (nar .char (pkc x1)) (nar .char (pkc x2)) (nar .char (pkc x3)) (nar .char (pkc x4)))).take (j2 - i1)) k3 (nar .char (pkc x1)) (nar .char (pkc x2)) (nar .char (pkc x3)) (nar .char (pkc x4)) 2 i1 G1 fm T37.heap n0 O41 O2 P5 O4 rf ⟨sES, sCS, spS, slS, tS, skS, sVS, sAS⟩ (own_rs _ _ (own_mkl _ _ _ _ _)) f183 rfl (by decide) hlen' hs1 (own_atp (by rw [hq]; exact hSk) 2)) hZ37 (ow62 hw) (ow4 hw) (by decide) (by decide)) (g := (mkF m 303 #[.val (.int x0), .val (.int x1), .val (.int x2), .val (.int x3), .val (.int x4), .val (.int (4 : Int32)), .val (.ref b3), .val (.ref sb33), .val (.ref rb37), .val (.int stt), .val (.int enn), .val (.int len)] [(.int len), (.int stt), (.ref b3), (.int (2 : Int32)), (.ref rb37)])) rfl (by rw [hml]; rfl) (argsL := [(.ref rb37), (.int (2 : Int32)), (.ref b3), (.int stt), (.int len)]) (rest := []) (lenOf pd16 rfl) rfl (by show 2 * 0 + _ ≤ _; exact Nat.le_of_eq rfl) (hb hby at_303) (fun _ _ => ⟨rfl, eq241, (by decide : 9 + 0 ≤ _), (by decide : 24 + 0 ≤ _)⟩)
    dsimp only [Pt.U, Pt.locs, Pt.cells, Pt.slots] at X243 l243 y243 z243 st243 hQ243
    subst l243 y243 z243
    obtain ⟨rfl, Nq243, eq243⟩ := hQ243
    have N244 := Fr.app N242 Nq243
    obtain ⟨_, _, ⟨T245, L245, k245, n245⟩, -, X245, ⟨Lc245, hQ245, l245, y245, z245⟩, st245⟩ := Jvm.LawKit.callS X243 hx (y := (⟨"com/example/redress/redress/definition/StatementStripBlanksPinLaw", "at", "(Ljava/lang/String;I[CII)Z"⟩ : MethodName)) hown37 (mvT hZ37 (ow60 hw)) (mvT hZ37 (ow61 hw)) (mvT hZ37 (ow4 hw)) (mvT hZ37 (ow62 hw)) (by decide) (backOf (W := 0) (rmat l Z a0 hw [] rb37 (3 : Int32) b3 stt len ((List.drop i1 (mkl nv (nar .char (pkc x1)) (nar .char (pkc x2)) (nar .char (pkc x3)) (nar .char (pkc x4)))).take (j2 - i1)) k3 (nar .char (pkc x1)) (nar .char (pkc x2)) (nar .char (pkc x3)) (nar .char (pkc x4)) 3 i1 G1 fm T37.heap n0 O41 O2 P5 O4 rf ⟨sES, sCS, spS, slS, tS, skS, sVS, sAS⟩ (own_rs _ _ (own_mkl _ _ _ _ _)) f183 rfl (by decide) hlen' hs1 (own_atp (by rw [hq]; exact hSk) 3)) hZ37 (ow62 hw) (ow4 hw) (by decide) (by decide)) (g := (mkF m 318 #[.val (.int x0), .val (.int x1), .val (.int x2), .val (.int x3), .val (.int x4), .val (.int (4 : Int32)), .val (.ref b3), .val (.ref sb33), .val (.ref rb37), .val (.int stt), .val (.int enn), .val (.int len)] [(.int len), (.int stt), (.ref b3), (.int (3 : Int32)), (.ref rb37)])) rfl (by rw [hml]; rfl) (argsL := [(.ref rb37), (.int (3 : Int32)), (.ref b3), (.int stt), (.int len)]) (rest := []) (lenOf pd16 rfl) rfl (by show 2 * 0 + _ ≤ _; exact Nat.le_of_eq rfl) (hb hby at_318) (fun _ _ => ⟨rfl, eq243, (by decide : 9 + 0 ≤ _), (by decide : 24 + 0 ≤ _)⟩)
    dsimp only [Pt.U, Pt.locs, Pt.cells, Pt.slots] at X245 l245 y245 z245 st245 hQ245
    subst l245 y245 z245
    obtain ⟨rfl, Nq245, eq245⟩ := hQ245
    have N246 := Fr.app N244 Nq245
    obtain ⟨fs, hretL, hrun, hended, hEnd⟩ := Stand.leaveW X245 hS37 (by rw [eq245]; exact hk37) (v := some (.int (1 : Int32))) (fun h => by rw [Bd.returns] at h; cases h)
    have hCf : CHr Z EL0 s.vm s.heap T245.vm T245.heap := by rw [hh, eq245]; exact CH40.trans (CHv.at X245 hZ37 (own_EW hw) CH40.1)
    refine ⟨_, _, pre236 _ ?_, hrun, hended, _, _, rfl, ?_, hCf, hEnd.1, hEnd.2.1, hEnd.2.2.1, hEnd.2.2.2.mono (by decide) (by decide)⟩
    · refine XS.aload X213.here hx rfl (hb hby at_249) rfl rfl ?_
      show Steps p.tables e below (T213.setTop (mkF m 251 #[.val (.int x0), .val (.int x1), .val (.int x2), .val (.int x3), .val (.int x4), .val (.int (4 : Int32)), .val (.ref b3), .val (.ref sb33), .val (.ref rb37), .val (.int stt), .val (.int enn), .val (.int len)] [(.ref rb37)])) _
      refine XS.ifnullNo X213.here hx rfl (hb hby at_251) rfl ?_
      show Steps p.tables e below (T213.setTop (mkF m 254 #[.val (.int x0), .val (.int x1), .val (.int x2), .val (.int x3), .val (.int x4), .val (.int (4 : Int32)), .val (.ref b3), .val (.ref sb33), .val (.ref rb37), .val (.int stt), .val (.int enn), .val (.int len)] [])) _
      refine XS.aload X213.here hx rfl (hb hby at_254) rfl rfl ?_
      show Steps p.tables e below (T213.setTop (mkF m 256 #[.val (.int x0), .val (.int x1), .val (.int x2), .val (.int x3), .val (.int x4), .val (.int (4 : Int32)), .val (.ref b3), .val (.ref sb33), .val (.ref rb37), .val (.int stt), .val (.int enn), .val (.int len)] [(.ref rb37)])) _
      refine st237.trans ?_
      show Steps p.tables e below (T237.setTop (mkF m 259 #[.val (.int x0), .val (.int x1), .val (.int x2), .val (.int x3), .val (.int x4), .val (.int (4 : Int32)), .val (.ref b3), .val (.ref sb33), .val (.ref rb37), .val (.int stt), .val (.int enn), .val (.int len)] [(.int (Int32.ofNat (List.length ((List.drop i1 (mkl nv (nar .char (pkc x1)) (nar .char (pkc x2)) (nar .char (pkc x3)) (nar .char (pkc x4)))).take (j2 - i1)))))])) _
      refine XS.iload X237.here hx rfl (hb hby at_259) rfl ?_
      show Steps p.tables e below (T237.setTop (mkF m 261 #[.val (.int x0), .val (.int x1), .val (.int x2), .val (.int x3), .val (.int x4), .val (.int (4 : Int32)), .val (.ref b3), .val (.ref sb33), .val (.ref rb37), .val (.int stt), .val (.int enn), .val (.int len)] [(.int len), (.int (Int32.ofNat (List.length ((List.drop i1 (mkl nv (nar .char (pkc x1)) (nar .char (pkc x2)) (nar .char (pkc x3)) (nar .char (pkc x4)))).take (j2 - i1)))))])) _
      refine XS.icmpNo X237.here hx rfl (hb hby at_261) rfl (teq hlen'.symm).2 ?_
      show Steps p.tables e below (T237.setTop (mkF m 264 #[.val (.int x0), .val (.int x1), .val (.int x2), .val (.int x3), .val (.int x4), .val (.int (4 : Int32)), .val (.ref b3), .val (.ref sb33), .val (.ref rb37), .val (.int stt), .val (.int enn), .val (.int len)] [])) _
      refine XS.aload X237.here hx rfl (hb hby at_264) rfl rfl ?_
      show Steps p.tables e below (T237.setTop (mkF m 266 #[.val (.int x0), .val (.int x1), .val (.int x2), .val (.int x3), .val (.int x4), .val (.int (4 : Int32)), .val (.ref b3), .val (.ref sb33), .val (.ref rb37), .val (.int stt), .val (.int enn), .val (.int len)] [(.ref rb37)])) _
      refine XS.iconst X237.here hx rfl (hb hby at_266) ?_
      show Steps p.tables e below (T237.setTop (mkF m 267 #[.val (.int x0), .val (.int x1), .val (.int x2), .val (.int x3), .val (.int x4), .val (.int (4 : Int32)), .val (.ref b3), .val (.ref sb33), .val (.ref rb37), .val (.int stt), .val (.int enn), .val (.int len)] [(.int (0 : Int32)), (.ref rb37)])) _
      refine XS.aload X237.here hx rfl (hb hby at_267) rfl rfl ?_
      show Steps p.tables e below (T237.setTop (mkF m 269 #[.val (.int x0), .val (.int x1), .val (.int x2), .val (.int x3), .val (.int x4), .val (.int (4 : Int32)), .val (.ref b3), .val (.ref sb33), .val (.ref rb37), .val (.int stt), .val (.int enn), .val (.int len)] [(.ref b3), (.int (0 : Int32)), (.ref rb37)])) _
      refine XS.iload X237.here hx rfl (hb hby at_269) rfl ?_
      show Steps p.tables e below (T237.setTop (mkF m 271 #[.val (.int x0), .val (.int x1), .val (.int x2), .val (.int x3), .val (.int x4), .val (.int (4 : Int32)), .val (.ref b3), .val (.ref sb33), .val (.ref rb37), .val (.int stt), .val (.int enn), .val (.int len)] [(.int stt), (.ref b3), (.int (0 : Int32)), (.ref rb37)])) _
      refine XS.iload X237.here hx rfl (hb hby at_271) rfl ?_
      show Steps p.tables e below (T237.setTop (mkF m 273 #[.val (.int x0), .val (.int x1), .val (.int x2), .val (.int x3), .val (.int x4), .val (.int (4 : Int32)), .val (.ref b3), .val (.ref sb33), .val (.ref rb37), .val (.int stt), .val (.int enn), .val (.int len)] [(.int len), (.int stt), (.ref b3), (.int (0 : Int32)), (.ref rb37)])) _
      refine st239 _ ?_
      show Steps p.tables e below (T239.setTop (mkF m 276 #[.val (.int x0), .val (.int x1), .val (.int x2), .val (.int x3), .val (.int x4), .val (.int (4 : Int32)), .val (.ref b3), .val (.ref sb33), .val (.ref rb37), .val (.int stt), .val (.int enn), .val (.int len)] [(.int (1 : Int32))])) _
      refine XS.ifNo X239.here hx rfl (hb hby at_276) rfl ((if0 _ _).trans (feq (by decide : ¬ ((1 : Int32) = (0 : Int32)))).1) ?_
      show Steps p.tables e below (T239.setTop (mkF m 279 #[.val (.int x0), .val (.int x1), .val (.int x2), .val (.int x3), .val (.int x4), .val (.int (4 : Int32)), .val (.ref b3), .val (.ref sb33), .val (.ref rb37), .val (.int stt), .val (.int enn), .val (.int len)] [])) _
      refine XS.aload X239.here hx rfl (hb hby at_279) rfl rfl ?_
      show Steps p.tables e below (T239.setTop (mkF m 281 #[.val (.int x0), .val (.int x1), .val (.int x2), .val (.int x3), .val (.int x4), .val (.int (4 : Int32)), .val (.ref b3), .val (.ref sb33), .val (.ref rb37), .val (.int stt), .val (.int enn), .val (.int len)] [(.ref rb37)])) _
      refine XS.iconst X239.here hx rfl (hb hby at_281) ?_
      show Steps p.tables e below (T239.setTop (mkF m 282 #[.val (.int x0), .val (.int x1), .val (.int x2), .val (.int x3), .val (.int x4), .val (.int (4 : Int32)), .val (.ref b3), .val (.ref sb33), .val (.ref rb37), .val (.int stt), .val (.int enn), .val (.int len)] [(.int (1 : Int32)), (.ref rb37)])) _
      refine XS.aload X239.here hx rfl (hb hby at_282) rfl rfl ?_
      show Steps p.tables e below (T239.setTop (mkF m 284 #[.val (.int x0), .val (.int x1), .val (.int x2), .val (.int x3), .val (.int x4), .val (.int (4 : Int32)), .val (.ref b3), .val (.ref sb33), .val (.ref rb37), .val (.int stt), .val (.int enn), .val (.int len)] [(.ref b3), (.int (1 : Int32)), (.ref rb37)])) _
      refine XS.iload X239.here hx rfl (hb hby at_284) rfl ?_
      show Steps p.tables e below (T239.setTop (mkF m 286 #[.val (.int x0), .val (.int x1), .val (.int x2), .val (.int x3), .val (.int x4), .val (.int (4 : Int32)), .val (.ref b3), .val (.ref sb33), .val (.ref rb37), .val (.int stt), .val (.int enn), .val (.int len)] [(.int stt), (.ref b3), (.int (1 : Int32)), (.ref rb37)])) _
      refine XS.iload X239.here hx rfl (hb hby at_286) rfl ?_
      show Steps p.tables e below (T239.setTop (mkF m 288 #[.val (.int x0), .val (.int x1), .val (.int x2), .val (.int x3), .val (.int x4), .val (.int (4 : Int32)), .val (.ref b3), .val (.ref sb33), .val (.ref rb37), .val (.int stt), .val (.int enn), .val (.int len)] [(.int len), (.int stt), (.ref b3), (.int (1 : Int32)), (.ref rb37)])) _
      refine st241 _ ?_
      show Steps p.tables e below (T241.setTop (mkF m 291 #[.val (.int x0), .val (.int x1), .val (.int x2), .val (.int x3), .val (.int x4), .val (.int (4 : Int32)), .val (.ref b3), .val (.ref sb33), .val (.ref rb37), .val (.int stt), .val (.int enn), .val (.int len)] [(.int (1 : Int32))])) _
      refine XS.ifNo X241.here hx rfl (hb hby at_291) rfl ((if0 _ _).trans (feq (by decide : ¬ ((1 : Int32) = (0 : Int32)))).1) ?_
      show Steps p.tables e below (T241.setTop (mkF m 294 #[.val (.int x0), .val (.int x1), .val (.int x2), .val (.int x3), .val (.int x4), .val (.int (4 : Int32)), .val (.ref b3), .val (.ref sb33), .val (.ref rb37), .val (.int stt), .val (.int enn), .val (.int len)] [])) _
      refine XS.aload X241.here hx rfl (hb hby at_294) rfl rfl ?_
      show Steps p.tables e below (T241.setTop (mkF m 296 #[.val (.int x0), .val (.int x1), .val (.int x2), .val (.int x3), .val (.int x4), .val (.int (4 : Int32)), .val (.ref b3), .val (.ref sb33), .val (.ref rb37), .val (.int stt), .val (.int enn), .val (.int len)] [(.ref rb37)])) _
      refine XS.iconst X241.here hx rfl (hb hby at_296) ?_
      show Steps p.tables e below (T241.setTop (mkF m 297 #[.val (.int x0), .val (.int x1), .val (.int x2), .val (.int x3), .val (.int x4), .val (.int (4 : Int32)), .val (.ref b3), .val (.ref sb33), .val (.ref rb37), .val (.int stt), .val (.int enn), .val (.int len)] [(.int (2 : Int32)), (.ref rb37)])) _
      refine XS.aload X241.here hx rfl (hb hby at_297) rfl rfl ?_
      show Steps p.tables e below (T241.setTop (mkF m 299 #[.val (.int x0), .val (.int x1), .val (.int x2), .val (.int x3), .val (.int x4), .val (.int (4 : Int32)), .val (.ref b3), .val (.ref sb33), .val (.ref rb37), .val (.int stt), .val (.int enn), .val (.int len)] [(.ref b3), (.int (2 : Int32)), (.ref rb37)])) _
      refine XS.iload X241.here hx rfl (hb hby at_299) rfl ?_
      show Steps p.tables e below (T241.setTop (mkF m 301 #[.val (.int x0), .val (.int x1), .val (.int x2), .val (.int x3), .val (.int x4), .val (.int (4 : Int32)), .val (.ref b3), .val (.ref sb33), .val (.ref rb37), .val (.int stt), .val (.int enn), .val (.int len)] [(.int stt), (.ref b3), (.int (2 : Int32)), (.ref rb37)])) _
      refine XS.iload X241.here hx rfl (hb hby at_301) rfl ?_
      show Steps p.tables e below (T241.setTop (mkF m 303 #[.val (.int x0), .val (.int x1), .val (.int x2), .val (.int x3), .val (.int x4), .val (.int (4 : Int32)), .val (.ref b3), .val (.ref sb33), .val (.ref rb37), .val (.int stt), .val (.int enn), .val (.int len)] [(.int len), (.int stt), (.ref b3), (.int (2 : Int32)), (.ref rb37)])) _
      refine st243 _ ?_
      show Steps p.tables e below (T243.setTop (mkF m 306 #[.val (.int x0), .val (.int x1), .val (.int x2), .val (.int x3), .val (.int x4), .val (.int (4 : Int32)), .val (.ref b3), .val (.ref sb33), .val (.ref rb37), .val (.int stt), .val (.int enn), .val (.int len)] [(.int (1 : Int32))])) _
      refine XS.ifNo X243.here hx rfl (hb hby at_306) rfl ((if0 _ _).trans (feq (by decide : ¬ ((1 : Int32) = (0 : Int32)))).1) ?_
      show Steps p.tables e below (T243.setTop (mkF m 309 #[.val (.int x0), .val (.int x1), .val (.int x2), .val (.int x3), .val (.int x4), .val (.int (4 : Int32)), .val (.ref b3), .val (.ref sb33), .val (.ref rb37), .val (.int stt), .val (.int enn), .val (.int len)] [])) _
      refine XS.aload X243.here hx rfl (hb hby at_309) rfl rfl ?_
      show Steps p.tables e below (T243.setTop (mkF m 311 #[.val (.int x0), .val (.int x1), .val (.int x2), .val (.int x3), .val (.int x4), .val (.int (4 : Int32)), .val (.ref b3), .val (.ref sb33), .val (.ref rb37), .val (.int stt), .val (.int enn), .val (.int len)] [(.ref rb37)])) _
      refine XS.iconst X243.here hx rfl (hb hby at_311) ?_
      show Steps p.tables e below (T243.setTop (mkF m 312 #[.val (.int x0), .val (.int x1), .val (.int x2), .val (.int x3), .val (.int x4), .val (.int (4 : Int32)), .val (.ref b3), .val (.ref sb33), .val (.ref rb37), .val (.int stt), .val (.int enn), .val (.int len)] [(.int (3 : Int32)), (.ref rb37)])) _
      refine XS.aload X243.here hx rfl (hb hby at_312) rfl rfl ?_
      show Steps p.tables e below (T243.setTop (mkF m 314 #[.val (.int x0), .val (.int x1), .val (.int x2), .val (.int x3), .val (.int x4), .val (.int (4 : Int32)), .val (.ref b3), .val (.ref sb33), .val (.ref rb37), .val (.int stt), .val (.int enn), .val (.int len)] [(.ref b3), (.int (3 : Int32)), (.ref rb37)])) _
      refine XS.iload X243.here hx rfl (hb hby at_314) rfl ?_
      show Steps p.tables e below (T243.setTop (mkF m 316 #[.val (.int x0), .val (.int x1), .val (.int x2), .val (.int x3), .val (.int x4), .val (.int (4 : Int32)), .val (.ref b3), .val (.ref sb33), .val (.ref rb37), .val (.int stt), .val (.int enn), .val (.int len)] [(.int stt), (.ref b3), (.int (3 : Int32)), (.ref rb37)])) _
      refine XS.iload X243.here hx rfl (hb hby at_316) rfl ?_
      show Steps p.tables e below (T243.setTop (mkF m 318 #[.val (.int x0), .val (.int x1), .val (.int x2), .val (.int x3), .val (.int x4), .val (.int (4 : Int32)), .val (.ref b3), .val (.ref sb33), .val (.ref rb37), .val (.int stt), .val (.int enn), .val (.int len)] [(.int len), (.int stt), (.ref b3), (.int (3 : Int32)), (.ref rb37)])) _
      refine st245 _ ?_
      show Steps p.tables e below (T245.setTop (mkF m 321 #[.val (.int x0), .val (.int x1), .val (.int x2), .val (.int x3), .val (.int x4), .val (.int (4 : Int32)), .val (.ref b3), .val (.ref sb33), .val (.ref rb37), .val (.int stt), .val (.int enn), .val (.int len)] [(.int (1 : Int32))])) _
      refine XS.ifNo X245.here hx rfl (hb hby at_321) rfl ((if0 _ _).trans (feq (by decide : ¬ ((1 : Int32) = (0 : Int32)))).1) ?_
      show Steps p.tables e below (T245.setTop (mkF m 324 #[.val (.int x0), .val (.int x1), .val (.int x2), .val (.int x3), .val (.int x4), .val (.int (4 : Int32)), .val (.ref b3), .val (.ref sb33), .val (.ref rb37), .val (.int stt), .val (.int enn), .val (.int len)] [])) _
      refine XS.iconst X245.here hx rfl (hb hby at_324) ?_
      show Steps p.tables e below (T245.setTop (mkF m 325 #[.val (.int x0), .val (.int x1), .val (.int x2), .val (.int x3), .val (.int x4), .val (.int (4 : Int32)), .val (.ref b3), .val (.ref sb33), .val (.ref rb37), .val (.int stt), .val (.int enn), .val (.int len)] [(.int (1 : Int32))])) _
      refine XS.goto X245.here hx rfl (pc0 := 325) (pc' := 329) rfl (hb hby at_325) (by decide) (by decide) ?_
      show Steps p.tables e below (T245.setTop (mkF m 329 #[.val (.int x0), .val (.int x1), .val (.int x2), .val (.int x3), .val (.int x4), .val (.int (4 : Int32)), .val (.ref b3), .val (.ref sb33), .val (.ref rb37), .val (.int stt), .val (.int enn), .val (.int len)] [(.int (1 : Int32))])) _
      exact retOut X245 hx Bd.returns rfl (Or.inl ⟨rfl, Or.inr (Or.inl rfl), _, rfl⟩) (hb hby at_329) hretL
    · show Q_rm0 Z x0 x1 x2 x3 x4 G1 fm h0 n0 _ T245.heap _
      rw [eq245]
      exact ⟨rfl, N246⟩
set_option maxRecDepth 65536 in
set_option maxHeartbeats 40000000 in
theorem comes_1 {Post : Tables → Env → Array Value → State → Outcome → State → Prop} (hpost : ∀ tb e args s v u, (limb_1_1.after args s (.returned v) u = true ∧ limb_1_2.after args s (.returned v) u = true ∧ True) → ReturnedEndW s (.returned v) u (Jvm.fieldLocs frame_1_writes args s ++ Jvm.arrayLocs frame_1_arrays args s ++ Jvm.staticLocs frame_1_statics s) 24 2176 → Post tb e args s (.returned v) u) :
    ArmFor flags0 classFile x code maxLocals ret World_1 tables_1 room_1 Calls_1 rest_1 Pre_1 Post := by
  intro l hfl _ _ p e ha hc hk s m args below hf hA hF happ hP
  obtain ⟨hcalls, hrest, hpre⟩ := hP
  obtain ⟨-, -, -, hnamed, -, -, -, hat⟩ := (Spec.applies_iff hf).mp happ
  obtain ⟨hg, hn⟩ := and_e (Cond.before_iff.mp (show (Jvm.Cond.and given_1 narrow_1).before args s = true from hpre))
  obtain ⟨u1, v1⟩ := and_e hg
  obtain ⟨u2, v2⟩ := and_e v1
  obtain ⟨u3, v3⟩ := and_e v2
  obtain ⟨u4, v4⟩ := and_e v3
  obtain ⟨u5, v5⟩ := and_e v4
  obtain ⟨w0, w1, w2, w3, w4, rfl⟩ : ∃ w0 w1 w2 w3 w4 : Value, args = #[w0, w1, w2, w3, w4] := by
    have hs : args.size = 5 := by simpa [Cond.value, given_1] using u1
    obtain ⟨L⟩ := args
    match L, hs with
    | [w0, w1, w2, w3, w4], _ => exact ⟨w0, w1, w2, w3, w4, rfl⟩
  have hw := fun d (hd : d ∈ tables_1) => atoms_spec (ws := Jvm.Cond.code x code maxLocals ret :: tables_1) hat d (List.mem_cons_of_mem _ hd)
  have hfit : Fit s := fun {y c} hc i hi => by
    obtain ⟨ha, rfl⟩ := Array.getElem?_eq_some_iff.mp hc
    have q := List.all_eq_true.mp ((Array.all_eq_true_iff_forall_mem.mp hF) _ (Array.getElem_mem ha)) i (List.mem_range.mpr hi)
    simpa [Array.getElem?_eq_getElem hi] using q
  obtain ⟨i0, ei0⟩ := is_v u2
  obtain rfl : w0 = (.int i0) := Option.some.inj ei0
  obtain ⟨i1, ei1⟩ := is_v u3
  obtain rfl : w1 = (.int i1) := Option.some.inj ei1
  obtain ⟨i2, ei2⟩ := is_v u4
  obtain rfl : w2 = (.int i2) := Option.some.inj ei2
  obtain ⟨i3, ei3⟩ := is_v u5
  obtain rfl : w3 = (.int i3) := Option.some.inj ei3
  obtain ⟨i4, ei4⟩ := is_v v5
  obtain rfl : w4 = (.int i4) := Option.some.inj ei4
  obtain ⟨hsets, hown0⟩ := atoms_of _ (rest_1_c_eq ▸ (show rest_1_c.before _ s = true from hrest))
  have hci := hsets _ (List.mem_of_getElem? (i := 0) rfl)
  obtain ⟨G1, evG⟩ := is_v (Cond.before_iff.mp (hsets _ (List.mem_of_getElem? (i := 1) rfl)))
  have O2 := Sta.start evG (Or.inl hci)
  have P5 : ¬ (G1 = (0 : Int32)) := fun q => by
    have hq := not_v (Cond.before_iff.mp (hsets _ (List.mem_of_getElem? (i := 2) rfl)))
    subst q
    rw [Cond.value, evG, Term.int_eval] at hq
    simp at hq
  have hcj := hsets _ (List.mem_of_getElem? (i := 7) rfl)
  obtain ⟨fm, evF, rf⟩ := isR_v (Cond.before_iff.mp (hsets _ (List.mem_of_getElem? (i := 8) rfl)))
  have O4 := Sta.start evF (Or.inl hcj)
  have hCH : CHv s EL0 s.vm s.heap := CHv.start (own_EW hw) hcalls.1 (own_cw hsets) (ow23 hw) (ow10 hw)
  obtain ⟨n, o, h1, h2, h3, _, L, rfl, ⟨rfl, N⟩, -, hq⟩ := rm0 l s _ hw tables_1 i0 i1 i2 i3 i4 G1 fm s.heap s.heap.size (Old.start s) O2 P5 O4 rf p e ha hc hk s m _ below hf ((Spec.applies_iff_loose hf).mp happ).1 ⟨rfl, State.Warmed39.refl s, rfl, hCH⟩ trivial
  refine ⟨n, _, h1, h2, h3, hpost _ _ _ _ _ _ ⟨Cond.after_iff.mpr rfl, Cond.after_iff.mpr (eq_i res_at (Term.int_eval (1)) rfl), trivial⟩ ⟨hq.1, hq.2.1, hq.2.2.1, (hq.2.2.2.sift fun y hy => Or.inr (N y hy)).mono (by decide) (by decide)⟩⟩
theorem main_1_1 : Claimed_1_1 := comes_1 fun _ _ _ _ _ _ h hF => ⟨h.1, hF⟩
theorem main_1_2 : Claimed_1_2 := comes_1 fun _ _ _ _ _ _ h hF => ⟨h.2.1, hF⟩
end Jvm.Pilot.@@N@@
namespace Jvm.Pilot.@@N@@
open Jvm Jvm.ClassFile Sem Op Lib Jvm.Free Jvm.Stand Jvm.Pilot.@@N@@.Jvm.D
/-! MADE BY PROGRAM (witnessworld.py) out of the Statement's table words and the real class files: 23 classes; the members and pool entries that the words name. The judged class is class 1, her method 1. -/
namespace start1
open Jvm.ClassFile
def u (s : String) : CpInfo := .utf8 (stringToUtf16 s)
/-- a pool by its gaps: so many unusable entries, then the entry; so many at the end -/
def gap : Nat → List CpInfo → List CpInfo
  | 0, r => r
  | n + 1, r => .unusable :: gap n r
def poolList (es : List (Nat × CpInfo)) (last : Nat) : List CpInfo := es.foldr (fun e r => gap e.1 (e.2 :: r)) (gap last [])
def pool (es : List (Nat × CpInfo)) (last : Nat) : Array CpInfo := ⟨poolList es last⟩
def fileOf (pool : Array CpInfo) (this : Nat) (attrs : Array Attribute := #[]) (ms : Array MethodInfo := #[]) (fl : Nat := 33) (sup : Nat := 0) (ifs : Array Nat := #[]) (fds : Array FieldInfo := #[]) : ClassFile where
  minorVersion := 0
  majorVersion := 65
  constantPool := pool
  accessFlags := fl
  thisClass := this
  superClass := sup
  interfaces := ifs
  fields := fds
  methods := ms
  attributes := attrs
def plain (name : String) (sup : Option ClassId) : Class where
  name := name
  kind := .ordinary
  loader := none
  accessFlags := 33
  super := sup
  interfaces := #[]
  cf := none
  fields := #[]
  methods := #[]
  instanceTypes := #[]
  staticTypes := #[]
  resolved := #[]
  callSites := []
  init := .initialized
  statics := none
  mirror := none

def pool0 : Array CpInfo := pool [(5, u "<init>"), (0, u "()V"), (1, .class_ 10), (1, u "java/lang/Object")] 113

def k0c0 : Code := { maxStack := 0, maxLocals := 1, code := object_method_1_code, exceptionTable := #[], attributes := #[] }
def k0m0 : Method := { name := "<init>", desc := "()V", sig := { parameters := [], returnType := none }, accessFlags := 1, code := some k0c0 }
/-- java/lang/Object -/
def k0 : Class := { plain "java/lang/Object" none with
  accessFlags := 33
  interfaces := #[]
  cf := some (fileOf pool0 8 #[] #[{ accessFlags := 1, nameIndex := 5, descriptorIndex := 6, attributes := #[] }] 33 0 #[] #[])
  fields := #[]
  methods := #[k0m0]
  instanceTypes := #[]
  staticTypes := #[]
  resolved := Array.replicate 124 none
  statics := none }

def pool1 : Array CpInfo := pool [(2, .class_ 4), (1, u "java/lang/Object"), (0, u "<init>"), (0, u "()V"), (0, .integer 2147483647), (0, .methodref 9 10), (0, .class_ 11), (0, .nameAndType 12 13), (0, u "com/example/redress/redress/definition/StatementStripBlanksPinLaw"), (0, u "pick"), (0, u "(I)C"), (0, .methodref 9 15), (0, .nameAndType 16 17), (0, u "make"), (0, u "(I[C)Ljava/lang/String;"), (0, .methodref 19 20), (0, .class_ 21), (0, .nameAndType 22 23), (0, u "com/example/redress/redress/definition/Statement"), (0, u "stripBlanks"), (0, u "(Ljava/lang/String;)Ljava/lang/String;"), (0, .methodref 9 25), (0, .nameAndType 26 27), (0, u "blank"), (0, u "(C)Z"), (0, .methodref 29 30), (0, .class_ 31), (0, .nameAndType 32 33), (0, u "java/lang/String"), (0, u "length"), (0, u "()I"), (0, .methodref 9 35), (0, .nameAndType 36 37), (0, u "at"), (0, u "(Ljava/lang/String;I[CII)Z"), (0, .methodref 29 39), (0, .nameAndType 5 40), (0, u "([C)V"), (0, .methodref 29 42), (0, .nameAndType 43 13), (0, u "charAt"), (2, u "law"), (0, u "(IIIII)Z")] 5

def k1m0 : Method := { name := "<init>", desc := "()V", sig := { parameters := [], returnType := none }, accessFlags := 1, code := none }
def k1c1 : Code := { maxStack := 5, maxLocals := 12, code := code, exceptionTable := #[], attributes := #[] }
def k1m1 : Method := { name := "law", desc := "(IIIII)Z", sig := { parameters := [.int, .int, .int, .int, .int], returnType := some .boolean }, accessFlags := 9, code := some k1c1 }
def k1c2 : Code := { maxStack := 2, maxLocals := 1, code := method_3_code, exceptionTable := #[], attributes := #[] }
def k1m2 : Method := { name := "blank", desc := "(C)Z", sig := { parameters := [.char], returnType := some .boolean }, accessFlags := 10, code := some k1c2 }
def k1c3 : Code := { maxStack := 2, maxLocals := 2, code := method_4_code, exceptionTable := #[], attributes := #[] }
def k1m3 : Method := { name := "pick", desc := "(I)C", sig := { parameters := [.int], returnType := some .char }, accessFlags := 10, code := some k1c3 }
def k1c4 : Code := { maxStack := 7, maxLocals := 2, code := method_5_code, exceptionTable := #[], attributes := #[] }
def k1m4 : Method := { name := "make", desc := "(I[C)Ljava/lang/String;", sig := { parameters := [.int, (.array .char)], returnType := some (.object "java/lang/String") }, accessFlags := 10, code := some k1c4 }
def k1c5 : Code := { maxStack := 4, maxLocals := 5, code := method_6_code, exceptionTable := #[], attributes := #[] }
def k1m5 : Method := { name := "at", desc := "(Ljava/lang/String;I[CII)Z", sig := { parameters := [(.object "java/lang/String"), .int, (.array .char), .int, .int], returnType := some .boolean }, accessFlags := 10, code := some k1c5 }
/-- com/example/redress/redress/definition/StatementStripBlanksPinLaw -/
def k1 : Class := { plain "com/example/redress/redress/definition/StatementStripBlanksPinLaw" (some 0) with
  accessFlags := 49
  interfaces := #[]
  cf := some (fileOf pool1 9 #[] #[{ accessFlags := 1, nameIndex := 5, descriptorIndex := 6, attributes := #[] }, { accessFlags := 9, nameIndex := 46, descriptorIndex := 47, attributes := #[] }, { accessFlags := 10, nameIndex := 26, descriptorIndex := 27, attributes := #[] }, { accessFlags := 10, nameIndex := 12, descriptorIndex := 13, attributes := #[] }, { accessFlags := 10, nameIndex := 16, descriptorIndex := 17, attributes := #[] }, { accessFlags := 10, nameIndex := 36, descriptorIndex := 37, attributes := #[] }] 49 2 #[] #[])
  fields := #[]
  methods := #[k1m0, k1m1, k1m2, k1m3, k1m4, k1m5]
  instanceTypes := #[]
  staticTypes := #[]
  resolved := Array.replicate 53 none
  statics := none }

def pool2 : Array CpInfo := pool [(1, .class_ 2), (0, u "java/io/Serializable"), (0, .class_ 4), (0, u "java/lang/Object")] 2

/-- java/io/Serializable -/
def k2 : Class := { plain "java/io/Serializable" (some 0) with
  accessFlags := 1537
  interfaces := #[]
  cf := some (fileOf pool2 1 #[] #[] 1537 3 #[] #[])
  fields := #[]
  methods := #[]
  instanceTypes := #[]
  staticTypes := #[]
  resolved := Array.replicate 7 none
  statics := none }

def pool3 : Array CpInfo := pool [(1, .class_ 2), (0, u "java/lang/Comparable"), (0, .class_ 4), (0, u "java/lang/Object")] 7

/-- java/lang/Comparable -/
def k3 : Class := { plain "java/lang/Comparable" (some 0) with
  accessFlags := 1537
  interfaces := #[]
  cf := some (fileOf pool3 1 #[] #[] 1537 3 #[] #[])
  fields := #[]
  methods := #[]
  instanceTypes := #[]
  staticTypes := #[]
  resolved := Array.replicate 12 none
  statics := none }

def pool4 : Array CpInfo := pool [(2, .class_ 4), (1, u "java/lang/CharSequence"), (42, .class_ 48), (0, u "java/lang/CharSequence$1CodePointIterator"), (10, .class_ 60), (0, u "java/lang/CharSequence$1CharIterator"), (5, .class_ 67), (0, u "java/lang/Object")] 63

/-- java/lang/CharSequence -/
def k4 : Class := { plain "java/lang/CharSequence" (some 0) with
  accessFlags := 1537
  interfaces := #[]
  cf := some (fileOf pool4 2 #[.nestMembers #[47, 59]] #[] 1537 66 #[] #[])
  fields := #[]
  methods := #[]
  instanceTypes := #[]
  staticTypes := #[]
  resolved := Array.replicate 131 none
  statics := none }

def pool5 : Array CpInfo := pool [(1, .class_ 2), (0, u "java/lang/constant/Constable"), (0, .class_ 4), (0, u "java/lang/Object")] 6

/-- java/lang/constant/Constable -/
def k5 : Class := { plain "java/lang/constant/Constable" (some 0) with
  accessFlags := 1537
  interfaces := #[]
  cf := some (fileOf pool5 1 #[] #[] 1537 3 #[] #[])
  fields := #[]
  methods := #[]
  instanceTypes := #[]
  staticTypes := #[]
  resolved := Array.replicate 11 none
  statics := none }

def pool6 : Array CpInfo := pool [(1, .class_ 2), (0, u "java/lang/constant/ConstantDesc"), (0, .class_ 4), (0, u "java/lang/Object")] 32

/-- java/lang/constant/ConstantDesc -/
def k6 : Class := { plain "java/lang/constant/ConstantDesc" (some 0) with
  accessFlags := 1537
  interfaces := #[]
  cf := some (fileOf pool6 1 #[] #[] 1537 3 #[] #[])
  fields := #[]
  methods := #[]
  instanceTypes := #[]
  staticTypes := #[]
  resolved := Array.replicate 37 none
  statics := none }

def pool7 : Array CpInfo := pool [(1, .methodref 2 3), (0, .class_ 4), (0, .nameAndType 5 6), (0, u "java/lang/Object"), (0, u "<init>"), (0, u "()V"), (0, .string 8), (0, u ""), (0, .fieldref 10 11), (0, .class_ 12), (0, .nameAndType 13 14), (0, u "java/lang/String"), (0, u "value"), (0, u "[B"), (0, .fieldref 10 16), (0, .nameAndType 17 18), (0, u "coder"), (0, u "B"), (2, u "hash"), (0, u "I"), (2, u "hashIsZero"), (0, u "Z"), (0, .methodref 10 28), (0, .nameAndType 5 29), (0, u "([CIILjava/lang/Void;)V"), (8, .fieldref 10 39), (0, .nameAndType 40 26), (0, u "COMPACT_STRINGS"), (1, .class_ 44), (1, u "java/lang/StringUTF16"), (0, u "compress"), (1, .methodref 42 48), (0, .nameAndType 49 50), (0, u "coderFromArrayLen"), (0, u "([BI)B"), (56, .class_ 109), (1, u "java/lang/StringLatin1"), (32, u "()Z"), (34, .methodref 42 178), (0, .nameAndType 45 179), (0, u "([CII)[B"), (31, u "([BB)V"), (122, u "()I"), (0, .methodref 10 336), (0, .nameAndType 17 337), (0, u "()B"), (25, u "([BI)C"), (27, u "(II)V"), (35, u "(I)C"), (64, .methodref 10 493), (0, .nameAndType 494 142), (0, u "isLatin1"), (0, .methodref 107 496), (0, .nameAndType 497 363), (0, u "charAt"), (3, u "checkIndex"), (3, .methodref 10 506), (0, .nameAndType 507 334), (0, u "length"), (5, u "checkFromToIndex"), (7, .methodref 10 522), (0, .nameAndType 523 524), (0, u "checkBoundsBeginEnd"), (0, u "(III)V"), (50, .class_ 576), (0, u "java/lang/CharSequence"), (22, u "CASE_INSENSITIVE_ORDER"), (0, u "Ljava/util/Comparator;"), (82, u "substring"), (0, u "(II)Ljava/lang/String;"), (0, .methodref 107 686), (0, .nameAndType 687 688), (0, u "newString"), (0, u "([BII)Ljava/lang/String;"), (321, u "([C)V"), (42, .fieldref 1054 1055), (0, .class_ 1056), (0, .nameAndType 1057 1058), (0, u "jdk/internal/util/Preconditions"), (0, u "SIOOBE_FORMATTER"), (0, u "Ljava/util/function/BiFunction;"), (0, .methodref 1054 1060), (0, .nameAndType 501 1061), (0, u "(IILjava/util/function/BiFunction;)I"), (0, .methodref 1054 1063), (0, .nameAndType 513 1064), (0, u "(IIILjava/util/function/BiFunction;)I"), (36, u "serialPersistentFields"), (0, u "[Ljava/io/ObjectStreamField;"), (0, .class_ 1104), (0, u "java/lang/String$CaseInsensitiveComparator"), (1, .class_ 1107), (0, u "java/io/Serializable"), (0, .class_ 1109), (0, u "java/lang/Comparable"), (0, .class_ 1111), (0, u "java/lang/constant/Constable"), (0, .class_ 1113), (0, u "java/lang/constant/ConstantDesc"), (2, u "serialVersionUID"), (0, u "J"), (3, u "REPL"), (0, u "C"), (2, u "LATIN1"), (1, u "UTF16")] 323

def k7m0 : Method := { name := "<init>", desc := "()V", sig := { parameters := [], returnType := none }, accessFlags := 1, code := none }
def k7c1 : Code := { maxStack := 5, maxLocals := 2, code := jdk_42_method_3_code, exceptionTable := #[], attributes := #[] }
def k7m1 : Method := { name := "<init>", desc := "([C)V", sig := { parameters := [(.array .char)], returnType := none }, accessFlags := 1, code := some k7c1 }
def k7c2 : Code := { maxStack := 2, maxLocals := 1, code := jdk_42_method_54_code, exceptionTable := #[], attributes := #[] }
def k7m2 : Method := { name := "length", desc := "()I", sig := { parameters := [], returnType := some .int }, accessFlags := 1, code := some k7c2 }
def k7c3 : Code := { maxStack := 2, maxLocals := 2, code := jdk_42_method_56_code, exceptionTable := #[], attributes := #[] }
def k7m3 : Method := { name := "charAt", desc := "(I)C", sig := { parameters := [.int], returnType := some .char }, accessFlags := 1, code := some k7c3 }
def k7c4 : Code := { maxStack := 3, maxLocals := 5, code := jdk_42_method_92_code, exceptionTable := #[], attributes := #[] }
def k7m4 : Method := { name := "substring", desc := "(II)Ljava/lang/String;", sig := { parameters := [.int, .int], returnType := some (.object "java/lang/String") }, accessFlags := 1, code := some k7c4 }
def k7c5 : Code := { maxStack := 4, maxLocals := 6, code := jdk_42_method_149_code, exceptionTable := #[], attributes := #[] }
def k7m5 : Method := { name := "<init>", desc := "([CIILjava/lang/Void;)V", sig := { parameters := [(.array .char), .int, .int, (.object "java/lang/Void")], returnType := none }, accessFlags := 2, code := some k7c5 }
def k7c6 : Code := { maxStack := 2, maxLocals := 3, code := jdk_42_method_151_code, exceptionTable := #[], attributes := #[] }
def k7m6 : Method := { name := "<init>", desc := "([BB)V", sig := { parameters := [(.array .byte), .byte], returnType := none }, accessFlags := 0, code := some k7c6 }
def k7c7 : Code := { maxStack := 1, maxLocals := 1, code := jdk_42_method_152_code, exceptionTable := #[], attributes := #[] }
def k7m7 : Method := { name := "coder", desc := "()B", sig := { parameters := [], returnType := some .byte }, accessFlags := 0, code := some k7c7 }
def k7c8 : Code := { maxStack := 1, maxLocals := 1, code := jdk_42_method_154_code, exceptionTable := #[], attributes := #[] }
def k7m8 : Method := { name := "isLatin1", desc := "()Z", sig := { parameters := [], returnType := some .boolean }, accessFlags := 0, code := some k7c8 }
def k7c9 : Code := { maxStack := 3, maxLocals := 2, code := jdk_42_method_155_code, exceptionTable := #[], attributes := #[] }
def k7m9 : Method := { name := "checkIndex", desc := "(II)V", sig := { parameters := [.int, .int], returnType := none }, accessFlags := 8, code := some k7c9 }
def k7c10 : Code := { maxStack := 4, maxLocals := 3, code := jdk_42_method_158_code, exceptionTable := #[], attributes := #[] }
def k7m10 : Method := { name := "checkBoundsBeginEnd", desc := "(III)V", sig := { parameters := [.int, .int, .int], returnType := none }, accessFlags := 8, code := some k7c10 }
/-- java/lang/String -/
def k7 : Class := { plain "java/lang/String" (some 0) with
  accessFlags := 49
  interfaces := #[2, 3, 4, 5, 6]
  cf := some (fileOf pool7 10 #[.nestMembers #[1103]] #[{ accessFlags := 1, nameIndex := 5, descriptorIndex := 6, attributes := #[] }, { accessFlags := 1, nameIndex := 5, descriptorIndex := 1010, attributes := #[] }, { accessFlags := 1, nameIndex := 507, descriptorIndex := 334, attributes := #[] }, { accessFlags := 1, nameIndex := 497, descriptorIndex := 427, attributes := #[] }, { accessFlags := 1, nameIndex := 683, descriptorIndex := 684, attributes := #[] }, { accessFlags := 2, nameIndex := 5, descriptorIndex := 29, attributes := #[] }, { accessFlags := 0, nameIndex := 5, descriptorIndex := 211, attributes := #[] }, { accessFlags := 0, nameIndex := 17, descriptorIndex := 337, attributes := #[] }, { accessFlags := 0, nameIndex := 494, descriptorIndex := 142, attributes := #[] }, { accessFlags := 8, nameIndex := 501, descriptorIndex := 391, attributes := #[] }, { accessFlags := 8, nameIndex := 523, descriptorIndex := 524, attributes := #[] }] 49 2 #[1106, 1108, 575, 1110, 1112] #[{ accessFlags := 18, nameIndex := 13, descriptorIndex := 14, attributes := #[] }, { accessFlags := 18, nameIndex := 17, descriptorIndex := 18, attributes := #[] }, { accessFlags := 2, nameIndex := 21, descriptorIndex := 22, attributes := #[] }, { accessFlags := 2, nameIndex := 25, descriptorIndex := 26, attributes := #[] }, { accessFlags := 26, nameIndex := 1116, descriptorIndex := 1117, attributes := #[] }, { accessFlags := 24, nameIndex := 40, descriptorIndex := 26, attributes := #[] }, { accessFlags := 26, nameIndex := 1101, descriptorIndex := 1102, attributes := #[] }, { accessFlags := 26, nameIndex := 1121, descriptorIndex := 1122, attributes := #[] }, { accessFlags := 25, nameIndex := 599, descriptorIndex := 600, attributes := #[] }, { accessFlags := 24, nameIndex := 1125, descriptorIndex := 18, attributes := #[] }, { accessFlags := 24, nameIndex := 1127, descriptorIndex := 18, attributes := #[] }])
  fields := #[{ name := "value", type := (.array .byte), accessFlags := 18, slot := 0, constantValue := 0 }, { name := "coder", type := .byte, accessFlags := 18, slot := 1, constantValue := 0 }, { name := "hash", type := .int, accessFlags := 2, slot := 2, constantValue := 0 }, { name := "hashIsZero", type := .boolean, accessFlags := 2, slot := 3, constantValue := 0 }, { name := "serialVersionUID", type := .long, accessFlags := 26, slot := 0, constantValue := 0 }, { name := "COMPACT_STRINGS", type := .boolean, accessFlags := 24, slot := 1, constantValue := 0 }, { name := "serialPersistentFields", type := (.array (.object "java/io/ObjectStreamField")), accessFlags := 26, slot := 2, constantValue := 0 }, { name := "REPL", type := .char, accessFlags := 26, slot := 3, constantValue := 0 }, { name := "CASE_INSENSITIVE_ORDER", type := (.object "java/util/Comparator"), accessFlags := 25, slot := 4, constantValue := 0 }, { name := "LATIN1", type := .byte, accessFlags := 24, slot := 5, constantValue := 0 }, { name := "UTF16", type := .byte, accessFlags := 24, slot := 6, constantValue := 0 }]
  methods := #[k7m0, k7m1, k7m2, k7m3, k7m4, k7m5, k7m6, k7m7, k7m8, k7m9, k7m10]
  instanceTypes := #[(.array .byte), .byte, .int, .boolean]
  staticTypes := #[.long, .boolean, (.array (.object "java/io/ObjectStreamField")), .char, (.object "java/util/Comparator"), .byte, .byte]
  resolved := Array.replicate 1451 none
  statics := some 0 }

def pool8 : Array CpInfo := pool [(2, .class_ 4), (1, u "java/lang/Object"), (0, u "<init>"), (0, u "()V"), (4, .class_ 13), (1, u "com/example/redress/redress/definition/Statement"), (0, u "text"), (0, u "Ljava/lang/StringBuilder;"), (5, u "segments"), (0, u "Ljava/util/List;"), (3, .class_ 28), (1, u "java/lang/String"), (5, u "(Ljava/lang/String;)Ljava/lang/String;"), (4, .methodref 26 40), (0, .nameAndType 41 42), (0, u "charAt"), (0, u "(I)C"), (0, .methodref 11 44), (0, .nameAndType 45 46), (0, u "isBlank"), (0, u "(C)Z"), (21, u "()I"), (29, .methodref 26 99), (0, .nameAndType 100 68), (0, u "length"), (0, .methodref 26 102), (0, .nameAndType 103 104), (0, u "substring"), (0, u "(II)Ljava/lang/String;"), (4, .class_ 110), (0, u "com/example/redress/redress/definition/Statement$Segment"), (17, u "stripBlanks")] 43

def k8m0 : Method := { name := "<init>", desc := "()V", sig := { parameters := [], returnType := none }, accessFlags := 2, code := none }
def k8c1 : Code := { maxStack := 2, maxLocals := 1, code := prog_32_method_4_code, exceptionTable := #[], attributes := #[] }
def k8m1 : Method := { name := "isBlank", desc := "(C)Z", sig := { parameters := [.char], returnType := some .boolean }, accessFlags := 8, code := some k8c1 }
def k8c2 : Code := { maxStack := 3, maxLocals := 3, code := prog_32_method_5_code, exceptionTable := #[], attributes := #[] }
def k8m2 : Method := { name := "stripBlanks", desc := "(Ljava/lang/String;)Ljava/lang/String;", sig := { parameters := [(.object "java/lang/String")], returnType := some (.object "java/lang/String") }, accessFlags := 8, code := some k8c2 }
/-- com/example/redress/redress/definition/Statement -/
def k8 : Class := { plain "com/example/redress/redress/definition/Statement" (some 0) with
  accessFlags := 48
  interfaces := #[]
  cf := some (fileOf pool8 11 #[.nestMembers #[109]] #[{ accessFlags := 2, nameIndex := 5, descriptorIndex := 6, attributes := #[] }, { accessFlags := 8, nameIndex := 45, descriptorIndex := 46, attributes := #[] }, { accessFlags := 8, nameIndex := 128, descriptorIndex := 34, attributes := #[] }] 48 2 #[] #[{ accessFlags := 18, nameIndex := 14, descriptorIndex := 15, attributes := #[] }, { accessFlags := 18, nameIndex := 21, descriptorIndex := 22, attributes := #[] }])
  fields := #[{ name := "text", type := (.object "java/lang/StringBuilder"), accessFlags := 18, slot := 0, constantValue := 0 }, { name := "segments", type := (.object "java/util/List"), accessFlags := 18, slot := 1, constantValue := 0 }]
  methods := #[k8m0, k8m1, k8m2]
  instanceTypes := #[(.object "java/lang/StringBuilder"), (.object "java/util/List")]
  staticTypes := #[]
  resolved := Array.replicate 172 none
  statics := none }

def pool9 : Array CpInfo := pool [(2, .class_ 4), (1, u "java/lang/Object"), (0, u "<init>"), (0, u "()V"), (17, .class_ 26), (1, u "jdk/internal/util/Preconditions"), (6, u "checkIndex"), (13, u "checkFromToIndex"), (7, .class_ 56), (0, u "jdk/internal/util/Preconditions$4"), (57, .class_ 115), (0, u "jdk/internal/util/Preconditions$1"), (7, u "SIOOBE_FORMATTER"), (0, u "Ljava/util/function/BiFunction;"), (0, .class_ 126), (0, u "jdk/internal/util/Preconditions$2"), (3, u "AIOOBE_FORMATTER"), (0, .class_ 132), (0, u "jdk/internal/util/Preconditions$3"), (3, u "IOOBE_FORMATTER"), (41, u "(IILjava/util/function/BiFunction;)I"), (4, u "(IIILjava/util/function/BiFunction;)I")] 10

def k9m0 : Method := { name := "<init>", desc := "()V", sig := { parameters := [], returnType := none }, accessFlags := 1, code := none }
def k9c1 : Code := { maxStack := 3, maxLocals := 3, code := jdk_41_method_11_code, exceptionTable := #[], attributes := #[] }
def k9m1 : Method := { name := "checkIndex", desc := "(IILjava/util/function/BiFunction;)I", sig := { parameters := [.int, .int, (.object "java/util/function/BiFunction")], returnType := some .int }, accessFlags := 9, code := some k9c1 }
def k9c2 : Code := { maxStack := 4, maxLocals := 4, code := jdk_41_method_12_code, exceptionTable := #[], attributes := #[] }
def k9m2 : Method := { name := "checkFromToIndex", desc := "(IIILjava/util/function/BiFunction;)I", sig := { parameters := [.int, .int, .int, (.object "java/util/function/BiFunction")], returnType := some .int }, accessFlags := 9, code := some k9c2 }
/-- jdk/internal/util/Preconditions -/
def k9 : Class := { plain "jdk/internal/util/Preconditions" (some 0) with
  accessFlags := 33
  interfaces := #[]
  cf := some (fileOf pool9 24 #[.nestMembers #[55, 131, 125, 114]] #[{ accessFlags := 1, nameIndex := 5, descriptorIndex := 6, attributes := #[] }, { accessFlags := 9, nameIndex := 33, descriptorIndex := 178, attributes := #[] }, { accessFlags := 9, nameIndex := 47, descriptorIndex := 183, attributes := #[] }] 33 2 #[] #[{ accessFlags := 25, nameIndex := 123, descriptorIndex := 124, attributes := #[] }, { accessFlags := 25, nameIndex := 130, descriptorIndex := 124, attributes := #[] }, { accessFlags := 25, nameIndex := 136, descriptorIndex := 124, attributes := #[] }])
  fields := #[{ name := "SIOOBE_FORMATTER", type := (.object "java/util/function/BiFunction"), accessFlags := 25, slot := 0, constantValue := 0 }, { name := "AIOOBE_FORMATTER", type := (.object "java/util/function/BiFunction"), accessFlags := 25, slot := 1, constantValue := 0 }, { name := "IOOBE_FORMATTER", type := (.object "java/util/function/BiFunction"), accessFlags := 25, slot := 2, constantValue := 0 }]
  methods := #[k9m0, k9m1, k9m2]
  instanceTypes := #[]
  staticTypes := #[(.object "java/util/function/BiFunction"), (.object "java/util/function/BiFunction"), (.object "java/util/function/BiFunction")]
  resolved := Array.replicate 194 none
  statics := some 1 }

def pool10 : Array CpInfo := pool [(6, .class_ 8), (1, u "java/lang/Object"), (0, u "<init>"), (0, u "()V"), (1, .class_ 14), (1, u "java/lang/StringUTF16"), (31, u "$assertionsDisabled"), (0, u "Z"), (13, u "HI_BYTE_SHIFT"), (0, u "I"), (2, u "LO_BYTE_SHIFT"), (49, .methodref 12 116), (0, .nameAndType 117 118), (0, u "compress"), (0, u "([CI[BII)I"), (3, u "([CII)[B"), (138, u "coderFromArrayLen"), (0, u "([BI)B"), (106, .class_ 371), (1, u "java/lang/StringUTF16$LinesSpliterator"), (58, u "MAX_LENGTH"), (196, .class_ 628), (0, u "java/lang/StringUTF16$CodePointsSpliterator"), (0, .class_ 630), (0, u "java/lang/StringUTF16$CharsSpliterator")] 4

def k10m0 : Method := { name := "<init>", desc := "()V", sig := { parameters := [], returnType := none }, accessFlags := 0, code := none }
def k10c1 : Code := { maxStack := 2, maxLocals := 2, code := jdk_52_method_15_code, exceptionTable := #[], attributes := #[] }
def k10m1 : Method := { name := "coderFromArrayLen", desc := "([BI)B", sig := { parameters := [(.array .byte), .int], returnType := some .byte }, accessFlags := 8, code := some k10c1 }
def k10c2 : Code := { maxStack := 5, maxLocals := 6, code := jdk_52_method_16_code, exceptionTable := #[], attributes := #[] }
def k10m2 : Method := { name := "compress", desc := "([CII)[B", sig := { parameters := [(.array .char), .int, .int], returnType := some (.array .byte) }, accessFlags := 9, code := some k10c2 }
def k10c3 : Code := { maxStack := 3, maxLocals := 7, code := jdk_52_method_21_code, exceptionTable := #[], attributes := #[] }
def k10m3 : Method := { name := "compress", desc := "([CI[BII)I", sig := { parameters := [(.array .char), .int, (.array .byte), .int, .int], returnType := some .int }, accessFlags := 9, code := some k10c3 }
/-- java/lang/StringUTF16 -/
def k10 : Class := { plain "java/lang/StringUTF16" (some 0) with
  accessFlags := 48
  interfaces := #[]
  cf := some (fileOf pool10 12 #[.nestMembers #[627, 629, 369]] #[{ accessFlags := 0, nameIndex := 9, descriptorIndex := 10, attributes := #[] }, { accessFlags := 8, nameIndex := 261, descriptorIndex := 262, attributes := #[] }, { accessFlags := 9, nameIndex := 117, descriptorIndex := 122, attributes := #[] }, { accessFlags := 9, nameIndex := 117, descriptorIndex := 118, attributes := #[] }] 48 6 #[] #[{ accessFlags := 26, nameIndex := 61, descriptorIndex := 62, attributes := #[] }, { accessFlags := 26, nameIndex := 65, descriptorIndex := 62, attributes := #[] }, { accessFlags := 24, nameIndex := 430, descriptorIndex := 62, attributes := #[] }, { accessFlags := 4120, nameIndex := 46, descriptorIndex := 47, attributes := #[] }])
  fields := #[{ name := "HI_BYTE_SHIFT", type := .int, accessFlags := 26, slot := 0, constantValue := 0 }, { name := "LO_BYTE_SHIFT", type := .int, accessFlags := 26, slot := 1, constantValue := 0 }, { name := "MAX_LENGTH", type := .int, accessFlags := 24, slot := 2, constantValue := 0 }, { name := "$assertionsDisabled", type := .boolean, accessFlags := 4120, slot := 3, constantValue := 0 }]
  methods := #[k10m0, k10m1, k10m2, k10m3]
  instanceTypes := #[]
  staticTypes := #[.int, .int, .int, .boolean]
  resolved := Array.replicate 635 none
  statics := none }

def pool11 : Array CpInfo := pool [(1, .class_ 2), (0, u "java/lang/String"), (1, .class_ 6), (1, u "java/lang/Object"), (0, u "<init>"), (0, u "()V"), (0, .methodref 1 10), (0, .nameAndType 11 12), (0, u "checkIndex"), (0, u "(II)V"), (1, .class_ 16), (1, u "java/lang/StringLatin1"), (36, u "([BI)C"), (58, .methodref 1 113), (0, .nameAndType 7 114), (0, u "([BB)V"), (6, u "$assertionsDisabled"), (0, u "Z"), (8, .class_ 133), (1, u "java/util/Arrays"), (17, .string 152), (0, u ""), (43, u "newString"), (0, u "([BII)Ljava/lang/String;"), (23, .class_ 223), (1, u "java/lang/StringLatin1$LinesSpliterator"), (8, .methodref 131 233), (0, .nameAndType 234 235), (0, u "copyOfRange"), (0, u "([BII)[B"), (16, u "charAt"), (137, .class_ 391), (0, u "java/lang/StringLatin1$CharsSpliterator")] 3

def k11m0 : Method := { name := "<init>", desc := "()V", sig := { parameters := [], returnType := none }, accessFlags := 0, code := none }
def k11c1 : Code := { maxStack := 2, maxLocals := 2, code := jdk_43_method_2_code, exceptionTable := #[], attributes := #[] }
def k11m1 : Method := { name := "charAt", desc := "([BI)C", sig := { parameters := [(.array .byte), .int], returnType := some .char }, accessFlags := 9, code := some k11c1 }
def k11c2 : Code := { maxStack := 6, maxLocals := 3, code := jdk_43_method_47_code, exceptionTable := #[], attributes := #[] }
def k11m2 : Method := { name := "newString", desc := "([BII)Ljava/lang/String;", sig := { parameters := [(.array .byte), .int, .int], returnType := some (.object "java/lang/String") }, accessFlags := 9, code := some k11c2 }
/-- java/lang/StringLatin1 -/
def k11 : Class := { plain "java/lang/StringLatin1" (some 0) with
  accessFlags := 48
  interfaces := #[]
  cf := some (fileOf pool11 14 #[.nestMembers #[390, 221]] #[{ accessFlags := 0, nameIndex := 7, descriptorIndex := 8, attributes := #[] }, { accessFlags := 9, nameIndex := 252, descriptorIndex := 53, attributes := #[] }, { accessFlags := 9, nameIndex := 196, descriptorIndex := 197, attributes := #[] }] 48 4 #[] #[{ accessFlags := 4120, nameIndex := 121, descriptorIndex := 122, attributes := #[] }])
  fields := #[{ name := "$assertionsDisabled", type := .boolean, accessFlags := 4120, slot := 0, constantValue := 0 }]
  methods := #[k11m0, k11m1, k11m2]
  instanceTypes := #[]
  staticTypes := #[.boolean]
  resolved := Array.replicate 395 none
  statics := none }

def pool12 : Array CpInfo := pool [(2, .class_ 4), (1, u "java/lang/Object"), (0, u "<init>"), (0, u "()V"), (7, .class_ 16), (1, u "java/util/Arrays"), (57, .class_ 76), (1, u "java/util/Arrays$NaturalOrder"), (36, .class_ 115), (1, u "java/util/Arrays$LegacyMergeSort"), (1, u "Z"), (21, u "copyOfRange"), (10, .methodref 151 152), (0, .class_ 153), (0, .nameAndType 154 155), (0, u "java/lang/System"), (0, u "arraycopy"), (0, u "(Ljava/lang/Object;ILjava/lang/Object;II)V"), (148, .methodref 305 306), (0, .class_ 307), (0, .nameAndType 308 309), (0, u "java/lang/Math"), (0, u "min"), (0, u "(II)I"), (29, .methodref 14 340), (0, .nameAndType 341 342), (0, u "copyOfRangeByte"), (0, u "([BII)[B"), (0, .methodref 14 344), (0, .nameAndType 345 346), (0, u "checkLength"), (0, u "(II)V"), (28, .class_ 376), (0, u "java/util/Arrays$ArrayList"), (68, u "$assertionsDisabled"), (269, u "MIN_ARRAY_SORT_GRAN"), (0, u "I"), (2, u "INSERTIONSORT_THRESHOLD"), (255, .class_ 976), (0, u "java/util/Arrays$ArrayItr")] 52

def k12m0 : Method := { name := "<init>", desc := "()V", sig := { parameters := [], returnType := none }, accessFlags := 2, code := none }
def k12c1 : Code := { maxStack := 4, maxLocals := 2, code := jdk_65_method_131_code, exceptionTable := #[], attributes := #[] }
def k12m1 : Method := { name := "checkLength", desc := "(II)V", sig := { parameters := [.int, .int], returnType := none }, accessFlags := 10, code := some k12c1 }
def k12c2 : Code := { maxStack := 3, maxLocals := 3, code := jdk_65_method_132_code, exceptionTable := #[], attributes := #[] }
def k12m2 : Method := { name := "copyOfRange", desc := "([BII)[B", sig := { parameters := [(.array .byte), .int, .int], returnType := some (.array .byte) }, accessFlags := 9, code := some k12c2 }
def k12c3 : Code := { maxStack := 6, maxLocals := 5, code := jdk_65_method_133_code, exceptionTable := #[], attributes := #[] }
def k12m3 : Method := { name := "copyOfRangeByte", desc := "([BII)[B", sig := { parameters := [(.array .byte), .int, .int], returnType := some (.array .byte) }, accessFlags := 10, code := some k12c3 }
/-- java/util/Arrays -/
def k12 : Class := { plain "java/util/Arrays" (some 0) with
  accessFlags := 49
  interfaces := #[]
  cf := some (fileOf pool12 14 #[.nestMembers #[975, 375, 113, 74]] #[{ accessFlags := 2, nameIndex := 5, descriptorIndex := 6, attributes := #[] }, { accessFlags := 10, nameIndex := 345, descriptorIndex := 346, attributes := #[] }, { accessFlags := 9, nameIndex := 139, descriptorIndex := 342, attributes := #[] }, { accessFlags := 10, nameIndex := 341, descriptorIndex := 342, attributes := #[] }] 49 2 #[] #[{ accessFlags := 26, nameIndex := 715, descriptorIndex := 716, attributes := #[] }, { accessFlags := 26, nameIndex := 719, descriptorIndex := 716, attributes := #[] }, { accessFlags := 4120, nameIndex := 445, descriptorIndex := 117, attributes := #[] }])
  fields := #[{ name := "MIN_ARRAY_SORT_GRAN", type := .int, accessFlags := 26, slot := 0, constantValue := 0 }, { name := "INSERTIONSORT_THRESHOLD", type := .int, accessFlags := 26, slot := 1, constantValue := 0 }, { name := "$assertionsDisabled", type := .boolean, accessFlags := 4120, slot := 2, constantValue := 0 }]
  methods := #[k12m0, k12m1, k12m2, k12m3]
  instanceTypes := #[]
  staticTypes := #[.int, .int, .boolean]
  resolved := Array.replicate 1029 none
  statics := none }

def pool13 : Array CpInfo := pool [(1, .class_ 2), (0, u "java/lang/Math"), (1, .class_ 6), (1, u "java/lang/Object"), (0, u "<init>"), (0, u "()V"), (89, .class_ 100), (1, u "java/lang/Math$RandomNumberGeneratorHolder"), (71, u "negativeZeroFloatBits"), (0, u "J"), (2, u "negativeZeroDoubleBits"), (24, u "min"), (43, u "$assertionsDisabled"), (0, u "Z"), (88, u "(II)I"), (2, u "twoToTheDoubleScaleDown"), (0, u "D"), (4, u "twoToTheDoubleScaleUp"), (9, u "E"), (3, u "PI"), (2, u "TAU"), (2, u "DEGREES_TO_RADIANS"), (0, u "RADIANS_TO_DEGREES")] 94

def k13m0 : Method := { name := "<init>", desc := "()V", sig := { parameters := [], returnType := none }, accessFlags := 2, code := none }
def k13c1 : Code := { maxStack := 2, maxLocals := 2, code := jdk_29_method_69_code, exceptionTable := #[], attributes := #[] }
def k13m1 : Method := { name := "min", desc := "(II)I", sig := { parameters := [.int, .int], returnType := some .int }, accessFlags := 9, code := some k13c1 }
/-- java/lang/Math -/
def k13 : Class := { plain "java/lang/Math" (some 0) with
  accessFlags := 49
  interfaces := #[]
  cf := some (fileOf pool13 1 #[.nestMembers #[98]] #[{ accessFlags := 2, nameIndex := 7, descriptorIndex := 8, attributes := #[] }, { accessFlags := 9, nameIndex := 201, descriptorIndex := 335, attributes := #[] }] 49 4 #[] #[{ accessFlags := 25, nameIndex := 354, descriptorIndex := 339, attributes := #[] }, { accessFlags := 25, nameIndex := 358, descriptorIndex := 339, attributes := #[] }, { accessFlags := 25, nameIndex := 361, descriptorIndex := 339, attributes := #[] }, { accessFlags := 26, nameIndex := 364, descriptorIndex := 339, attributes := #[] }, { accessFlags := 26, nameIndex := 365, descriptorIndex := 339, attributes := #[] }, { accessFlags := 26, nameIndex := 172, descriptorIndex := 173, attributes := #[] }, { accessFlags := 26, nameIndex := 176, descriptorIndex := 173, attributes := #[] }, { accessFlags := 8, nameIndex := 344, descriptorIndex := 339, attributes := #[] }, { accessFlags := 8, nameIndex := 338, descriptorIndex := 339, attributes := #[] }, { accessFlags := 4120, nameIndex := 245, descriptorIndex := 246, attributes := #[] }])
  fields := #[{ name := "E", type := .double, accessFlags := 25, slot := 0, constantValue := 0 }, { name := "PI", type := .double, accessFlags := 25, slot := 1, constantValue := 0 }, { name := "TAU", type := .double, accessFlags := 25, slot := 2, constantValue := 0 }, { name := "DEGREES_TO_RADIANS", type := .double, accessFlags := 26, slot := 3, constantValue := 0 }, { name := "RADIANS_TO_DEGREES", type := .double, accessFlags := 26, slot := 4, constantValue := 0 }, { name := "negativeZeroFloatBits", type := .long, accessFlags := 26, slot := 5, constantValue := 0 }, { name := "negativeZeroDoubleBits", type := .long, accessFlags := 26, slot := 6, constantValue := 0 }, { name := "twoToTheDoubleScaleUp", type := .double, accessFlags := 8, slot := 7, constantValue := 0 }, { name := "twoToTheDoubleScaleDown", type := .double, accessFlags := 8, slot := 8, constantValue := 0 }, { name := "$assertionsDisabled", type := .boolean, accessFlags := 4120, slot := 9, constantValue := 0 }]
  methods := #[k13m0, k13m1]
  instanceTypes := #[]
  staticTypes := #[.double, .double, .double, .double, .double, .long, .long, .double, .double, .boolean]
  resolved := Array.replicate 460 none
  statics := none }

def pool14 : Array CpInfo := pool [(2, .class_ 4), (1, u "java/lang/Object"), (0, u "<init>"), (0, u "()V"), (1, .class_ 10), (1, u "java/lang/System"), (0, u "allowSecurityManager"), (0, u "I"), (16, u "cons"), (0, u "Ljava/io/Console;"), (77, .class_ 110), (1, u "java/lang/System$CallersHolder"), (43, u "initialErrStream"), (0, u "Ljava/io/PrintStream;"), (19, u "security"), (0, u "Ljava/lang/SecurityManager;"), (31, .class_ 209), (0, u "java/lang/System$1"), (7, u "props"), (0, u "Ljava/util/Properties;"), (2, u "lineSeparator"), (0, u "Ljava/lang/String;"), (96, .class_ 321), (1, u "java/lang/System$LoggerFinder"), (5, .class_ 328), (0, u "java/lang/System$Logger"), (67, u "err"), (2, u "out"), (91, u "notSupportedJnuEncoding"), (15, u "in"), (17, u "initialIn"), (0, u "Ljava/io/InputStream;"), (35, u "bootLayer"), (0, u "Ljava/lang/ModuleLayer;"), (99, .class_ 664), (0, u "java/lang/System$2"), (9, u "NEVER"), (2, u "MAYBE"), (49, u "arraycopy"), (0, u "(Ljava/lang/Object;ILjava/lang/Object;II)V"), (72, .class_ 802), (0, u "java/lang/System$Logger$Level")] 31

def k14m0 : Method := { name := "<init>", desc := "()V", sig := { parameters := [], returnType := none }, accessFlags := 2, code := none }
def k14m1 : Method := { name := "arraycopy", desc := "(Ljava/lang/Object;ILjava/lang/Object;II)V", sig := { parameters := [(.object "java/lang/Object"), .int, (.object "java/lang/Object"), .int, .int], returnType := none }, accessFlags := 265, code := none }
/-- java/lang/System -/
def k14 : Class := { plain "java/lang/System" (some 0) with
  accessFlags := 49
  interfaces := #[]
  cf := some (fileOf pool14 8 #[.nestMembers #[319, 327, 801, 108, 663, 208]] #[{ accessFlags := 2, nameIndex := 5, descriptorIndex := 6, attributes := #[] }, { accessFlags := 265, nameIndex := 727, descriptorIndex := 728, attributes := #[] }] 49 2 #[] #[{ accessFlags := 25, nameIndex := 507, descriptorIndex := 526, attributes := #[] }, { accessFlags := 25, nameIndex := 399, descriptorIndex := 155, attributes := #[] }, { accessFlags := 25, nameIndex := 396, descriptorIndex := 155, attributes := #[] }, { accessFlags := 10, nameIndex := 525, descriptorIndex := 526, attributes := #[] }, { accessFlags := 26, nameIndex := 674, descriptorIndex := 12, attributes := #[] }, { accessFlags := 26, nameIndex := 677, descriptorIndex := 12, attributes := #[] }, { accessFlags := 10, nameIndex := 11, descriptorIndex := 12, attributes := #[] }, { accessFlags := 74, nameIndex := 175, descriptorIndex := 176, attributes := #[] }, { accessFlags := 10, nameIndex := 491, descriptorIndex := 222, attributes := #[] }, { accessFlags := 74, nameIndex := 29, descriptorIndex := 30, attributes := #[] }, { accessFlags := 74, nameIndex := 154, descriptorIndex := 155, attributes := #[] }, { accessFlags := 10, nameIndex := 217, descriptorIndex := 218, attributes := #[] }, { accessFlags := 10, nameIndex := 221, descriptorIndex := 222, attributes := #[] }, { accessFlags := 8, nameIndex := 562, descriptorIndex := 563, attributes := #[] }])
  fields := #[{ name := "in", type := (.object "java/io/InputStream"), accessFlags := 25, slot := 0, constantValue := 0 }, { name := "out", type := (.object "java/io/PrintStream"), accessFlags := 25, slot := 1, constantValue := 0 }, { name := "err", type := (.object "java/io/PrintStream"), accessFlags := 25, slot := 2, constantValue := 0 }, { name := "initialIn", type := (.object "java/io/InputStream"), accessFlags := 10, slot := 3, constantValue := 0 }, { name := "NEVER", type := .int, accessFlags := 26, slot := 4, constantValue := 0 }, { name := "MAYBE", type := .int, accessFlags := 26, slot := 5, constantValue := 0 }, { name := "allowSecurityManager", type := .int, accessFlags := 10, slot := 6, constantValue := 0 }, { name := "security", type := (.object "java/lang/SecurityManager"), accessFlags := 74, slot := 7, constantValue := 0 }, { name := "notSupportedJnuEncoding", type := (.object "java/lang/String"), accessFlags := 10, slot := 8, constantValue := 0 }, { name := "cons", type := (.object "java/io/Console"), accessFlags := 74, slot := 9, constantValue := 0 }, { name := "initialErrStream", type := (.object "java/io/PrintStream"), accessFlags := 74, slot := 10, constantValue := 0 }, { name := "props", type := (.object "java/util/Properties"), accessFlags := 10, slot := 11, constantValue := 0 }, { name := "lineSeparator", type := (.object "java/lang/String"), accessFlags := 10, slot := 12, constantValue := 0 }, { name := "bootLayer", type := (.object "java/lang/ModuleLayer"), accessFlags := 8, slot := 13, constantValue := 0 }]
  methods := #[k14m0, k14m1]
  instanceTypes := #[]
  staticTypes := #[(.object "java/io/InputStream"), (.object "java/io/PrintStream"), (.object "java/io/PrintStream"), (.object "java/io/InputStream"), .int, .int, .int, (.object "java/lang/SecurityManager"), (.object "java/lang/String"), (.object "java/io/Console"), (.object "java/io/PrintStream"), (.object "java/util/Properties"), (.object "java/lang/String"), (.object "java/lang/ModuleLayer")]
  resolved := Array.replicate 834 none
  statics := none }

def pool15 : Array CpInfo := pool [(9, u "<init>"), (6, .class_ 18), (1, u "java/lang/Object"), (0, u "()V"), (1, .class_ 23), (1, u "jdk/internal/util/ArraysSupport"), (0, u "LOG2_ARRAY_LONG_INDEX_SCALE"), (0, u "I"), (2, u "U"), (0, u "Ljdk/internal/misc/Unsafe;"), (8, u "BIG_ENDIAN"), (0, u "Z"), (8, u "LOG2_BYTE_BIT_SIZE"), (4, u "LOG2_ARRAY_INT_INDEX_SCALE"), (54, u "JLA"), (0, u "Ljdk/internal/access/JavaLangAccess;"), (11, u "LOG2_ARRAY_BOOLEAN_INDEX_SCALE"), (9, u "LOG2_ARRAY_BYTE_INDEX_SCALE"), (5, u "LOG2_ARRAY_CHAR_INDEX_SCALE"), (5, u "LOG2_ARRAY_SHORT_INDEX_SCALE"), (18, u "LOG2_ARRAY_FLOAT_INDEX_SCALE"), (24, u "LOG2_ARRAY_DOUBLE_INDEX_SCALE"), (89, u "T_BOOLEAN"), (2, u "T_CHAR"), (1, u "T_FLOAT"), (1, u "T_DOUBLE"), (1, u "T_BYTE"), (1, u "T_SHORT"), (1, u "T_INT"), (1, u "T_LONG"), (1, u "SOFT_MAX_ARRAY_LENGTH")] 83

def k15m0 : Method := { name := "<init>", desc := "()V", sig := { parameters := [], returnType := none }, accessFlags := 2, code := none }
/-- jdk/internal/util/ArraysSupport -/
def k15 : Class := { plain "jdk/internal/util/ArraysSupport" (some 0) with
  accessFlags := 33
  interfaces := #[]
  cf := some (fileOf pool15 21 #[] #[{ accessFlags := 2, nameIndex := 9, descriptorIndex := 19, attributes := #[] }] 33 16 #[] #[{ accessFlags := 24, nameIndex := 28, descriptorIndex := 29, attributes := #[] }, { accessFlags := 26, nameIndex := 38, descriptorIndex := 39, attributes := #[] }, { accessFlags := 25, nameIndex := 121, descriptorIndex := 25, attributes := #[] }, { accessFlags := 25, nameIndex := 131, descriptorIndex := 25, attributes := #[] }, { accessFlags := 25, nameIndex := 137, descriptorIndex := 25, attributes := #[] }, { accessFlags := 25, nameIndex := 143, descriptorIndex := 25, attributes := #[] }, { accessFlags := 25, nameIndex := 53, descriptorIndex := 25, attributes := #[] }, { accessFlags := 25, nameIndex := 24, descriptorIndex := 25, attributes := #[] }, { accessFlags := 25, nameIndex := 162, descriptorIndex := 25, attributes := #[] }, { accessFlags := 25, nameIndex := 187, descriptorIndex := 25, attributes := #[] }, { accessFlags := 26, nameIndex := 48, descriptorIndex := 25, attributes := #[] }, { accessFlags := 25, nameIndex := 277, descriptorIndex := 25, attributes := #[] }, { accessFlags := 25, nameIndex := 280, descriptorIndex := 25, attributes := #[] }, { accessFlags := 25, nameIndex := 282, descriptorIndex := 25, attributes := #[] }, { accessFlags := 25, nameIndex := 284, descriptorIndex := 25, attributes := #[] }, { accessFlags := 25, nameIndex := 286, descriptorIndex := 25, attributes := #[] }, { accessFlags := 25, nameIndex := 288, descriptorIndex := 25, attributes := #[] }, { accessFlags := 25, nameIndex := 290, descriptorIndex := 25, attributes := #[] }, { accessFlags := 25, nameIndex := 292, descriptorIndex := 25, attributes := #[] }, { accessFlags := 26, nameIndex := 108, descriptorIndex := 109, attributes := #[] }, { accessFlags := 25, nameIndex := 294, descriptorIndex := 25, attributes := #[] }])
  fields := #[{ name := "U", type := (.object "jdk/internal/misc/Unsafe"), accessFlags := 24, slot := 0, constantValue := 0 }, { name := "BIG_ENDIAN", type := .boolean, accessFlags := 26, slot := 1, constantValue := 0 }, { name := "LOG2_ARRAY_BOOLEAN_INDEX_SCALE", type := .int, accessFlags := 25, slot := 2, constantValue := 0 }, { name := "LOG2_ARRAY_BYTE_INDEX_SCALE", type := .int, accessFlags := 25, slot := 3, constantValue := 0 }, { name := "LOG2_ARRAY_CHAR_INDEX_SCALE", type := .int, accessFlags := 25, slot := 4, constantValue := 0 }, { name := "LOG2_ARRAY_SHORT_INDEX_SCALE", type := .int, accessFlags := 25, slot := 5, constantValue := 0 }, { name := "LOG2_ARRAY_INT_INDEX_SCALE", type := .int, accessFlags := 25, slot := 6, constantValue := 0 }, { name := "LOG2_ARRAY_LONG_INDEX_SCALE", type := .int, accessFlags := 25, slot := 7, constantValue := 0 }, { name := "LOG2_ARRAY_FLOAT_INDEX_SCALE", type := .int, accessFlags := 25, slot := 8, constantValue := 0 }, { name := "LOG2_ARRAY_DOUBLE_INDEX_SCALE", type := .int, accessFlags := 25, slot := 9, constantValue := 0 }, { name := "LOG2_BYTE_BIT_SIZE", type := .int, accessFlags := 26, slot := 10, constantValue := 0 }, { name := "T_BOOLEAN", type := .int, accessFlags := 25, slot := 11, constantValue := 0 }, { name := "T_CHAR", type := .int, accessFlags := 25, slot := 12, constantValue := 0 }, { name := "T_FLOAT", type := .int, accessFlags := 25, slot := 13, constantValue := 0 }, { name := "T_DOUBLE", type := .int, accessFlags := 25, slot := 14, constantValue := 0 }, { name := "T_BYTE", type := .int, accessFlags := 25, slot := 15, constantValue := 0 }, { name := "T_SHORT", type := .int, accessFlags := 25, slot := 16, constantValue := 0 }, { name := "T_INT", type := .int, accessFlags := 25, slot := 17, constantValue := 0 }, { name := "T_LONG", type := .int, accessFlags := 25, slot := 18, constantValue := 0 }, { name := "JLA", type := (.object "jdk/internal/access/JavaLangAccess"), accessFlags := 26, slot := 19, constantValue := 0 }, { name := "SOFT_MAX_ARRAY_LENGTH", type := .int, accessFlags := 25, slot := 20, constantValue := 0 }]
  methods := #[k15m0]
  instanceTypes := #[]
  staticTypes := #[(.object "jdk/internal/misc/Unsafe"), .boolean, .int, .int, .int, .int, .int, .int, .int, .int, .int, .int, .int, .int, .int, .int, .int, .int, .int, (.object "jdk/internal/access/JavaLangAccess"), .int]
  resolved := Array.replicate 378 none
  statics := none }

def pool16 : Array CpInfo := pool [(1, u "java/lang/Cloneable"), (0, .class_ 1), (0, u "java/lang/Object"), (0, .class_ 3)] 3

/-- java/lang/Cloneable -/
def k16 : Class := { plain "java/lang/Cloneable" (some 0) with
  accessFlags := 1537
  interfaces := #[]
  cf := some (fileOf pool16 2 #[] #[] 1537 4 #[] #[])
  fields := #[]
  methods := #[]
  instanceTypes := #[]
  staticTypes := #[]
  resolved := Array.replicate 8 none
  statics := none }

/-- the primitive byte -/
def k17 : Class := { plain "byte" none with kind := .primitive 'B', accessFlags := 0x411 }
/-- [B -/
def k18 : Class := { plain "[B" (some 0) with kind := .array 17 .byte, interfaces := #[16, 2], accessFlags := 1041 }

/-- the primitive char -/
def k19 : Class := { plain "char" none with kind := .primitive 'C', accessFlags := 0x411 }
/-- [C -/
def k20 : Class := { plain "[C" (some 0) with kind := .array 19 .char, interfaces := #[16, 2], accessFlags := 1041 }

/-- the primitive int -/
def k21 : Class := { plain "int" none with kind := .primitive 'I', accessFlags := 0x411 }
/-- [I -/
def k22 : Class := { plain "[I" (some 0) with kind := .array 21 .int, interfaces := #[16, 2], accessFlags := 1041 }

def heap : Heap := #[{ cls := 7, slots := #[.long 0, .int 1, .null, .int 0, .null, .int 0, .int 0], vm := .statics 7 },
  { cls := 9, slots := #[.null, .null, .null], vm := .statics 9 }]
def classes : Array Class := #[k0, k1, k2, k3, k4, k5, k6, k7, k8, k9, k10, k11, k12, k13, k14, k15, k16, k17, k18, k19, k20, k21, k22]
def interned : List (Array UInt16 × Addr) := []
def slotsUsed : Nat := 10
def theMethod : MethodId := ⟨1, 1⟩
def args0 : Array Value := #[.int 5, .int 5, .int 5, .int 5, .int 5]
def aboutOver (below : List Frame) : State where
  vm := { classes := classes, interned := interned.toArray }
  heap := heap
  slotsUsed := slotsUsed
  threads := #[{ frames := .invoking theMethod args0 :: below }]
def below0 : List Frame := [.native { method := ⟨0, 0⟩, args := #[] }]
def about1 : State := aboutOver below0
def p0 : Program := .bare "" "" ""
def e0 : Env := launch0.env 0 0 0
theorem w_frames : about1.frames = Frame.invoking theMethod args0 :: below0 := rfl
set_option maxRecDepth 65536 in
theorem w_args : argsFit about1.vm theMethod args0 = true := by decide +kernel
set_option maxRecDepth 65536 in
theorem w_heap : heapFits about1 = true := by decide +kernel
set_option maxRecDepth 65536 in
theorem w_runnable : about1.curStatus? = some .runnable := by decide +kernel
set_option maxRecDepth 65536 in
theorem w_alone : about1.alone = true := by decide +kernel
set_option maxRecDepth 65536 in
theorem w_named : about1.methodNamed? x = some theMethod := by decide +kernel
set_option maxRecDepth 65536 in
theorem w_hears : about1.hears theMethod below0 = true := by decide +kernel
set_option maxRecDepth 65536 in
theorem w_ripe : about1.ripe theMethod args0 below0 = true := by decide +kernel
theorem w_running : about1.status = .running := rfl
set_option maxRecDepth 65536 in
theorem w_room : about1.hasRoom e0.platform room_1 = true :=
  launch0.hasRoom_least _ room_1 (by decide +kernel) (by decide +kernel) (by decide +kernel) (by decide +kernel) (by decide +kernel) (by decide +kernel)
theorem allAtoms_all (ts : List Jvm.Cond) (a : Array Jvm.Value) (st : Jvm.State) : (allAtoms ts).before a st = ts.all (fun c => c.before a st) := by
  induction ts with
  | nil => rfl
  | cons c t ih =>
    show (Jvm.Cond.and c (allAtoms t)).before a st = _
    rw [Jvm.Cond.before_and, ih, List.all_cons]
def words1 : List Jvm.Cond := Jvm.Cond.code x code maxLocals ret :: tables_1
/-- a 'code' word, met by the world's own term for the bytes: nothing is compared byte by byte -/
theorem code_word {y : MethodName} {bytes : ByteArray} {mx : Nat} {rt : Option FieldType} {a : Array Value} {s : State} {m : MethodId} {meth : Method} {c : Code} (h1 : s.methodNamed? y = some m) (h2 : s.vm.method? m = some meth) (h3 : meth.code = some c) (h4 : c.code = bytes)
    (h5 : (c.maxLocals == mx && c.exceptionTable.isEmpty && decide (c.maxStack ≤ mostOperands) && decide (meth.sig.returnType = rt) && !meth.locks && decide (parseMethodDescriptor y.desc = some meth.sig)) = true) : (Jvm.Cond.code y bytes mx rt).before a s = true := by
  simp only [Bool.and_eq_true, beq_iff_eq, Bool.not_eq_true', decide_eq_true_eq] at h5
  obtain ⟨⟨⟨⟨⟨g1, g2⟩, g3⟩, g4⟩, g5⟩, g6⟩ := h5
  simp [Cond.before, Cond.holds, Cond.value, h1, h2, h3, h4, g1, g2, g3, g4, g5, g6]
def isCode : Jvm.Cond → Bool
  | .code _ _ _ _ => true
  | _ => false
theorem all_split {L : List Jvm.Cond} {P : Jvm.Cond → Bool} (h1 : L.all (fun c => isCode c || P c) = true) (h2 : ∀ c ∈ L.filter isCode, P c = true) : L.all P = true := by
  refine List.all_eq_true.mpr fun c hc => ?_
  have h := List.all_eq_true.mp h1 c hc
  rcases Bool.eq_false_or_eq_true (isCode c) with hi | hi
  · exact h2 c (List.mem_filter.mpr ⟨hc, hi⟩)
  · simpa [hi] using h
set_option maxRecDepth 65536 in
theorem w_c0 : (Jvm.Cond.code x code maxLocals ret).before args0 about1 = true := code_word (m := ⟨1, 1⟩) (meth := k1m1) (c := k1c1) (by decide +kernel) rfl rfl rfl (by decide +kernel)
set_option maxRecDepth 65536 in
theorem w_c1 : (Jvm.Cond.code ({ cls := "com/example/redress/redress/definition/StatementStripBlanksPinLaw", name := "pick", desc := "(I)C" } : Jvm.MethodName) method_4_code (2 : Nat) (Option.some Jvm.ClassFile.FieldType.char)).before args0 about1 = true := code_word (m := ⟨1, 3⟩) (meth := k1m3) (c := k1c3) (by decide +kernel) rfl rfl rfl (by decide +kernel)
set_option maxRecDepth 65536 in
theorem w_c2 : (Jvm.Cond.code ({ cls := "com/example/redress/redress/definition/StatementStripBlanksPinLaw", name := "make", desc := "(I[C)Ljava/lang/String;" } : Jvm.MethodName) method_5_code (2 : Nat) (Option.some (Jvm.ClassFile.FieldType.object "java/lang/String"))).before args0 about1 = true := code_word (m := ⟨1, 4⟩) (meth := k1m4) (c := k1c4) (by decide +kernel) rfl rfl rfl (by decide +kernel)
set_option maxRecDepth 65536 in
theorem w_c3 : (Jvm.Cond.code ({ cls := "java/lang/String", name := "<init>", desc := "([C)V" } : Jvm.MethodName) jdk_42_method_3_code (2 : Nat) (Option.none : Option Jvm.ClassFile.FieldType)).before args0 about1 = true := code_word (m := ⟨7, 1⟩) (meth := k7m1) (c := k7c1) (by decide +kernel) rfl rfl rfl (by decide +kernel)
set_option maxRecDepth 65536 in
theorem w_c4 : (Jvm.Cond.code ({ cls := "java/lang/String", name := "<init>", desc := "([CIILjava/lang/Void;)V" } : Jvm.MethodName) jdk_42_method_149_code (6 : Nat) (Option.none : Option Jvm.ClassFile.FieldType)).before args0 about1 = true := code_word (m := ⟨7, 5⟩) (meth := k7m5) (c := k7c5) (by decide +kernel) rfl rfl rfl (by decide +kernel)
set_option maxRecDepth 65536 in
theorem w_c5 : (Jvm.Cond.code ({ cls := "java/lang/Object", name := "<init>", desc := "()V" } : Jvm.MethodName) object_method_1_code (1 : Nat) (Option.none : Option Jvm.ClassFile.FieldType)).before args0 about1 = true := code_word (m := ⟨0, 0⟩) (meth := k0m0) (c := k0c0) (by decide +kernel) rfl rfl rfl (by decide +kernel)
set_option maxRecDepth 65536 in
theorem w_c6 : (Jvm.Cond.code ({ cls := "com/example/redress/redress/definition/Statement", name := "stripBlanks", desc := "(Ljava/lang/String;)Ljava/lang/String;" } : Jvm.MethodName) prog_32_method_5_code (3 : Nat) (Option.some (Jvm.ClassFile.FieldType.object "java/lang/String"))).before args0 about1 = true := code_word (m := ⟨8, 2⟩) (meth := k8m2) (c := k8c2) (by decide +kernel) rfl rfl rfl (by decide +kernel)
set_option maxRecDepth 65536 in
theorem w_c7 : (Jvm.Cond.code ({ cls := "java/lang/String", name := "length", desc := "()I" } : Jvm.MethodName) jdk_42_method_54_code (1 : Nat) (Option.some Jvm.ClassFile.FieldType.int)).before args0 about1 = true := code_word (m := ⟨7, 2⟩) (meth := k7m2) (c := k7c2) (by decide +kernel) rfl rfl rfl (by decide +kernel)
set_option maxRecDepth 65536 in
theorem w_c8 : (Jvm.Cond.code ({ cls := "java/lang/String", name := "coder", desc := "()B" } : Jvm.MethodName) jdk_42_method_152_code (1 : Nat) (Option.some Jvm.ClassFile.FieldType.byte)).before args0 about1 = true := code_word (m := ⟨7, 7⟩) (meth := k7m7) (c := k7c7) (by decide +kernel) rfl rfl rfl (by decide +kernel)
set_option maxRecDepth 65536 in
theorem w_c9 : (Jvm.Cond.code ({ cls := "java/lang/String", name := "substring", desc := "(II)Ljava/lang/String;" } : Jvm.MethodName) jdk_42_method_92_code (5 : Nat) (Option.some (Jvm.ClassFile.FieldType.object "java/lang/String"))).before args0 about1 = true := code_word (m := ⟨7, 4⟩) (meth := k7m4) (c := k7c4) (by decide +kernel) rfl rfl rfl (by decide +kernel)
set_option maxRecDepth 65536 in
theorem w_c10 : (Jvm.Cond.code ({ cls := "java/lang/String", name := "checkBoundsBeginEnd", desc := "(III)V" } : Jvm.MethodName) jdk_42_method_158_code (3 : Nat) (Option.none : Option Jvm.ClassFile.FieldType)).before args0 about1 = true := code_word (m := ⟨7, 10⟩) (meth := k7m10) (c := k7c10) (by decide +kernel) rfl rfl rfl (by decide +kernel)
set_option maxRecDepth 65536 in
theorem w_c11 : (Jvm.Cond.code ({ cls := "jdk/internal/util/Preconditions", name := "checkFromToIndex", desc := "(IIILjava/util/function/BiFunction;)I" } : Jvm.MethodName) jdk_41_method_12_code (4 : Nat) (Option.some Jvm.ClassFile.FieldType.int)).before args0 about1 = true := code_word (m := ⟨9, 2⟩) (meth := k9m2) (c := k9c2) (by decide +kernel) rfl rfl rfl (by decide +kernel)
set_option maxRecDepth 65536 in
theorem w_c12 : (Jvm.Cond.code ({ cls := "com/example/redress/redress/definition/StatementStripBlanksPinLaw", name := "at", desc := "(Ljava/lang/String;I[CII)Z" } : Jvm.MethodName) method_6_code (5 : Nat) (Option.some Jvm.ClassFile.FieldType.boolean)).before args0 about1 = true := code_word (m := ⟨1, 5⟩) (meth := k1m5) (c := k1c5) (by decide +kernel) rfl rfl rfl (by decide +kernel)
set_option maxRecDepth 65536 in
theorem w_c13 : (Jvm.Cond.code ({ cls := "java/lang/StringUTF16", name := "compress", desc := "([CII)[B" } : Jvm.MethodName) jdk_52_method_16_code (6 : Nat) (Option.some (Jvm.ClassFile.FieldType.array Jvm.ClassFile.FieldType.byte))).before args0 about1 = true := code_word (m := ⟨10, 2⟩) (meth := k10m2) (c := k10c2) (by decide +kernel) rfl rfl rfl (by decide +kernel)
set_option maxRecDepth 65536 in
theorem w_c14 : (Jvm.Cond.code ({ cls := "java/lang/StringUTF16", name := "compress", desc := "([CI[BII)I" } : Jvm.MethodName) jdk_52_method_21_code (7 : Nat) (Option.some Jvm.ClassFile.FieldType.int)).before args0 about1 = true := code_word (m := ⟨10, 3⟩) (meth := k10m3) (c := k10c3) (by decide +kernel) rfl rfl rfl (by decide +kernel)
set_option maxRecDepth 65536 in
theorem w_c15 : (Jvm.Cond.code ({ cls := "java/lang/StringUTF16", name := "coderFromArrayLen", desc := "([BI)B" } : Jvm.MethodName) jdk_52_method_15_code (2 : Nat) (Option.some Jvm.ClassFile.FieldType.byte)).before args0 about1 = true := code_word (m := ⟨10, 1⟩) (meth := k10m1) (c := k10c1) (by decide +kernel) rfl rfl rfl (by decide +kernel)
set_option maxRecDepth 65536 in
theorem w_c16 : (Jvm.Cond.code ({ cls := "java/lang/String", name := "charAt", desc := "(I)C" } : Jvm.MethodName) jdk_42_method_56_code (2 : Nat) (Option.some Jvm.ClassFile.FieldType.char)).before args0 about1 = true := code_word (m := ⟨7, 3⟩) (meth := k7m3) (c := k7c3) (by decide +kernel) rfl rfl rfl (by decide +kernel)
set_option maxRecDepth 65536 in
theorem w_c17 : (Jvm.Cond.code ({ cls := "java/lang/String", name := "isLatin1", desc := "()Z" } : Jvm.MethodName) jdk_42_method_154_code (1 : Nat) (Option.some Jvm.ClassFile.FieldType.boolean)).before args0 about1 = true := code_word (m := ⟨7, 8⟩) (meth := k7m8) (c := k7c8) (by decide +kernel) rfl rfl rfl (by decide +kernel)
set_option maxRecDepth 65536 in
theorem w_c18 : (Jvm.Cond.code ({ cls := "java/lang/StringLatin1", name := "charAt", desc := "([BI)C" } : Jvm.MethodName) jdk_43_method_2_code (2 : Nat) (Option.some Jvm.ClassFile.FieldType.char)).before args0 about1 = true := code_word (m := ⟨11, 1⟩) (meth := k11m1) (c := k11c1) (by decide +kernel) rfl rfl rfl (by decide +kernel)
set_option maxRecDepth 65536 in
theorem w_c19 : (Jvm.Cond.code ({ cls := "java/lang/String", name := "checkIndex", desc := "(II)V" } : Jvm.MethodName) jdk_42_method_155_code (2 : Nat) (Option.none : Option Jvm.ClassFile.FieldType)).before args0 about1 = true := code_word (m := ⟨7, 9⟩) (meth := k7m9) (c := k7c9) (by decide +kernel) rfl rfl rfl (by decide +kernel)
set_option maxRecDepth 65536 in
theorem w_c20 : (Jvm.Cond.code ({ cls := "jdk/internal/util/Preconditions", name := "checkIndex", desc := "(IILjava/util/function/BiFunction;)I" } : Jvm.MethodName) jdk_41_method_11_code (3 : Nat) (Option.some Jvm.ClassFile.FieldType.int)).before args0 about1 = true := code_word (m := ⟨9, 1⟩) (meth := k9m1) (c := k9c1) (by decide +kernel) rfl rfl rfl (by decide +kernel)
set_option maxRecDepth 65536 in
theorem w_c21 : (Jvm.Cond.code ({ cls := "com/example/redress/redress/definition/Statement", name := "isBlank", desc := "(C)Z" } : Jvm.MethodName) prog_32_method_4_code (1 : Nat) (Option.some Jvm.ClassFile.FieldType.boolean)).before args0 about1 = true := code_word (m := ⟨8, 1⟩) (meth := k8m1) (c := k8c1) (by decide +kernel) rfl rfl rfl (by decide +kernel)
set_option maxRecDepth 65536 in
theorem w_c22 : (Jvm.Cond.code ({ cls := "java/lang/StringLatin1", name := "newString", desc := "([BII)Ljava/lang/String;" } : Jvm.MethodName) jdk_43_method_47_code (3 : Nat) (Option.some (Jvm.ClassFile.FieldType.object "java/lang/String"))).before args0 about1 = true := code_word (m := ⟨11, 2⟩) (meth := k11m2) (c := k11c2) (by decide +kernel) rfl rfl rfl (by decide +kernel)
set_option maxRecDepth 65536 in
theorem w_c23 : (Jvm.Cond.code ({ cls := "java/util/Arrays", name := "copyOfRange", desc := "([BII)[B" } : Jvm.MethodName) jdk_65_method_132_code (3 : Nat) (Option.some (Jvm.ClassFile.FieldType.array Jvm.ClassFile.FieldType.byte))).before args0 about1 = true := code_word (m := ⟨12, 2⟩) (meth := k12m2) (c := k12c2) (by decide +kernel) rfl rfl rfl (by decide +kernel)
set_option maxRecDepth 65536 in
theorem w_c24 : (Jvm.Cond.code ({ cls := "java/util/Arrays", name := "copyOfRangeByte", desc := "([BII)[B" } : Jvm.MethodName) jdk_65_method_133_code (5 : Nat) (Option.some (Jvm.ClassFile.FieldType.array Jvm.ClassFile.FieldType.byte))).before args0 about1 = true := code_word (m := ⟨12, 3⟩) (meth := k12m3) (c := k12c3) (by decide +kernel) rfl rfl rfl (by decide +kernel)
set_option maxRecDepth 65536 in
theorem w_c25 : (Jvm.Cond.code ({ cls := "java/util/Arrays", name := "checkLength", desc := "(II)V" } : Jvm.MethodName) jdk_65_method_131_code (2 : Nat) (Option.none : Option Jvm.ClassFile.FieldType)).before args0 about1 = true := code_word (m := ⟨12, 1⟩) (meth := k12m1) (c := k12c1) (by decide +kernel) rfl rfl rfl (by decide +kernel)
set_option maxRecDepth 65536 in
theorem w_c26 : (Jvm.Cond.code ({ cls := "java/lang/Math", name := "min", desc := "(II)I" } : Jvm.MethodName) jdk_29_method_69_code (2 : Nat) (Option.some Jvm.ClassFile.FieldType.int)).before args0 about1 = true := code_word (m := ⟨13, 1⟩) (meth := k13m1) (c := k13c1) (by decide +kernel) rfl rfl rfl (by decide +kernel)
set_option maxRecDepth 65536 in
theorem w_c27 : (Jvm.Cond.code ({ cls := "java/lang/String", name := "<init>", desc := "([BB)V" } : Jvm.MethodName) jdk_42_method_151_code (3 : Nat) (Option.none : Option Jvm.ClassFile.FieldType)).before args0 about1 = true := code_word (m := ⟨7, 6⟩) (meth := k7m6) (c := k7c6) (by decide +kernel) rfl rfl rfl (by decide +kernel)
set_option maxRecDepth 65536 in
theorem w_c28 : (Jvm.Cond.code ({ cls := "com/example/redress/redress/definition/StatementStripBlanksPinLaw", name := "blank", desc := "(C)Z" } : Jvm.MethodName) method_3_code (1 : Nat) (Option.some Jvm.ClassFile.FieldType.boolean)).before args0 about1 = true := code_word (m := ⟨1, 2⟩) (meth := k1m2) (c := k1c2) (by decide +kernel) rfl rfl rfl (by decide +kernel)
def codes1 : List Jvm.Cond := [Jvm.Cond.code x code maxLocals ret, Jvm.Cond.code ({ cls := "com/example/redress/redress/definition/StatementStripBlanksPinLaw", name := "pick", desc := "(I)C" } : Jvm.MethodName) method_4_code (2 : Nat) (Option.some Jvm.ClassFile.FieldType.char), Jvm.Cond.code ({ cls := "com/example/redress/redress/definition/StatementStripBlanksPinLaw", name := "make", desc := "(I[C)Ljava/lang/String;" } : Jvm.MethodName) method_5_code (2 : Nat) (Option.some (Jvm.ClassFile.FieldType.object "java/lang/String")), Jvm.Cond.code ({ cls := "java/lang/String", name := "<init>", desc := "([C)V" } : Jvm.MethodName) jdk_42_method_3_code (2 : Nat) (Option.none : Option Jvm.ClassFile.FieldType), Jvm.Cond.code ({ cls := "java/lang/String", name := "<init>", desc := "([CIILjava/lang/Void;)V" } : Jvm.MethodName) jdk_42_method_149_code (6 : Nat) (Option.none : Option Jvm.ClassFile.FieldType), Jvm.Cond.code ({ cls := "java/lang/Object", name := "<init>", desc := "()V" } : Jvm.MethodName) object_method_1_code (1 : Nat) (Option.none : Option Jvm.ClassFile.FieldType), Jvm.Cond.code ({ cls := "com/example/redress/redress/definition/Statement", name := "stripBlanks", desc := "(Ljava/lang/String;)Ljava/lang/String;" } : Jvm.MethodName) prog_32_method_5_code (3 : Nat) (Option.some (Jvm.ClassFile.FieldType.object "java/lang/String")), Jvm.Cond.code ({ cls := "java/lang/String", name := "length", desc := "()I" } : Jvm.MethodName) jdk_42_method_54_code (1 : Nat) (Option.some Jvm.ClassFile.FieldType.int), Jvm.Cond.code ({ cls := "java/lang/String", name := "coder", desc := "()B" } : Jvm.MethodName) jdk_42_method_152_code (1 : Nat) (Option.some Jvm.ClassFile.FieldType.byte), Jvm.Cond.code ({ cls := "java/lang/String", name := "substring", desc := "(II)Ljava/lang/String;" } : Jvm.MethodName) jdk_42_method_92_code (5 : Nat) (Option.some (Jvm.ClassFile.FieldType.object "java/lang/String")), Jvm.Cond.code ({ cls := "java/lang/String", name := "checkBoundsBeginEnd", desc := "(III)V" } : Jvm.MethodName) jdk_42_method_158_code (3 : Nat) (Option.none : Option Jvm.ClassFile.FieldType), Jvm.Cond.code ({ cls := "jdk/internal/util/Preconditions", name := "checkFromToIndex", desc := "(IIILjava/util/function/BiFunction;)I" } : Jvm.MethodName) jdk_41_method_12_code (4 : Nat) (Option.some Jvm.ClassFile.FieldType.int), Jvm.Cond.code ({ cls := "com/example/redress/redress/definition/StatementStripBlanksPinLaw", name := "at", desc := "(Ljava/lang/String;I[CII)Z" } : Jvm.MethodName) method_6_code (5 : Nat) (Option.some Jvm.ClassFile.FieldType.boolean), Jvm.Cond.code ({ cls := "java/lang/StringUTF16", name := "compress", desc := "([CII)[B" } : Jvm.MethodName) jdk_52_method_16_code (6 : Nat) (Option.some (Jvm.ClassFile.FieldType.array Jvm.ClassFile.FieldType.byte)), Jvm.Cond.code ({ cls := "java/lang/StringUTF16", name := "compress", desc := "([CI[BII)I" } : Jvm.MethodName) jdk_52_method_21_code (7 : Nat) (Option.some Jvm.ClassFile.FieldType.int), Jvm.Cond.code ({ cls := "java/lang/StringUTF16", name := "coderFromArrayLen", desc := "([BI)B" } : Jvm.MethodName) jdk_52_method_15_code (2 : Nat) (Option.some Jvm.ClassFile.FieldType.byte), Jvm.Cond.code ({ cls := "java/lang/String", name := "charAt", desc := "(I)C" } : Jvm.MethodName) jdk_42_method_56_code (2 : Nat) (Option.some Jvm.ClassFile.FieldType.char), Jvm.Cond.code ({ cls := "java/lang/String", name := "isLatin1", desc := "()Z" } : Jvm.MethodName) jdk_42_method_154_code (1 : Nat) (Option.some Jvm.ClassFile.FieldType.boolean), Jvm.Cond.code ({ cls := "java/lang/StringLatin1", name := "charAt", desc := "([BI)C" } : Jvm.MethodName) jdk_43_method_2_code (2 : Nat) (Option.some Jvm.ClassFile.FieldType.char), Jvm.Cond.code ({ cls := "java/lang/String", name := "checkIndex", desc := "(II)V" } : Jvm.MethodName) jdk_42_method_155_code (2 : Nat) (Option.none : Option Jvm.ClassFile.FieldType), Jvm.Cond.code ({ cls := "jdk/internal/util/Preconditions", name := "checkIndex", desc := "(IILjava/util/function/BiFunction;)I" } : Jvm.MethodName) jdk_41_method_11_code (3 : Nat) (Option.some Jvm.ClassFile.FieldType.int), Jvm.Cond.code ({ cls := "com/example/redress/redress/definition/Statement", name := "isBlank", desc := "(C)Z" } : Jvm.MethodName) prog_32_method_4_code (1 : Nat) (Option.some Jvm.ClassFile.FieldType.boolean), Jvm.Cond.code ({ cls := "java/lang/StringLatin1", name := "newString", desc := "([BII)Ljava/lang/String;" } : Jvm.MethodName) jdk_43_method_47_code (3 : Nat) (Option.some (Jvm.ClassFile.FieldType.object "java/lang/String")), Jvm.Cond.code ({ cls := "java/util/Arrays", name := "copyOfRange", desc := "([BII)[B" } : Jvm.MethodName) jdk_65_method_132_code (3 : Nat) (Option.some (Jvm.ClassFile.FieldType.array Jvm.ClassFile.FieldType.byte)), Jvm.Cond.code ({ cls := "java/util/Arrays", name := "copyOfRangeByte", desc := "([BII)[B" } : Jvm.MethodName) jdk_65_method_133_code (5 : Nat) (Option.some (Jvm.ClassFile.FieldType.array Jvm.ClassFile.FieldType.byte)), Jvm.Cond.code ({ cls := "java/util/Arrays", name := "checkLength", desc := "(II)V" } : Jvm.MethodName) jdk_65_method_131_code (2 : Nat) (Option.none : Option Jvm.ClassFile.FieldType), Jvm.Cond.code ({ cls := "java/lang/Math", name := "min", desc := "(II)I" } : Jvm.MethodName) jdk_29_method_69_code (2 : Nat) (Option.some Jvm.ClassFile.FieldType.int), Jvm.Cond.code ({ cls := "java/lang/String", name := "<init>", desc := "([BB)V" } : Jvm.MethodName) jdk_42_method_151_code (3 : Nat) (Option.none : Option Jvm.ClassFile.FieldType), Jvm.Cond.code ({ cls := "com/example/redress/redress/definition/StatementStripBlanksPinLaw", name := "blank", desc := "(C)Z" } : Jvm.MethodName) method_3_code (1 : Nat) (Option.some Jvm.ClassFile.FieldType.boolean)]
set_option maxRecDepth 65536 in
theorem codes_eq : words1.filter isCode = codes1 := rfl
theorem w_codes : ∀ c ∈ words1.filter isCode, c.before args0 about1 = true := by
  rw [codes_eq]
  intro c hc
  simp only [codes1, List.mem_cons, List.not_mem_nil, or_false] at hc
  rcases hc with rfl | rfl | rfl | rfl | rfl | rfl | rfl | rfl | rfl | rfl | rfl | rfl | rfl | rfl | rfl | rfl | rfl | rfl | rfl | rfl | rfl | rfl | rfl | rfl | rfl | rfl | rfl | rfl | rfl
  · exact w_c0
  · exact w_c1
  · exact w_c2
  · exact w_c3
  · exact w_c4
  · exact w_c5
  · exact w_c6
  · exact w_c7
  · exact w_c8
  · exact w_c9
  · exact w_c10
  · exact w_c11
  · exact w_c12
  · exact w_c13
  · exact w_c14
  · exact w_c15
  · exact w_c16
  · exact w_c17
  · exact w_c18
  · exact w_c19
  · exact w_c20
  · exact w_c21
  · exact w_c22
  · exact w_c23
  · exact w_c24
  · exact w_c25
  · exact w_c26
  · exact w_c27
  · exact w_c28
set_option maxRecDepth 65536 in
theorem w_t1 : (words1.take 24).all (fun c => isCode c || c.before args0 about1) = true := by decide +kernel
set_option maxRecDepth 65536 in
theorem w_t2 : ((words1.drop 24).take 24).all (fun c => isCode c || c.before args0 about1) = true := by decide +kernel
set_option maxRecDepth 65536 in
theorem w_t3 : (((words1.drop 24).drop 24).take 24).all (fun c => isCode c || c.before args0 about1) = true := by decide +kernel
set_option maxRecDepth 65536 in
theorem w_t4 : ((((words1.drop 24).drop 24).drop 24).take 24).all (fun c => isCode c || c.before args0 about1) = true := by decide +kernel
set_option maxRecDepth 65536 in
theorem w_t5 : (((((words1.drop 24).drop 24).drop 24).drop 24).take 24).all (fun c => isCode c || c.before args0 about1) = true := by decide +kernel
set_option maxRecDepth 65536 in
theorem w_t6 : (((((words1.drop 24).drop 24).drop 24).drop 24).drop 24).all (fun c => isCode c || c.before args0 about1) = true := by decide +kernel
theorem w_tables : (allAtoms (Jvm.Cond.code x code maxLocals ret :: tables_1)).before args0 about1 = true := by
  rw [allAtoms_all]
  show words1.all (fun c => c.before args0 about1) = true
  refine all_split ?_ w_codes
  rw [← List.take_append_drop 24 words1, List.all_append, w_t1, ← List.take_append_drop 24 (words1.drop 24), List.all_append, w_t2, ← List.take_append_drop 24 ((words1.drop 24).drop 24), List.all_append, w_t3, ← List.take_append_drop 24 (((words1.drop 24).drop 24).drop 24), List.all_append, w_t4, ← List.take_append_drop 24 ((((words1.drop 24).drop 24).drop 24).drop 24), List.all_append, w_t5, w_t6]
  rfl
set_option maxRecDepth 65536 in
theorem w_rest : rest_1_c.before args0 about1 = true := by decide +kernel
set_option maxRecDepth 65536 in
theorem w_case : (Jvm.Cond.and given_1 narrow_1).before args0 about1 = true := by decide +kernel
set_option maxRecDepth 65536 in
theorem w_consts : constsHeld consts_1 about1 := Jvm.Lit.constsHeldB_iff.mp (by decide +kernel)
theorem w_applies : (headSpec (Jvm.Cond.code x code maxLocals ret :: tables_1) room_1).applies x e0.platform about1 = true :=
  (Spec.applies_iff w_frames).mpr ⟨w_running, w_runnable, w_alone, w_named, w_hears, w_ripe, w_room, w_tables⟩
theorem atStart : AtStart classFile x code maxLocals ret World_1 tables_1 room_1 Calls_1 rest_1 Pre_1 launch0 p0 e0 about1 theMethod args0 below0 :=
  ⟨lists_1, trivial, launch0.admits_env _ _ _, launch0.least_env, fairChoices_fair.cas, fairChoices_fair.clock, w_frames, w_args, w_heap, w_applies, ⟨w_consts, trivial⟩, w_rest, w_case⟩
end start1
theorem witness_1 : WitnessClaimed_1 := ⟨start1.p0, start1.e0, start1.about1, start1.theMethod, start1.args0, start1.below0, start1.atStart⟩
end Jvm.Pilot.@@N@@
